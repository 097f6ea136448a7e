import JvmDerived
import JvmDerived.Pilot.@@N@@Statement
import JvmDerived.Pilot.@@N@@Code
set_option linter.unusedVariables false
set_option linter.unusedSimpArgs false
namespace Jvm.OwnK
open Jvm Jvm.ClassFile Sem Op Lib Jvm.Free Jvm.Stand Jvm.LawKit Jvm.RoadKit Bundle
/-! own kit, part 1: a walk as a triple on (heap, pc, locals, stack): Seg; contracts: Ct; who pays a call: Pays -/
def SfOk (Z : State) (EL : List (String × Nat)) (vm : Vm) (h : Heap) (sf : List Addr) : Prop := ∀ x ∈ sf, Z.heap.size ≤ x ∧ x < h.size ∧ Safe Z EL vm h x
def Wk (p : Program) (l : Launch) (e : Env) (R : Room) (s : State) (m : MethodId) (args : Array Value) (below : List Frame) (meth : Method) (c : Code) (Z : State) (a0 : Array Value) (EL : List (String × Nat)) (own : String) (sf : List Addr) (k n : Nat) (T : State) (h : Heap) : Prop :=
  ∃ (vm0 : Vm) (locs : List Loc) (k0 : Nat), Stand p l e R (s.setVm vm0) m args below meth c T locs k n ∧ T.heap = h ∧ s.Since vm0 k0 ∧ k0 ≤ h.size ∧ Z.Warmed39 vm0 ∧ vm0.findClass own = some m.cls ∧ CHr Z EL s.vm s.heap vm0 h ∧ Fr Z.heap.size locs ∧ Ext Z.heap h ∧ EW Z a0 EL ∧ SfOk Z EL vm0 h sf
def Cx (p : Program) (meth : Method) (c : Code) (y : MethodName) (bytes : ByteArray) (maxL : Nat) (ret : Option FieldType) : Prop :=
  p.tables.exec = Jvm.exec ∧ c.code = bytes ∧ c.maxLocals = maxL ∧ meth.sig.returnType = ret ∧ meth.locks = false ∧ meth.name = y.name
def Gl (p : Program) (e : Env) (below : List Frame) (s Z : State) (EL : List (String × Nat)) (Q : Option Value → Heap → Prop) (rc rs : Nat) (u : State) : Prop :=
  ∃ (s₂ : State) (o : Outcome), Steps p.tables e below u s₂ ∧ s₂.status = .running ∧ Ended s₂ below o ∧ ∃ v L, o = .returned v ∧ (Fr Z.heap.size L ∧ Ext Z.heap s₂.heap ∧ Q v s₂.heap) ∧ CHr Z EL s.vm s.heap s₂.vm s₂.heap ∧ ReturnedEndW s o s₂ L rc rs
def Seg (l : Launch) (Z : State) (a0 : Array Value) (EL : List (String × Nat)) (y : MethodName) (bytes : ByteArray) (maxL : Nat) (ret : Option FieldType) (rm : Room) (Q : Option Value → Heap → Prop) (h : Heap) (k n : Nat) (sf : List Addr) (pc : Nat) (L : Array Slot) (S : List Value) : Prop :=
  ∀ (p : Program) (e : Env) (s : State) (m : MethodId) (args : Array Value) (below : List Frame) (meth : Method) (c : Code) (T : State), Cx p meth c y bytes maxL ret → Wk p l e rm s m args below meth c Z a0 EL y.cls sf k n T h → Gl p e below s Z EL Q rm.cells rm.slots (T.setTop (mkF m pc L S))
/-- a contract -/
def Ct (l : Launch) (Z : State) (EL : List (String × Nat)) (sf : List Addr) (ws : List Jvm.Cond) (y : MethodName) (bytes : ByteArray) (maxL : Nat) (ret : Option FieldType) (rm : Room) (as' : Array Value) (h : Heap) (Q : Option Value → Heap → Prop) : Prop :=
  MetFree l y (head1 (Jvm.Cond.code y bytes maxL ret :: ws) rm) (fun a U => a = as' ∧ Z.Warmed39 U.vm ∧ U.heap = h ∧ CHv Z EL U.vm h ∧ SfOk Z EL U.vm h sf ∧ Ext Z.heap h) (fun _ _ _ _ _ => True)
    (fun _ U o U' => ∃ v L, o = .returned v ∧ (Fr Z.heap.size L ∧ Ext Z.heap U'.heap ∧ Q v U'.heap) ∧ CHr Z EL U.vm U.heap U'.vm U'.heap ∧ ReturnedEndW U o U' L rm.cells rm.slots)
section Facts
variable {Z : State} {EL : List (String × Nat)} {vm vm1 : Vm} {h h1 h2 h' : Heap} {sf sf' : List Addr} {ws : List Addr} {a x : Addr} {sl : Nat} {v : Value}
theorem ext_rfl (h : Heap) : Ext h h := ⟨Nat.le_refl _, fun _ _ q => q⟩
theorem ext_tr (A : Ext h h1) (B : Ext h1 h2) : Ext h h2 := ⟨Nat.le_trans A.1 B.1, fun x c q => B.2 x c (A.2 x c q)⟩
theorem ext_kp (A : Ext h h1) (K : Keep h1 h2 ws) (q : ∀ x ∈ ws, h.size ≤ x) : Ext h h2 := ⟨Nat.le_trans A.1 K.1, fun x c r => K.2.1 x c (A.2 x c r) fun z => absurd (Array.getElem?_eq_some_iff.mp r).1 (Nat.not_lt.mpr (q x z))⟩
theorem ext_wr (A : Ext h h1) (W : Wr h1 h2 a sl v) (q : h.size ≤ a) : Ext h h2 := ext_kp A (Keep.of_wr W) (allS q all0)
theorem keep_ext (E : Ext h h1) : Keep h h1 [] := (Keep.refl h []).ext E
theorem ext_keep (K : Keep h h1 []) : Ext h h1 := ⟨K.1, fun x c q => K.2.1 x c q (fun z => nomatch z)⟩
theorem keep_mono {ws' : List Addr} (K : Keep h h1 ws) (q : ∀ x ∈ ws, x ∈ ws' ∨ h.size ≤ x) : Keep h h1 ws' := (Keep.refl h ws').trans K q
theorem SfOk.sub (S : SfOk Z EL vm h sf) (q : ∀ x ∈ sf', x ∈ sf) : SfOk Z EL vm h sf' := fun x hx => S x (q x hx)
theorem SfOk.chr (S : SfOk Z EL vm h sf) (A : CHr Z EL vm h vm1 h') : SfOk Z EL vm1 h' sf := fun x hx => by
  obtain ⟨q1, q2, q3⟩ := S x hx
  exact ⟨q1, Nat.lt_of_lt_of_le q2 A.2.1, A.safe q2 q3⟩
theorem SfOk.cons (S : SfOk Z EL vm h sf) (q1 : Z.heap.size ≤ x) (q2 : x < h.size) (q3 : Safe Z EL vm h x) : SfOk Z EL vm h (x :: sf) := fun y hy => by
  rcases List.mem_cons.mp hy with rfl | hy
  · exact ⟨q1, q2, q3⟩
  · exact S y hy
theorem SfOk.safes (S : SfOk Z EL vm h sf) (q : ∀ x ∈ ws, x ∈ sf) : ∀ x ∈ ws, Safe Z EL vm h x := fun x hx => (S x (q x hx)).2.2
end Facts
section Core
variable {l : Launch} {Z : State} {a0 : Array Value} {EL : List (String × Nat)} {y : MethodName} {bytes : ByteArray} {maxL : Nat} {ret : Option FieldType} {rm : Room} {Q : Option Value → Heap → Prop} {h : Heap} {k n k' n' : Nat} {sf sf' : List Addr} {pc pc' : Nat} {L : Array Slot} {S : List Value}
variable {p : Program} {e : Env} {R : Room} {s : State} {m : MethodId} {args : Array Value} {below : List Frame} {meth : Method} {c : Code} {T : State} {own : String}
theorem Wk.here (w : Wk p l e R s m args below meth c Z a0 EL own sf k n T h) : At T m c below := by obtain ⟨_, _, _, X, -⟩ := w; exact X.here
theorem Wk.mono (w : Wk p l e R s m args below meth c Z a0 EL own sf k n T h) (hk : k ≤ k') (hn : n ≤ n') (q : ∀ x ∈ sf', x ∈ sf) : Wk p l e R s m args below meth c Z a0 EL own sf' k' n' T h := by
  obtain ⟨vm0, locs, k0, X, r1, r2, r3, r4, r5, r6, r7, r8, r9, r10⟩ := w
  exact ⟨vm0, locs, k0, X.mono hk hn, r1, r2, r3, r4, r5, r6, r7, r8, r9, r10.sub q⟩
theorem Seg.mono (hk : k ≤ k') (hn : n ≤ n') (q : ∀ x ∈ sf', x ∈ sf) (g : Seg l Z a0 EL y bytes maxL ret rm Q h k' n' sf' pc L S) : Seg l Z a0 EL y bytes maxL ret rm Q h k n sf pc L S :=
  fun p e s m args below meth c T C w => g p e s m args below meth c T C (w.mono hk hn q)
theorem Seg.post {Q' : Option Value → Heap → Prop} (q : ∀ v h, Q' v h → Q v h) (g : Seg l Z a0 EL y bytes maxL ret rm Q' h k n sf pc L S) : Seg l Z a0 EL y bytes maxL ret rm Q h k n sf pc L S :=
  fun p e s m args below meth c T C w => by
    obtain ⟨s₂, o, h1, h2, h3, v, Ls, h4, ⟨h5, h6, h7⟩, h8⟩ := g p e s m args below meth c T C w
    exact ⟨s₂, o, h1, h2, h3, v, Ls, h4, ⟨h5, h6, q _ _ h7⟩, h8⟩
theorem Gl.st {u u' : State} (hs : ∀ t, Steps p.tables e below u' t → Steps p.tables e below u t) (g : Gl p e below s Z EL Q k n u') : Gl p e below s Z EL Q k n u := by
  obtain ⟨s₂, o, h1, r⟩ := g
  exact ⟨s₂, o, hs _ h1, r⟩
theorem Seg.start (g : Ext Z.heap h → Seg l Z a0 EL y bytes maxL ret rm Q h k n sf pc L S) : Seg l Z a0 EL y bytes maxL ret rm Q h k n sf pc L S :=
  fun p e s m args below meth c T C w => by
    obtain ⟨vm0, locs, k0, X, r1, r2, r3, r4, r5, r6, r7, r8, r9, r10⟩ := w
    exact g r8 p e s m args below meth c T C ⟨vm0, locs, k0, X, r1, r2, r3, r4, r5, r6, r7, r8, r9, r10⟩
/-- a plain step -/
theorem Seg.plain {L' : Array Slot} {S' : List Value} (hs : ∀ (p : Program) (e : Env) (m : MethodId) (below : List Frame) (c : Code) (T : State) (t : State), p.tables.exec = Jvm.exec → c.code = bytes → At T m c below → Steps p.tables e below (T.setTop (mkF m pc' L' S')) t → Steps p.tables e below (T.setTop (mkF m pc L S)) t)
    (g : Seg l Z a0 EL y bytes maxL ret rm Q h k n sf pc' L' S') : Seg l Z a0 EL y bytes maxL ret rm Q h k n sf pc L S :=
  fun p e s m args below meth c T C w => Gl.st (fun t => hs p e m below c T t C.1 C.2.1 w.here) (g p e s m args below meth c T C w)
theorem Ct.of_seg {as' : Array Value} {ws : List Jvm.Cond} (hpn : plainFor y = true) (hEL : EW Z a0 EL) (hent : ∀ m, entryFrame m as' maxL = mkF m 0 L []) (g : Seg l Z a0 EL y bytes maxL ret rm Q h 0 0 sf 0 L []) :
    Ct l Z EL sf ws y bytes maxL ret rm as' h Q := by
  refine MetFree.of_bodySF hpn hisR ?_
  intro p e s m args below meth c s₁ Bd hml0 hP hK
  obtain ⟨rfl, hZ, hh, hC, hSf, hZ0⟩ := hP
  subst hh
  have X0 : Stand p l e rm (s.setVm s.vm) m _ below meth c s₁ [] 0 0 := Stand.of_body Bd
  have e0 : s₁.heap = s.heap := by rw [Bd.state]; rfl
  have hown : s.vm.findClass y.cls = some m.cls := findClass_of_methodNamed Bd.named
  rw [hent m]
  exact g p e s m _ below meth c s₁ ⟨Bd.exec, Bd.bytes, hml0, Bd.returns, Bd.notSynchronized, (name_of_methodNamed Bd.named Bd.method).1⟩ ⟨s.vm, [], 0, X0, e0, (State.WarmedH.refl s).since 0, Nat.zero_le _, hZ, hown, CHr.refl hC, Fr.nil _, hZ0, hEL, hSf⟩
theorem Wk.out (w : Wk p l e R s m args below meth c Z a0 EL own sf k n T h) (C : Cx p meth c y bytes maxL ret) {v : Option Value} (hv : ret = none → v = none) (hQ : Q v h) (hk : k ≤ R.cells) (hn : n ≤ R.slots) {u : State}
    (hs : ∀ (vm0 : Vm) (locs : List Loc), Stand p l e R (s.setVm vm0) m args below meth c T locs k n → ∀ fs, (∀ (f : JFrame) (acts : List Action), f.method = m → f.locked = none → f.entered = [] → (doReturn e (T.setTop f) acts v).1 = T.setFrames fs) → Steps p.tables e below u (T.setFrames fs)) : Gl p e below s Z EL Q R.cells R.slots u := by
  obtain ⟨vm0, locs, k0, X, rfl, r2, r3, r4, r5, r6, r7, r8, r9, r10⟩ := w
  obtain ⟨C1, C2, C3, C4, C5, C6⟩ := C
  obtain ⟨fs, h1, h2, h3, ⟨-, e1, e2, e3⟩⟩ := X.leaveW r2 r3 (v := v) (fun q => hv (C4 ▸ q)) C5
  refine ⟨_, _, hs vm0 locs X fs h1, h2, h3, v, locs, rfl, ⟨r7, r8, hQ⟩, ?_, ⟨v, rfl⟩, e1, e2, e3.mono hk hn⟩
  have A := CHv.at X r4 r9 r6.1
  exact r6.trans A
/-- returns -/
theorem Seg.retI {v : Int32} (hret : ret = some .int) (hd : decode bytes pc = .ok (.ireturn, 1)) (hk : k ≤ rm.cells) (hn : n ≤ rm.slots) (hQ : Q (some (.int v)) h) : Seg l Z a0 EL y bytes maxL ret rm Q h k n sf pc L [.int v] :=
  fun p e s m args below meth c T C w => w.out C (fun q => by rw [hret] at q; cases q) hQ hk hn fun vm0 locs X fs hl => X.ireturnOut C.1 (t := .int) (C.2.2.2.1.trans hret) rfl (Or.inl rfl) (hb C.2.1 hd) hl
theorem Seg.retN {v w : Int32} {t : FieldType} (hret : ret = some t) (ht : t = .boolean ∨ t = .byte ∨ t = .char ∨ t = .short) (hv : nar t v = w) (hd : decode bytes pc = .ok (.ireturn, 1)) (hk : k ≤ rm.cells) (hn : n ≤ rm.slots) (hQ : Q (some (.int w)) h) : Seg l Z a0 EL y bytes maxL ret rm Q h k n sf pc L [.int v] :=
  fun p e s m args below meth c T C w' => by
    subst hv
    exact w'.out C (fun q => by rw [hret] at q; cases q) hQ hk hn fun vm0 locs X fs hl => RoadKit.retN X C.1 (t := t) (C.2.2.2.1.trans hret) ht (hb C.2.1 hd) hl
theorem Seg.retA {v : Value} {t : FieldType} (hret : ret = some t) (ht : t.isReference = true) (hv : v.isRef = true) (hd : decode bytes pc = .ok (.areturn, 1)) (hk : k ≤ rm.cells) (hn : n ≤ rm.slots) (hQ : Q (some v) h) : Seg l Z a0 EL y bytes maxL ret rm Q h k n sf pc L [v] :=
  fun p e s m args below meth c T C w => w.out C (fun q => by rw [hret] at q; cases q) hQ hk hn fun vm0 locs X fs hl => X.areturnOut C.1 hv (C.2.2.2.1.trans hret) ht (hb C.2.1 hd) hl
theorem Seg.retL {v : Int64} (hret : ret = some .long) (hd : decode bytes pc = .ok (.lreturn, 1)) (hk : k ≤ rm.cells) (hn : n ≤ rm.slots) (hQ : Q (some (.long v)) h) : Seg l Z a0 EL y bytes maxL ret rm Q h k n sf pc L [.long v] :=
  fun p e s m args below meth c T C w => w.out C (fun q => by rw [hret] at q; cases q) hQ hk hn fun vm0 locs X fs hl => X.lreturnOut C.1 (C.2.2.2.1.trans hret) (hb C.2.1 hd) hl
theorem Seg.ret0 (hret : ret = none) (hd : decode bytes pc = .ok (.return_, 1)) (hk : k ≤ rm.cells) (hn : n ≤ rm.slots) (hQ : Q none h) : Seg l Z a0 EL y bytes maxL ret rm Q h k n sf pc L [] :=
  fun p e s m args below meth c T C w => w.out C (fun _ => rfl) hQ hk hn fun vm0 locs X fs hl => X.returnOut C.1 (C.2.2.2.1.trans hret) (hb C.2.1 hd) hl
end Core
section Plain
variable {l : Launch} {Z : State} {a0 : Array Value} {EL : List (String × Nat)} {y : MethodName} {bytes : ByteArray} {maxL : Nat} {ret : Option FieldType} {rm : Room} {Q : Option Value → Heap → Prop} {h : Heap} {k n : Nat} {sf : List Addr} {pc pc' : Nat} {L : Array Slot} {S : List Value}
theorem Seg.iloadN {i : Fin 4} {v : Int32} (hd : decode bytes pc = .ok (.iload_n i, 1)) (hl : L[i.val]? = some (.val (.int v))) (hp : pc + 1 = pc') (g : Seg l Z a0 EL y bytes maxL ret rm Q h k n sf pc' L (.int v :: S)) : Seg l Z a0 EL y bytes maxL ret rm Q h k n sf pc L S := by
  subst hp
  exact Seg.plain (fun p e m below c T t hx hc ha hr => XS.iloadN ha hx rfl (hb hc hd) hl hr) g
theorem Seg.iload {i : Nat} {v : Int32} (hd : decode bytes pc = .ok (.iload i, 2)) (hl : L[i]? = some (.val (.int v))) (hp : pc + 2 = pc') (g : Seg l Z a0 EL y bytes maxL ret rm Q h k n sf pc' L (.int v :: S)) : Seg l Z a0 EL y bytes maxL ret rm Q h k n sf pc L S := by
  subst hp
  exact Seg.plain (fun p e m below c T t hx hc ha hr => XS.iload ha hx rfl (hb hc hd) hl hr) g
theorem Seg.lloadN {i : Fin 4} {v : Int64} (hd : decode bytes pc = .ok (.lload_n i, 1)) (hl : L[i.val]? = some (.val (.long v))) (hp : pc + 1 = pc') (g : Seg l Z a0 EL y bytes maxL ret rm Q h k n sf pc' L (.long v :: S)) : Seg l Z a0 EL y bytes maxL ret rm Q h k n sf pc L S := by
  subst hp
  exact Seg.plain (fun p e m below c T t hx hc ha hr => XT.lloadN ha hx rfl (hb hc hd) hl hr) g
theorem Seg.lload {i : Nat} {v : Int64} (hd : decode bytes pc = .ok (.lload i, 2)) (hl : L[i]? = some (.val (.long v))) (hp : pc + 2 = pc') (g : Seg l Z a0 EL y bytes maxL ret rm Q h k n sf pc' L (.long v :: S)) : Seg l Z a0 EL y bytes maxL ret rm Q h k n sf pc L S := by
  subst hp
  exact Seg.plain (fun p e m below c T t hx hc ha hr => XT.lload ha hx rfl (hb hc hd) hl hr) g
theorem Seg.aloadN {i : Fin 4} {v : Value} (hd : decode bytes pc = .ok (.aload_n i, 1)) (hl : L[i.val]? = some (.val v)) (hv : v.isRef = true) (hp : pc + 1 = pc') (g : Seg l Z a0 EL y bytes maxL ret rm Q h k n sf pc' L (v :: S)) : Seg l Z a0 EL y bytes maxL ret rm Q h k n sf pc L S := by
  subst hp
  exact Seg.plain (fun p e m below c T t hx hc ha hr => XS.aloadN ha hx rfl (hb hc hd) hl hv hr) g
theorem Seg.aload {i : Nat} {v : Value} (hd : decode bytes pc = .ok (.aload i, 2)) (hl : L[i]? = some (.val v)) (hv : v.isRef = true) (hp : pc + 2 = pc') (g : Seg l Z a0 EL y bytes maxL ret rm Q h k n sf pc' L (v :: S)) : Seg l Z a0 EL y bytes maxL ret rm Q h k n sf pc L S := by
  subst hp
  exact Seg.plain (fun p e m below c T t hx hc ha hr => XS.aload ha hx rfl (hb hc hd) hl hv hr) g
theorem Seg.istoreN {i : Fin 4} {v : Int32} {L' : Array Slot} (hd : decode bytes pc = .ok (.istore_n i, 1)) (hl : storeLocals L i.val (.int v) = some L') (hp : pc + 1 = pc') (g : Seg l Z a0 EL y bytes maxL ret rm Q h k n sf pc' L' S) : Seg l Z a0 EL y bytes maxL ret rm Q h k n sf pc L (.int v :: S) := by
  subst hp
  exact Seg.plain (fun p e m below c T t hx hc ha hr => XS.istoreN ha hx rfl (hb hc hd) rfl hl hr) g
theorem Seg.istore {i : Nat} {v : Int32} {L' : Array Slot} (hd : decode bytes pc = .ok (.istore i, 2)) (hl : storeLocals L i (.int v) = some L') (hp : pc + 2 = pc') (g : Seg l Z a0 EL y bytes maxL ret rm Q h k n sf pc' L' S) : Seg l Z a0 EL y bytes maxL ret rm Q h k n sf pc L (.int v :: S) := by
  subst hp
  exact Seg.plain (fun p e m below c T t hx hc ha hr => XS.istore ha hx rfl (hb hc hd) rfl hl hr) g
theorem Seg.lstoreN {i : Fin 4} {v : Int64} {L' : Array Slot} (hd : decode bytes pc = .ok (.lstore_n i, 1)) (hl : storeLocals L i.val (.long v) = some L') (hp : pc + 1 = pc') (g : Seg l Z a0 EL y bytes maxL ret rm Q h k n sf pc' L' S) : Seg l Z a0 EL y bytes maxL ret rm Q h k n sf pc L (.long v :: S) := by
  subst hp
  exact Seg.plain (fun p e m below c T t hx hc ha hr => XT.lstoreN ha hx rfl (hb hc hd) rfl hl hr) g
theorem Seg.lstore {i : Nat} {v : Int64} {L' : Array Slot} (hd : decode bytes pc = .ok (.lstore i, 2)) (hl : storeLocals L i (.long v) = some L') (hp : pc + 2 = pc') (g : Seg l Z a0 EL y bytes maxL ret rm Q h k n sf pc' L' S) : Seg l Z a0 EL y bytes maxL ret rm Q h k n sf pc L (.long v :: S) := by
  subst hp
  exact Seg.plain (fun p e m below c T t hx hc ha hr => XT.lstore ha hx rfl (hb hc hd) rfl hl hr) g
theorem Seg.astoreN {i : Fin 4} {v : Value} {L' : Array Slot} (hd : decode bytes pc = .ok (.astore_n i, 1)) (hv : v.isRef = true) (hl : storeLocals L i.val v = some L') (hp : pc + 1 = pc') (g : Seg l Z a0 EL y bytes maxL ret rm Q h k n sf pc' L' S) : Seg l Z a0 EL y bytes maxL ret rm Q h k n sf pc L (v :: S) := by
  subst hp
  exact Seg.plain (fun p e m below c T t hx hc ha hr => XS.astoreN ha hx rfl (hb hc hd) rfl hv hl hr) g
theorem Seg.astore {i : Nat} {v : Value} {L' : Array Slot} (hd : decode bytes pc = .ok (.astore i, 2)) (hv : v.isRef = true) (hl : storeLocals L i v = some L') (hp : pc + 2 = pc') (g : Seg l Z a0 EL y bytes maxL ret rm Q h k n sf pc' L' S) : Seg l Z a0 EL y bytes maxL ret rm Q h k n sf pc L (v :: S) := by
  subst hp
  exact Seg.plain (fun p e m below c T t hx hc ha hr => XS.astore ha hx rfl (hb hc hd) rfl hv hl hr) g
theorem Seg.iconst {i : Int} {v : Int32} (hd : decode bytes pc = .ok (.iconst i, 1)) (hv : Int32.ofInt i = v) (hp : pc + 1 = pc') (g : Seg l Z a0 EL y bytes maxL ret rm Q h k n sf pc' L (.int v :: S)) : Seg l Z a0 EL y bytes maxL ret rm Q h k n sf pc L S := by
  subst hp
  exact Seg.plain (fun p e m below c T t hx hc ha hr => XT.iconstV ha hx rfl v (hb hc hd) hv hr) g
theorem Seg.bipush {i : Int} {v : Int32} (hd : decode bytes pc = .ok (.bipush i, 2)) (hv : (Int8.ofInt i).toInt32 = v) (hp : pc + 2 = pc') (g : Seg l Z a0 EL y bytes maxL ret rm Q h k n sf pc' L (.int v :: S)) : Seg l Z a0 EL y bytes maxL ret rm Q h k n sf pc L S := by
  subst hp
  exact Seg.plain (fun p e m below c T t hx hc ha hr => XT.bipushV ha hx rfl v (hb hc hd) hv hr) g
theorem Seg.sipush {i : Int} {v : Int32} (hd : decode bytes pc = .ok (.sipush i, 3)) (hv : (Int16.ofInt i).toInt32 = v) (hp : pc + 3 = pc') (g : Seg l Z a0 EL y bytes maxL ret rm Q h k n sf pc' L (.int v :: S)) : Seg l Z a0 EL y bytes maxL ret rm Q h k n sf pc L S := by
  subst hp
  exact Seg.plain (fun p e m below c T t hx hc ha hr => XT.sipushV ha hx rfl v (hb hc hd) hv hr) g
theorem Seg.lconst {i : Fin 2} {v : Int64} (hd : decode bytes pc = .ok (.lconst i, 1)) (hv : Int64.ofNat i = v) (hp : pc + 1 = pc') (g : Seg l Z a0 EL y bytes maxL ret rm Q h k n sf pc' L (.long v :: S)) : Seg l Z a0 EL y bytes maxL ret rm Q h k n sf pc L S := by
  subst hp
  exact Seg.plain (fun p e m below c T t hx hc ha hr => XT.lconstV ha hx rfl v (hb hc hd) hv hr) g
theorem Seg.anull  (hd : decode bytes pc = .ok (.aconst_null, 1))  (hp : pc + 1 = pc') (g : Seg l Z a0 EL y bytes maxL ret rm Q h k n sf pc' L (.null :: S)) : Seg l Z a0 EL y bytes maxL ret rm Q h k n sf pc L S := by
  subst hp
  exact Seg.plain (fun p e m below c T t hx hc ha hr => XS.aconstNull ha hx rfl (hb hc hd) hr) g
theorem Seg.iadd {x z v : Int32} (hd : decode bytes pc = .ok (.iadd, 1)) (hv : x + z = v) (hp : pc + 1 = pc') (g : Seg l Z a0 EL y bytes maxL ret rm Q h k n sf pc' L (.int v :: S)) : Seg l Z a0 EL y bytes maxL ret rm Q h k n sf pc L (.int z :: .int x :: S) := by
  subst hp
  exact Seg.plain (fun p e m below c T t hx hc ha hr => XS.iadd ha hx rfl (hb hc hd) rfl (by subst hv; exact hr)) g
theorem Seg.isub {x z v : Int32} (hd : decode bytes pc = .ok (.isub, 1)) (hv : x - z = v) (hp : pc + 1 = pc') (g : Seg l Z a0 EL y bytes maxL ret rm Q h k n sf pc' L (.int v :: S)) : Seg l Z a0 EL y bytes maxL ret rm Q h k n sf pc L (.int z :: .int x :: S) := by
  subst hp
  exact Seg.plain (fun p e m below c T t hx hc ha hr => XS.isub ha hx rfl (hb hc hd) rfl (by subst hv; exact hr)) g
theorem Seg.imul {x z v : Int32} (hd : decode bytes pc = .ok (.imul, 1)) (hv : x * z = v) (hp : pc + 1 = pc') (g : Seg l Z a0 EL y bytes maxL ret rm Q h k n sf pc' L (.int v :: S)) : Seg l Z a0 EL y bytes maxL ret rm Q h k n sf pc L (.int z :: .int x :: S) := by
  subst hp
  exact Seg.plain (fun p e m below c T t hx hc ha hr => XS.imul ha hx rfl (hb hc hd) rfl (by subst hv; exact hr)) g
theorem Seg.iand {x z v : Int32} (hd : decode bytes pc = .ok (.iand, 1)) (hv : x &&& z = v) (hp : pc + 1 = pc') (g : Seg l Z a0 EL y bytes maxL ret rm Q h k n sf pc' L (.int v :: S)) : Seg l Z a0 EL y bytes maxL ret rm Q h k n sf pc L (.int z :: .int x :: S) := by
  subst hp
  exact Seg.plain (fun p e m below c T t hx hc ha hr => XS.iand ha hx rfl (hb hc hd) rfl (by subst hv; exact hr)) g
theorem Seg.ior {x z v : Int32} (hd : decode bytes pc = .ok (.ior, 1)) (hv : x ||| z = v) (hp : pc + 1 = pc') (g : Seg l Z a0 EL y bytes maxL ret rm Q h k n sf pc' L (.int v :: S)) : Seg l Z a0 EL y bytes maxL ret rm Q h k n sf pc L (.int z :: .int x :: S) := by
  subst hp
  exact Seg.plain (fun p e m below c T t hx hc ha hr => XT.ior ha hx rfl (hb hc hd) rfl (by subst hv; exact hr)) g
theorem Seg.ixor {x z v : Int32} (hd : decode bytes pc = .ok (.ixor, 1)) (hv : x ^^^ z = v) (hp : pc + 1 = pc') (g : Seg l Z a0 EL y bytes maxL ret rm Q h k n sf pc' L (.int v :: S)) : Seg l Z a0 EL y bytes maxL ret rm Q h k n sf pc L (.int z :: .int x :: S) := by
  subst hp
  exact Seg.plain (fun p e m below c T t hx hc ha hr => XT.ixor ha hx rfl (hb hc hd) rfl (by subst hv; exact hr)) g
theorem Seg.ishl {x z v : Int32} (hd : decode bytes pc = .ok (.ishl, 1)) (hv : x <<< (z &&& 31) = v) (hp : pc + 1 = pc') (g : Seg l Z a0 EL y bytes maxL ret rm Q h k n sf pc' L (.int v :: S)) : Seg l Z a0 EL y bytes maxL ret rm Q h k n sf pc L (.int z :: .int x :: S) := by
  subst hp
  exact Seg.plain (fun p e m below c T t hx hc ha hr => XT.ishl ha hx rfl (hb hc hd) rfl (by subst hv; exact hr)) g
theorem Seg.ishr {x z v : Int32} (hd : decode bytes pc = .ok (.ishr, 1)) (hv : x >>> (z &&& 31) = v) (hp : pc + 1 = pc') (g : Seg l Z a0 EL y bytes maxL ret rm Q h k n sf pc' L (.int v :: S)) : Seg l Z a0 EL y bytes maxL ret rm Q h k n sf pc L (.int z :: .int x :: S) := by
  subst hp
  exact Seg.plain (fun p e m below c T t hx hc ha hr => XT.ishr ha hx rfl (hb hc hd) rfl (by subst hv; exact hr)) g
theorem Seg.iushr {x z v : Int32} (hd : decode bytes pc = .ok (.iushr, 1)) (hv : (x.toUInt32 >>> (z &&& 31).toUInt32).toInt32 = v) (hp : pc + 1 = pc') (g : Seg l Z a0 EL y bytes maxL ret rm Q h k n sf pc' L (.int v :: S)) : Seg l Z a0 EL y bytes maxL ret rm Q h k n sf pc L (.int z :: .int x :: S) := by
  subst hp
  exact Seg.plain (fun p e m below c T t hx hc ha hr => XT.iushr ha hx rfl (hb hc hd) rfl (by subst hv; exact hr)) g
theorem Seg.ladd {x z v : Int64} (hd : decode bytes pc = .ok (.ladd, 1)) (hv : x + z = v) (hp : pc + 1 = pc') (g : Seg l Z a0 EL y bytes maxL ret rm Q h k n sf pc' L (.long v :: S)) : Seg l Z a0 EL y bytes maxL ret rm Q h k n sf pc L (.long z :: .long x :: S) := by
  subst hp
  exact Seg.plain (fun p e m below c T t hx hc ha hr => XT.ladd ha hx rfl (hb hc hd) rfl (by subst hv; exact hr)) g
theorem Seg.lsub {x z v : Int64} (hd : decode bytes pc = .ok (.lsub, 1)) (hv : x - z = v) (hp : pc + 1 = pc') (g : Seg l Z a0 EL y bytes maxL ret rm Q h k n sf pc' L (.long v :: S)) : Seg l Z a0 EL y bytes maxL ret rm Q h k n sf pc L (.long z :: .long x :: S) := by
  subst hp
  exact Seg.plain (fun p e m below c T t hx hc ha hr => XT.lsub ha hx rfl (hb hc hd) rfl (by subst hv; exact hr)) g
theorem Seg.lmul {x z v : Int64} (hd : decode bytes pc = .ok (.lmul, 1)) (hv : x * z = v) (hp : pc + 1 = pc') (g : Seg l Z a0 EL y bytes maxL ret rm Q h k n sf pc' L (.long v :: S)) : Seg l Z a0 EL y bytes maxL ret rm Q h k n sf pc L (.long z :: .long x :: S) := by
  subst hp
  exact Seg.plain (fun p e m below c T t hx hc ha hr => XT.lmul ha hx rfl (hb hc hd) rfl (by subst hv; exact hr)) g
theorem Seg.land {x z v : Int64} (hd : decode bytes pc = .ok (.land, 1)) (hv : x &&& z = v) (hp : pc + 1 = pc') (g : Seg l Z a0 EL y bytes maxL ret rm Q h k n sf pc' L (.long v :: S)) : Seg l Z a0 EL y bytes maxL ret rm Q h k n sf pc L (.long z :: .long x :: S) := by
  subst hp
  exact Seg.plain (fun p e m below c T t hx hc ha hr => XT.land ha hx rfl (hb hc hd) rfl (by subst hv; exact hr)) g
theorem Seg.lushr {x v : Int64} {z : Int32} (hd : decode bytes pc = .ok (.lushr, 1)) (hv : XT.ushrL x z = v) (hp : pc + 1 = pc') (g : Seg l Z a0 EL y bytes maxL ret rm Q h k n sf pc' L (.long v :: S)) : Seg l Z a0 EL y bytes maxL ret rm Q h k n sf pc L (.int z :: .long x :: S) := by
  subst hp
  exact Seg.plain (fun p e m below c T t hx hc ha hr => XT.lushr ha hx rfl (hb hc hd) rfl (by subst hv; exact hr)) g
theorem Seg.lrem {x z v : Int64} (hd : decode bytes pc = .ok (.lrem, 1)) (hz : z ≠ 0) (hv : x - (x / z) * z = v) (hp : pc + 1 = pc') (g : Seg l Z a0 EL y bytes maxL ret rm Q h k n sf pc' L (.long v :: S)) : Seg l Z a0 EL y bytes maxL ret rm Q h k n sf pc L (.long z :: .long x :: S) := by
  subst hp
  exact Seg.plain (fun p e m below c T t hx hc ha hr => XT.lrem ha hx rfl (hb hc hd) rfl hz (by subst hv; exact hr)) g
theorem Seg.i2l {x : Int32} {v : Int64} (hd : decode bytes pc = .ok (.i2l, 1)) (hv : x.toInt64 = v) (hp : pc + 1 = pc') (g : Seg l Z a0 EL y bytes maxL ret rm Q h k n sf pc' L (.long v :: S)) : Seg l Z a0 EL y bytes maxL ret rm Q h k n sf pc L (.int x :: S) := by
  subst hp
  exact Seg.plain (fun p e m below c T t hx hc ha hr => XT.i2l ha hx rfl (hb hc hd) rfl (by subst hv; exact hr)) g
theorem Seg.l2i {x : Int64} {v : Int32} (hd : decode bytes pc = .ok (.l2i, 1)) (hv : x.toInt32 = v) (hp : pc + 1 = pc') (g : Seg l Z a0 EL y bytes maxL ret rm Q h k n sf pc' L (.int v :: S)) : Seg l Z a0 EL y bytes maxL ret rm Q h k n sf pc L (.long x :: S) := by
  subst hp
  exact Seg.plain (fun p e m below c T t hx hc ha hr => XT.l2i ha hx rfl (hb hc hd) rfl (by subst hv; exact hr)) g
theorem Seg.i2b {x : Int32} {v : Int32} (hd : decode bytes pc = .ok (.i2b, 1)) (hv : x.toInt8.toInt32 = v) (hp : pc + 1 = pc') (g : Seg l Z a0 EL y bytes maxL ret rm Q h k n sf pc' L (.int v :: S)) : Seg l Z a0 EL y bytes maxL ret rm Q h k n sf pc L (.int x :: S) := by
  subst hp
  exact Seg.plain (fun p e m below c T t hx hc ha hr => XT.i2b ha hx rfl (hb hc hd) rfl (by subst hv; exact hr)) g
theorem Seg.i2c {x : Int32} {v : Int32} (hd : decode bytes pc = .ok (.i2c, 1)) (hv : x.toUInt32.toUInt16.toUInt32.toInt32 = v) (hp : pc + 1 = pc') (g : Seg l Z a0 EL y bytes maxL ret rm Q h k n sf pc' L (.int v :: S)) : Seg l Z a0 EL y bytes maxL ret rm Q h k n sf pc L (.int x :: S) := by
  subst hp
  exact Seg.plain (fun p e m below c T t hx hc ha hr => XT.i2c ha hx rfl (hb hc hd) rfl (by subst hv; exact hr)) g
theorem Seg.irem {x z v : Int32} (hd : decode bytes pc = .ok (.irem, 1)) (hz : z ≠ 0) (hv : x % z = v) (hp : pc + 1 = pc') (g : Seg l Z a0 EL y bytes maxL ret rm Q h k n sf pc' L (.int v :: S)) : Seg l Z a0 EL y bytes maxL ret rm Q h k n sf pc L (.int z :: .int x :: S) := by
  subst hp
  exact Seg.plain (fun p e m below c T t hx hc ha hr => XS.irem ha hx rfl (hb hc hd) rfl hz (by subst hv; rw [irem_eq_mod]; exact hr)) g
theorem Seg.lcmp {x z : Int64} {v : Int32} (hd : decode bytes pc = .ok (.lcmp, 1)) (hv : lcmpW x z = v) (hp : pc + 1 = pc') (g : Seg l Z a0 EL y bytes maxL ret rm Q h k n sf pc' L (.int v :: S)) : Seg l Z a0 EL y bytes maxL ret rm Q h k n sf pc L (.long z :: .long x :: S) := by
  subst hp
  exact Seg.plain (fun p e m below c T t hx hc ha hr => XT.lcmp ha hx rfl (hb hc hd) rfl (by subst hv; exact hr)) g
theorem Seg.dup {v : Value} (hd : decode bytes pc = .ok (.dup, 1)) (hv : v.category = 1) (hp : pc + 1 = pc') (g : Seg l Z a0 EL y bytes maxL ret rm Q h k n sf pc' L (v :: v :: S)) : Seg l Z a0 EL y bytes maxL ret rm Q h k n sf pc L (v :: S) := by
  subst hp
  exact Seg.plain (fun p e m below c T t hx hc ha hr => XS.dup ha hx rfl (hb hc hd) rfl hv hr) g
theorem Seg.dupX1 {v w : Value} (hd : decode bytes pc = .ok (.dup_x1, 1)) (hv : v.category = 1) (hw : w.category = 1) (hp : pc + 1 = pc') (g : Seg l Z a0 EL y bytes maxL ret rm Q h k n sf pc' L (v :: w :: v :: S)) : Seg l Z a0 EL y bytes maxL ret rm Q h k n sf pc L (v :: w :: S) := by
  subst hp
  exact Seg.plain (fun p e m below c T t hx hc ha hr => XT.dupX1 ha hx rfl (hb hc hd) rfl hv hw hr) g
theorem Seg.pop {v : Value} (hd : decode bytes pc = .ok (.pop, 1)) (hv : v.category = 1) (hp : pc + 1 = pc') (g : Seg l Z a0 EL y bytes maxL ret rm Q h k n sf pc' L S) : Seg l Z a0 EL y bytes maxL ret rm Q h k n sf pc L (v :: S) := by
  subst hp
  exact Seg.plain (fun p e m below c T t hx hc ha hr => XT.pop ha hx rfl (hb hc hd) rfl hv hr) g
theorem Seg.iinc {i : Nat} {d : Int} {x v : Int32} {L' : Array Slot} (hd : decode bytes pc = .ok (.iinc i d, 3)) (hv : Int32.ofInt d = v) (hl : L[i]? = some (.val (.int x))) {z : Int32} (hz : x + v = z) (hl' : storeLocals L i (.int z) = some L') (hp : pc + 3 = pc') (g : Seg l Z a0 EL y bytes maxL ret rm Q h k n sf pc' L' S) : Seg l Z a0 EL y bytes maxL ret rm Q h k n sf pc L S := by
  subst hp
  exact Seg.plain (fun p e m below c T t hx hc ha hr => XT.iincV ha hx rfl v (hb hc hd) hv hl (by rw [hz]; exact hl') hr) g
theorem Seg.goto {o : Int} (hd : decode bytes pc = .ok (.goto o, 3))  (ho : 0 ≤ (pc : Int) + o) (hp : ((pc : Int) + o).toNat = pc') (g : Seg l Z a0 EL y bytes maxL ret rm Q h k n sf pc' L S) : Seg l Z a0 EL y bytes maxL ret rm Q h k n sf pc L S := by
  subst hp
  exact Seg.plain (fun p e m below c T t hx hc ha hr => XS.goto ha hx rfl rfl (hb hc hd) ho rfl hr) g
theorem Seg.ifY {cd : ClassFile.Cond} {o : Int} {x : Int32} (hd : decode bytes pc = .ok (.ifCond cd o, 3)) (hc' : ifCond.holds cd x = true) (ho : 0 ≤ (pc : Int) + o) (hp : ((pc : Int) + o).toNat = pc') (g : Seg l Z a0 EL y bytes maxL ret rm Q h k n sf pc' L S) : Seg l Z a0 EL y bytes maxL ret rm Q h k n sf pc L (.int x :: S) := by
  subst hp
  exact Seg.plain (fun p e m below c T t hx hc ha hr => XS.ifYes ha hx rfl rfl (hb hc hd) rfl hc' ho rfl hr) g
theorem Seg.ifN {cd : ClassFile.Cond} {o : Int} {x : Int32} (hd : decode bytes pc = .ok (.ifCond cd o, 3)) (hc' : ifCond.holds cd x = false) (hp : pc + 3 = pc') (g : Seg l Z a0 EL y bytes maxL ret rm Q h k n sf pc' L S) : Seg l Z a0 EL y bytes maxL ret rm Q h k n sf pc L (.int x :: S) := by
  subst hp
  exact Seg.plain (fun p e m below c T t hx hc ha hr => XS.ifNo ha hx rfl (hb hc hd) rfl hc' hr) g
theorem Seg.icY {cd : ClassFile.Cond} {o : Int} {x z : Int32} (hd : decode bytes pc = .ok (.if_icmp cd o, 3)) (hc' : if_icmp.holds cd x z = true) (ho : 0 ≤ (pc : Int) + o) (hp : ((pc : Int) + o).toNat = pc') (g : Seg l Z a0 EL y bytes maxL ret rm Q h k n sf pc' L S) : Seg l Z a0 EL y bytes maxL ret rm Q h k n sf pc L (.int z :: .int x :: S) := by
  subst hp
  exact Seg.plain (fun p e m below c T t hx hc ha hr => XS.icmpYes ha hx rfl rfl (hb hc hd) rfl hc' ho rfl hr) g
theorem Seg.icN {cd : ClassFile.Cond} {o : Int} {x z : Int32} (hd : decode bytes pc = .ok (.if_icmp cd o, 3)) (hc' : if_icmp.holds cd x z = false) (hp : pc + 3 = pc') (g : Seg l Z a0 EL y bytes maxL ret rm Q h k n sf pc' L S) : Seg l Z a0 EL y bytes maxL ret rm Q h k n sf pc L (.int z :: .int x :: S) := by
  subst hp
  exact Seg.plain (fun p e m below c T t hx hc ha hr => XS.icmpNo ha hx rfl (hb hc hd) rfl hc' hr) g
theorem Seg.nullY {o : Int} (hd : decode bytes pc = .ok (.ifnull o, 3))  (ho : 0 ≤ (pc : Int) + o) (hp : ((pc : Int) + o).toNat = pc') (g : Seg l Z a0 EL y bytes maxL ret rm Q h k n sf pc' L S) : Seg l Z a0 EL y bytes maxL ret rm Q h k n sf pc L (.null :: S) := by
  subst hp
  exact Seg.plain (fun p e m below c T t hx hc ha hr => XS.ifnullYes ha hx rfl rfl (hb hc hd) rfl ho rfl hr) g
theorem Seg.nullN {o : Int} {a : Addr} (hd : decode bytes pc = .ok (.ifnull o, 3))  (hp : pc + 3 = pc') (g : Seg l Z a0 EL y bytes maxL ret rm Q h k n sf pc' L S) : Seg l Z a0 EL y bytes maxL ret rm Q h k n sf pc L (.ref a :: S) := by
  subst hp
  exact Seg.plain (fun p e m below c T t hx hc ha hr => XS.ifnullNo ha hx rfl (hb hc hd) rfl hr) g
theorem Seg.nonnY {o : Int} {a : Addr} (hd : decode bytes pc = .ok (.ifnonnull o, 3))  (ho : 0 ≤ (pc : Int) + o) (hp : ((pc : Int) + o).toNat = pc') (g : Seg l Z a0 EL y bytes maxL ret rm Q h k n sf pc' L S) : Seg l Z a0 EL y bytes maxL ret rm Q h k n sf pc L (.ref a :: S) := by
  subst hp
  exact Seg.plain (fun p e m below c T t hx hc ha hr => XT.ifnonnullYes ha hx rfl rfl (hb hc hd) rfl ho rfl hr) g
theorem Seg.nonnN {o : Int} (hd : decode bytes pc = .ok (.ifnonnull o, 3))  (hp : pc + 3 = pc') (g : Seg l Z a0 EL y bytes maxL ret rm Q h k n sf pc' L S) : Seg l Z a0 EL y bytes maxL ret rm Q h k n sf pc L (.null :: S) := by
  subst hp
  exact Seg.plain (fun p e m below c T t hx hc ha hr => XT.ifnonnullNo ha hx rfl (hb hc hd) rfl hr) g
theorem Seg.acY {cd : ClassFile.ACond} {o : Int} {x z : Value} (hd : decode bytes pc = .ok (.if_acmp cd o, 3)) (hx' : x.isRef = true) (hz' : z.isRef = true) (hc' : XT.acmp cd x z = true) (ho : 0 ≤ (pc : Int) + o) (hp : ((pc : Int) + o).toNat = pc') (g : Seg l Z a0 EL y bytes maxL ret rm Q h k n sf pc' L S) : Seg l Z a0 EL y bytes maxL ret rm Q h k n sf pc L (z :: x :: S) := by
  subst hp
  exact Seg.plain (fun p e m below c T t hx hc ha hr => XT.acmpYes ha hx rfl rfl (hb hc hd) rfl hx' hz' hc' ho rfl hr) g
theorem Seg.acN {cd : ClassFile.ACond} {o : Int} {x z : Value} (hd : decode bytes pc = .ok (.if_acmp cd o, 3)) (hx' : x.isRef = true) (hz' : z.isRef = true) (hc' : XT.acmp cd x z = false) (hp : pc + 3 = pc') (g : Seg l Z a0 EL y bytes maxL ret rm Q h k n sf pc' L S) : Seg l Z a0 EL y bytes maxL ret rm Q h k n sf pc L (z :: x :: S) := by
  subst hp
  exact Seg.plain (fun p e m below c T t hx hc ha hr => XT.acmpNo ha hx rfl (hb hc hd) rfl hx' hz' hc' hr) g
end Plain
section Heap
variable {l : Launch} {Z : State} {a0 : Array Value} {EL : List (String × Nat)} {y : MethodName} {bytes : ByteArray} {maxL : Nat} {ret : Option FieldType} {rm : Room} {Q : Option Value → Heap → Prop} {h : Heap} {k n : Nat} {sf : List Addr} {pc pc' : Nat} {L : Array Slot} {S : List Value}
variable {p : Program} {e : Env} {R : Room} {s : State} {m : MethodId} {args : Array Value} {below : List Frame} {meth : Method} {c : Code} {T : State} {own : String}
theorem Seg.newO {C : String} {idx sz : Nat} (w : (Cond.classLink y.cls idx C).before a0 Z = true) (wi : (Cond.instantiable C sz).before a0 Z = true) (wz : (Cond.initialized C).before a0 Z = true) (hd : decode bytes pc = .ok (.new idx, 3)) (hp : pc + 3 = pc') {k' n' : Nat} (hk : k + 1 = k') (hn : n + sz = n') (hk2 : k' ≤ rm.cells) (hn2 : n' ≤ rm.slots)
    (g : ∀ (x : Addr) (h' : Heap), Ext h h' → h.size = x → x < h'.size → Exa Z h' x C → (∀ {O nm d : String} {ty : FieldType}, Laid Z a0 C O nm d → parseFieldDescriptor d = some ty → Fld Z h' x O nm d (defaultValue ty)) → Seg l Z a0 EL y bytes maxL ret rm Q h' k' n' (x :: sf) pc' L (.ref x :: S)) :
    Seg l Z a0 EL y bytes maxL ret rm Q h k n sf pc L S := by
  subst hp hk hn
  intro p e s m args below meth c T C' w'
  obtain ⟨vm0, locs, k0, X, r1, r2, r3, r4, r5, r6, r7, r8, r9, r10⟩ := w'
  obtain ⟨T', h', X', e', E, A, D, -, st⟩ := RoadKit.newO X C'.1 r4 r5 w wi wz r1 (g := mkF m pc L S) rfl (hb C'.2.1 hd) hk2 hn2
  refine Gl.st st (g _ h' E rfl A.lt A D p e s m args below meth c T' C' ⟨vm0, locs, k0, X', e', r2, Nat.le_trans r3 E.1, r4, r5, r6.trans (CHr.ext E r6.1), r7, ext_tr r8 E, r9, ?_⟩)
  exact (r10.chr (CHr.ext E r6.1)).cons r8.1 A.lt ((Safe.new (Nat.le_refl _)).ext E r6.1)
theorem Seg.newP {aty : ArrayType} {ty : FieldType} {dv : Value} {z : Int32} (hty : newarray.typeOf aty = ty) (hdv : defaultValue ty = dv) (w : (Cond.arrayClass ty).before a0 Z = true) (hd : decode bytes pc = .ok (.newarray aty, 2)) (hp : pc + 2 = pc') (hz : ¬ z < 0) {cap : Nat} (hcap : z.toNatClampNeg ≤ cap) (hb8 : cap * 8 ≤ 536870912) {k' n' : Nat} (hk : k + 1 = k') (hn : n + cap = n') (hk2 : k' ≤ rm.cells) (hn2 : n' ≤ rm.slots)
    (g : ∀ (x : Addr) (h' : Heap) (kc : ClassId), Ext h h' → h.size = x → x < h'.size → Arv Z h' x kc ty z [] dv → Seg l Z a0 EL y bytes maxL ret rm Q h' k' n' (x :: sf) pc' L (.ref x :: S)) :
    Seg l Z a0 EL y bytes maxL ret rm Q h k n sf pc L (.int z :: S) := by
  subst hp hk hn hty hdv
  intro p e s m args below meth c T C' w'
  obtain ⟨vm0, locs, k0, X, r1, r2, r3, r4, r5, r6, r7, r8, r9, r10⟩ := w'
  obtain ⟨T', h', cA, X', e', E, A, st⟩ := RoadKit.newP X C'.1 r4 w r1 (g := mkF m pc L (.int z :: S)) rfl (hb C'.2.1 hd) rfl hz hcap hb8 hk2 hn2
  have V := Arv.new A hz
  refine Gl.st st (g _ h' cA E rfl A.lt V p e s m args below meth c T' C' ⟨vm0, locs, k0, X', e', r2, Nat.le_trans r3 E.1, r4, r5, r6.trans (CHr.ext E r6.1), r7, ext_tr r8 E, r9, ?_⟩)
  exact (r10.chr (CHr.ext E r6.1)).cons r8.1 A.lt ((Safe.new (Nat.le_refl _)).ext E r6.1)
theorem Seg.getF {R0 O nm d host : String} {idx : Nat} {a : Addr} {v : Value} (w : (Cond.fieldLink y.cls idx R0 nm d).before a0 Z = true ∨ (Cond.fieldLinkNest y.cls idx R0 nm d host).before a0 Z = true) (via : Via Z R0 O nm d) (F : Fld Z h a O nm d v) (hd : decode bytes pc = .ok (.getfield idx, 3)) (hp : pc + 3 = pc')
    (g : Seg l Z a0 EL y bytes maxL ret rm Q h k n sf pc' L (v :: S)) : Seg l Z a0 EL y bytes maxL ret rm Q h k n sf pc L (.ref a :: S) := by
  subst hp
  intro p e s m args below meth c T C' w'
  obtain ⟨vm0, locs, k0, X, r1, r2, r3, r4, r5, r⟩ := w'
  obtain ⟨T', X', e', st⟩ := RoadKit.getF X C'.1 r4 r5 w via r1 F (g := mkF m pc L (.ref a :: S)) rfl rfl (hb C'.2.1 hd)
  exact Gl.st st (g p e s m args below meth c T' C' ⟨vm0, locs, k0, X', e', r2, r3, r4, r5, r⟩)
theorem Seg.getS {R0 O nm d : String} {idx : Nat} {v : Value} (w : (Cond.fieldLink y.cls idx R0 nm d).before a0 Z = true) (via : Via Z R0 O nm d) (F : Sta Z Z.heap O nm d v) (hd : decode bytes pc = .ok (.getstatic idx, 3)) (hp : pc + 3 = pc')
    (g : Seg l Z a0 EL y bytes maxL ret rm Q h k n sf pc' L (v :: S)) : Seg l Z a0 EL y bytes maxL ret rm Q h k n sf pc L S := by
  subst hp
  intro p e s m args below meth c T C' w'
  obtain ⟨vm0, locs, k0, X, r1, r2, r3, r4, r5, r6, r7, r8, r⟩ := w'
  obtain ⟨T', X', e', st⟩ := RoadKit.getS X C'.1 r4 (host := "") r5 w via r1 (F.ext r8) (g := mkF m pc L S) rfl (hb C'.2.1 hd)
  exact Gl.st st (g p e s m args below meth c T' C' ⟨vm0, locs, k0, X', e', r2, r3, r4, r5, r6, r7, r8, r⟩)
theorem Seg.castY {K : String} {idx : Nat} {a : Addr} (w : (Cond.classLink y.cls idx K).before a0 Z = true) (F : Ins Z h a K true) (hd : decode bytes pc = .ok (.checkcast idx, 3)) (hp : pc + 3 = pc')
    (g : Seg l Z a0 EL y bytes maxL ret rm Q h k n sf pc' L (.ref a :: S)) : Seg l Z a0 EL y bytes maxL ret rm Q h k n sf pc L (.ref a :: S) := by
  subst hp
  intro p e s m args below meth c T C' w'
  obtain ⟨vm0, locs, k0, X, r1, r2, r3, r4, r5, r⟩ := w'
  obtain ⟨T', X', e', st⟩ := RoadKit.castY X C'.1 r4 r5 w r1 F (g := mkF m pc L (.ref a :: S)) rfl rfl (hb C'.2.1 hd)
  exact Gl.st st (g p e s m args below meth c T' C' ⟨vm0, locs, k0, X', e', r2, r3, r4, r5, r⟩)
theorem Seg.castNull {idx : Nat} (hd : decode bytes pc = .ok (.checkcast idx, 3)) (hp : pc + 3 = pc')
    (g : Seg l Z a0 EL y bytes maxL ret rm Q h k n sf pc' L (.null :: S)) : Seg l Z a0 EL y bytes maxL ret rm Q h k n sf pc L (.null :: S) := by
  subst hp
  intro p e s m args below meth c T C' w'
  obtain ⟨vm0, locs, k0, X, r⟩ := w'
  exact Gl.st (X.checkcastNull C'.1 (g := mkF m pc L (.null :: S)) rfl rfl (hb C'.2.1 hd)) (g p e s m args below meth c T C' ⟨vm0, locs, k0, X, r⟩)
theorem Seg.instNull {idx : Nat} (hd : decode bytes pc = .ok (.instanceof idx, 3)) (hp : pc + 3 = pc')
    (g : Seg l Z a0 EL y bytes maxL ret rm Q h k n sf pc' L (.int 0 :: S)) : Seg l Z a0 EL y bytes maxL ret rm Q h k n sf pc L (.null :: S) := by
  subst hp
  intro p e s m args below meth c T C' w'
  obtain ⟨vm0, locs, k0, X, r⟩ := w'
  exact Gl.st (X.instanceofNull C'.1 (g := mkF m pc L (.null :: S)) rfl rfl (hb C'.2.1 hd)) (g p e s m args below meth c T C' ⟨vm0, locs, k0, X, r⟩)
theorem Seg.instY {K : String} {idx : Nat} {a : Addr} (w : (Cond.classLink y.cls idx K).before a0 Z = true) (F : Ins Z h a K true) (hd : decode bytes pc = .ok (.instanceof idx, 3)) (hp : pc + 3 = pc')
    (g : Seg l Z a0 EL y bytes maxL ret rm Q h k n sf pc' L (.int 1 :: S)) : Seg l Z a0 EL y bytes maxL ret rm Q h k n sf pc L (.ref a :: S) := by
  subst hp
  intro p e s m args below meth c T C' w'
  obtain ⟨vm0, locs, k0, X, r1, r2, r3, r4, r5, r⟩ := w'
  obtain ⟨T', X', e', st⟩ := RoadKit.instY X C'.1 r4 r5 w r1 F (g := mkF m pc L (.ref a :: S)) rfl rfl (hb C'.2.1 hd)
  exact Gl.st st (g p e s m args below meth c T' C' ⟨vm0, locs, k0, X', e', r2, r3, r4, r5, r⟩)
theorem Seg.instNo {K C : String} {idx : Nat} {a : Addr} (w : (Cond.classLink y.cls idx K).before a0 Z = true) (E : Exa Z h a C) (F : ∃ c t, Z.vm.findClass C = some c ∧ Z.vm.findClass K = some t ∧ Z.vm.assignable c t = false) (hd : decode bytes pc = .ok (.instanceof idx, 3)) (hp : pc + 3 = pc')
    (g : Seg l Z a0 EL y bytes maxL ret rm Q h k n sf pc' L (.int 0 :: S)) : Seg l Z a0 EL y bytes maxL ret rm Q h k n sf pc L (.ref a :: S) := by
  subst hp
  intro p e s m args below meth c T C' w'
  obtain ⟨vm0, locs, k0, X, r1, r2, r3, r4, r5, r⟩ := w'
  obtain ⟨T', X', e', st⟩ := RoadKit.instNo X C'.1 r4 r5 w r1 E F (g := mkF m pc L (.ref a :: S)) rfl rfl (hb C'.2.1 hd)
  exact Gl.st st (g p e s m args below meth c T' C' ⟨vm0, locs, k0, X', e', r2, r3, r4, r5, r⟩)
theorem Seg.initO {idx : Nat} {a : Addr} (w1 : (Cond.methodLink y.cls idx Lib.objectInit).before a0 Z = true) (w2 : (Cond.instanceMethod Lib.objectInit).before a0 Z = true) (w3 : (Cond.code Lib.objectInit ⟨#[0xb1]⟩ 1 none).before a0 Z = true) (hsz : L.size = maxL) (hd : decode bytes pc = .ok (.invokespecial idx, 3)) (hp : pc + 3 = pc') (hf : 1 ≤ rm.frames) {W : Nat} (hW : (S.map fun v => v.category).sum ≤ W) (hl : W + 12 ≤ rm.locals)
    (g : Seg l Z a0 EL y bytes maxL ret rm Q h k n sf pc' L S) : Seg l Z a0 EL y bytes maxL ret rm Q h k n sf pc L (.ref a :: S) := by
  subst hp
  intro p e s m args below meth c T C' w'
  obtain ⟨vm0, locs, k0, X, r1, r2, r3, r4, r5, r⟩ := w'
  obtain ⟨T', X', e', st⟩ := RoadKit.initO X C'.1 r4 r5 w1 w2 w3 r1 (g := mkF m pc L (.ref a :: S)) rfl (hsz.trans C'.2.2.1.symm) rfl (hb C'.2.1 hd) hf (W := W) (by show 2 * 0 + _ ≤ _; omega) hl
  exact Gl.st st (g p e s m args below meth c T' C' ⟨vm0, locs, k0, X', e', r2, r3, r4, r5, r⟩)
theorem wkWr {h' : Heap} {a : Addr} {sl : Nat} {v : Value} {T' : State} {vm0 : Vm} {locs : List Loc} {k0 : Nat} (W : Wr h h' a sl v) (hsf : a ∈ sf) (X' : Stand p l e R (s.setVm vm0) m args below meth c T' (locs ++ [⟨a, sl⟩]) k n) (e' : T'.heap = h')
    (r : s.Since vm0 k0 ∧ k0 ≤ h.size ∧ Z.Warmed39 vm0 ∧ vm0.findClass own = some m.cls ∧ CHr Z EL s.vm s.heap vm0 h ∧ Fr Z.heap.size locs ∧ Ext Z.heap h ∧ EW Z a0 EL ∧ SfOk Z EL vm0 h sf) : Wk p l e R s m args below meth c Z a0 EL own sf k n T' h' := by
  obtain ⟨r2, r3, r4, r5, r6, r7, r8, r9, r10⟩ := r
  obtain ⟨q1, q2, q3⟩ := r10 a hsf
  have A := CHr.wr W q3 r6.1
  exact ⟨vm0, _, k0, X', e', r2, Nat.le_trans r3 A.2.1, r4, r5, r6.trans A, Fr.snoc X' r7 q1, ext_wr r8 W q1, r9, r10.chr A⟩
theorem Seg.putF {R0 O nm d host C : String} {idx kk : Nat} {ty : FieldType} {a : Addr} {v v' old : Value} (w : (Cond.fieldLink y.cls idx R0 nm d).before a0 Z = true) (via : Via Z R0 O nm d) (F : Fld Z h a O nm d old) (E : Exa Z h a C) (Lw : (Cond.lays C O nm d).before a0 Z = true ∨ ((Cond.laysFinal C O nm d).before a0 Z = true ∧ y.cls = O ∧ y.name = "<init>")) (wi : (Cond.instantiable C kk).before a0 Z = true)
    (hty : parseFieldDescriptor d = some ty) (hnw : narrow ty v = v') (hf : fits ty v' = true) (hsf : a ∈ sf) (hd : decode bytes pc = .ok (.putfield idx, 3)) (hp : pc + 3 = pc')
    (g : ∀ h', Wr h h' a (RoadKit.slotOf Z O nm d) v' → Fld Z h' a O nm d v' → Seg l Z a0 EL y bytes maxL ret rm Q h' k n sf pc' L S) : Seg l Z a0 EL y bytes maxL ret rm Q h k n sf pc L (v :: .ref a :: S) := by
  subst hp
  intro p e s m args below meth c T C' w'
  obtain ⟨vm0, locs, k0, X, r1, r2, r3, r4, r5, r⟩ := w'
  obtain ⟨T', h', X', e', W, st⟩ := RoadKit.putFN X C'.1 r4 r5 w via r1 F E (Lw.imp id fun q => ⟨q.1, q.2.1, C'.2.2.2.2.2.trans q.2.2⟩) wi hty hnw hf (g := mkF m pc L (v :: .ref a :: S)) rfl rfl (hb C'.2.1 hd)
  exact Gl.st st (g h' W (F.same W) p e s m args below meth c T' C' (wkWr W hsf X' e' ⟨r2, r3, r4, r5, r⟩))
theorem Seg.castore {a : Addr} {kc : ClassId} {z j v v' : Int32} {vs : List Value} {dv : Value} {i : Nat} (F : Arv Z h a kc .char z vs dv) (hj : ¬ j < 0 ∧ j < z) (hi : j.toNatClampNeg = i) (hil : i < vs.length) (hv : nar .char v = v') (hsf : a ∈ sf) (hd : decode bytes pc = .ok (.castore, 1)) (hp : pc + 1 = pc')
    (g : ∀ h', Wr h h' a i (.int v') → Arv Z h' a kc .char z (vs.set i (.int v')) dv → Seg l Z a0 EL y bytes maxL ret rm Q h' k n sf pc' L S) : Seg l Z a0 EL y bytes maxL ret rm Q h k n sf pc L (.int v :: .int j :: .ref a :: S) := by
  subst hp hv hi
  intro p e s m args below meth c T C' w'
  obtain ⟨vm0, locs, k0, X, r1, r2, r3, r4, r5, r⟩ := w'
  obtain ⟨cl, A, q, Sz, N, H, G⟩ := F
  obtain ⟨T', h', X', e', W, st⟩ := RoadKit.stC X C'.1 r4 r1 A (inb_of Sz hj) (g := mkF m pc L (.int v :: .int j :: .ref a :: S)) rfl rfl (hb C'.2.1 hd)
  exact Gl.st st (g h' W (Arv.set A q Sz N H G (fits_nar_char _) W _ rfl hil) p e s m args below meth c T' C' (wkWr W hsf X' e' ⟨r2, r3, r4, r5, r⟩))
theorem Seg.bastore {a : Addr} {kc : ClassId} {z j v v' : Int32} {vs : List Value} {dv : Value} {i : Nat} (F : Arv Z h a kc .byte z vs dv) (hj : ¬ j < 0 ∧ j < z) (hi : j.toNatClampNeg = i) (hil : i < vs.length) (hv : nar .byte v = v') (hsf : a ∈ sf) (hd : decode bytes pc = .ok (.bastore, 1)) (hp : pc + 1 = pc')
    (g : ∀ h', Wr h h' a i (.int v') → Arv Z h' a kc .byte z (vs.set i (.int v')) dv → Seg l Z a0 EL y bytes maxL ret rm Q h' k n sf pc' L S) : Seg l Z a0 EL y bytes maxL ret rm Q h k n sf pc L (.int v :: .int j :: .ref a :: S) := by
  subst hp hv hi
  intro p e s m args below meth c T C' w'
  obtain ⟨vm0, locs, k0, X, r1, r2, r3, r4, r5, r⟩ := w'
  obtain ⟨cl, A, q, Sz, N, H, G⟩ := F
  obtain ⟨T', h', X', e', W, st⟩ := RoadKit.stB X C'.1 r4 r1 A (inb_of Sz hj) (g := mkF m pc L (.int v :: .int j :: .ref a :: S)) rfl rfl (hb C'.2.1 hd)
  exact Gl.st st (g h' W (Arv.set A q Sz N H G (fits_nar_byte _) W _ rfl hil) p e s m args below meth c T' C' (wkWr W hsf X' e' ⟨r2, r3, r4, r5, r⟩))
theorem Seg.iastore {a : Addr} {kc : ClassId} {z j v : Int32} {vs : List Value} {dv : Value} {i : Nat} (F : Arv Z h a kc .int z vs dv) (hj : ¬ j < 0 ∧ j < z) (hi : j.toNatClampNeg = i) (hil : i < vs.length) (hsf : a ∈ sf) (hd : decode bytes pc = .ok (.iastore, 1)) (hp : pc + 1 = pc')
    (g : ∀ h', Wr h h' a i (.int v) → Arv Z h' a kc .int z (vs.set i (.int v)) dv → Seg l Z a0 EL y bytes maxL ret rm Q h' k n sf pc' L S) : Seg l Z a0 EL y bytes maxL ret rm Q h k n sf pc L (.int v :: .int j :: .ref a :: S) := by
  subst hp hi
  intro p e s m args below meth c T C' w'
  obtain ⟨vm0, locs, k0, X, r1, r2, r3, r4, r5, r⟩ := w'
  obtain ⟨cl, A, q, Sz, N, H, G⟩ := F
  obtain ⟨T', h', X', e', W, st⟩ := RoadKit.stI X C'.1 r4 r1 A (inb_of Sz hj) (g := mkF m pc L (.int v :: .int j :: .ref a :: S)) rfl rfl (hb C'.2.1 hd)
  exact Gl.st st (g h' W (Arv.set A q Sz N H G rfl W _ rfl hil) p e s m args below meth c T' C' (wkWr W hsf X' e' ⟨r2, r3, r4, r5, r⟩))
theorem Seg.caload {a : Addr} {kc : ClassId} {z j : Int32} {vs : List Value} {dv v : Value} (F : Arv Z h a kc .char z vs dv) (hj : ¬ j < 0 ∧ j < z) (hv : vs.getD j.toNatClampNeg dv = v) (hd : decode bytes pc = .ok (.caload, 1)) (hp : pc + 1 = pc')
    (g : Seg l Z a0 EL y bytes maxL ret rm Q h k n sf pc' L (v :: S)) : Seg l Z a0 EL y bytes maxL ret rm Q h k n sf pc L (.int j :: .ref a :: S) := by
  subst hp
  intro p e s m args below meth c T C' w'
  obtain ⟨vm0, locs, k0, X, r1, r2, r3, r4, r⟩ := w'
  obtain ⟨cl, A, q, Sz, N, H, G⟩ := F
  exact Gl.st (X.caload C'.1 (by rw [r1]; exact A.1) (State.isArrayOf_alike r4.alike A.2.1) A.2.2 (inb_of Sz hj) (H.at (inb_of Sz hj) hv) (g := mkF m pc L (.int j :: .ref a :: S)) rfl rfl (hb C'.2.1 hd)) (g p e s m args below meth c T C' ⟨vm0, locs, k0, X, r1, r2, r3, r4, r⟩)
theorem Seg.baload {a : Addr} {kc : ClassId} {z j : Int32} {vs : List Value} {dv v : Value} (F : Arv Z h a kc .byte z vs dv) (hj : ¬ j < 0 ∧ j < z) (hv : vs.getD j.toNatClampNeg dv = v) (hd : decode bytes pc = .ok (.baload, 1)) (hp : pc + 1 = pc')
    (g : Seg l Z a0 EL y bytes maxL ret rm Q h k n sf pc' L (v :: S)) : Seg l Z a0 EL y bytes maxL ret rm Q h k n sf pc L (.int j :: .ref a :: S) := by
  subst hp
  intro p e s m args below meth c T C' w'
  obtain ⟨vm0, locs, k0, X, r1, r2, r3, r4, r⟩ := w'
  obtain ⟨cl, A, q, Sz, N, H, G⟩ := F
  exact Gl.st (X.baloadBytes C'.1 (by rw [r1]; exact A.1) (State.isArrayOf_alike r4.alike A.2.1) A.2.2 (inb_of Sz hj) (H.at (inb_of Sz hj) hv) (g := mkF m pc L (.int j :: .ref a :: S)) rfl rfl (hb C'.2.1 hd)) (g p e s m args below meth c T C' ⟨vm0, locs, k0, X, r1, r2, r3, r4, r⟩)
theorem Seg.iaload {a : Addr} {kc : ClassId} {z j : Int32} {vs : List Value} {dv v : Value} (F : Arv Z h a kc .int z vs dv) (hj : ¬ j < 0 ∧ j < z) (hv : vs.getD j.toNatClampNeg dv = v) (hd : decode bytes pc = .ok (.iaload, 1)) (hp : pc + 1 = pc')
    (g : Seg l Z a0 EL y bytes maxL ret rm Q h k n sf pc' L (v :: S)) : Seg l Z a0 EL y bytes maxL ret rm Q h k n sf pc L (.int j :: .ref a :: S) := by
  subst hp
  intro p e s m args below meth c T C' w'
  obtain ⟨vm0, locs, k0, X, r1, r2, r3, r4, r⟩ := w'
  obtain ⟨cl, A, q, Sz, N, H, G⟩ := F
  exact Gl.st (X.iaload C'.1 (by rw [r1]; exact A.1) (State.isArrayOf_alike r4.alike A.2.1) A.2.2 (inb_of Sz hj) (H.at (inb_of Sz hj) hv) (g := mkF m pc L (.int j :: .ref a :: S)) rfl rfl (hb C'.2.1 hd)) (g p e s m args below meth c T C' ⟨vm0, locs, k0, X, r1, r2, r3, r4, r⟩)
theorem Seg.aaload {a : Addr} {kc : ClassId} {z j : Int32} {ty : FieldType} {vs : List Value} {dv v : Value} (hty : ty.isReference = true) (F : Arv Z h a kc ty z vs dv) (hj : ¬ j < 0 ∧ j < z) (hv : vs.getD j.toNatClampNeg dv = v) (hd : decode bytes pc = .ok (.aaload, 1)) (hp : pc + 1 = pc')
    (g : Seg l Z a0 EL y bytes maxL ret rm Q h k n sf pc' L (v :: S)) : Seg l Z a0 EL y bytes maxL ret rm Q h k n sf pc L (.int j :: .ref a :: S) := by
  subst hp
  intro p e s m args below meth c T C' w'
  obtain ⟨vm0, locs, k0, X, r1, r2, r3, r4, r⟩ := w'
  obtain ⟨cl, A, q, Sz, N, H, G⟩ := F
  exact Gl.st (X.aaload C'.1 (by rw [r1]; exact A.1) (State.isArrayOf_alike r4.alike A.2.1) hty A.2.2 (inb_of Sz hj) (H.at (inb_of Sz hj) hv) (g := mkF m pc L (.int j :: .ref a :: S)) rfl rfl (hb C'.2.1 hd)) (g p e s m args below meth c T C' ⟨vm0, locs, k0, X, r1, r2, r3, r4, r⟩)
theorem Seg.alen {a : Addr} {kc : ClassId} {z : Int32} {ty : FieldType} {vs : List Value} {dv : Value} (F : Arv Z h a kc ty z vs dv) (hd : decode bytes pc = .ok (.arraylength, 1)) (hp : pc + 1 = pc')
    (g : Seg l Z a0 EL y bytes maxL ret rm Q h k n sf pc' L (.int z :: S)) : Seg l Z a0 EL y bytes maxL ret rm Q h k n sf pc L (.ref a :: S) := by
  subst hp
  intro p e s m args below meth c T C' w'
  obtain ⟨vm0, locs, k0, X, r1, r2, r3, r4, r⟩ := w'
  obtain ⟨cl, A, q, Sz, N, H, G⟩ := F
  refine Gl.st (fun t hr => X.arraylength C'.1 (by rw [r1]; exact A.1) (State.isArrayOf_alike r4.alike A.2.1) (g := mkF m pc L (.ref a :: S)) rfl rfl (hb C'.2.1 hd) t ?_) (g p e s m args below meth c T C' ⟨vm0, locs, k0, X, r1, r2, r3, r4, r⟩)
  rw [len_of Sz N]; exact hr
theorem Seg.ldcI {idx : Nat} {v : Int32} (w : (Cond.constant y.cls idx v).before a0 Z = true) (hd : decode bytes pc = .ok (.ldc idx, 2)) (hp : pc + 2 = pc')
    (g : Seg l Z a0 EL y bytes maxL ret rm Q h k n sf pc' L (.int v :: S)) : Seg l Z a0 EL y bytes maxL ret rm Q h k n sf pc L S := by
  subst hp
  intro p e s m args below meth c T C' w'
  obtain ⟨vm0, locs, k0, X, r1, r2, r3, r4, r5, r⟩ := w'
  exact Gl.st (fun t hr => X.ldcI C'.1 r5 (mv r4 w) (g := mkF m pc L S) rfl (hb C'.2.1 hd) hr) (g p e s m args below meth c T C' ⟨vm0, locs, k0, X, r1, r2, r3, r4, r5, r⟩)
theorem Seg.ldcWI {idx : Nat} {v : Int32} (w : (Cond.constant y.cls idx v).before a0 Z = true) (hd : decode bytes pc = .ok (.ldc_w idx, 3)) (hp : pc + 3 = pc')
    (g : Seg l Z a0 EL y bytes maxL ret rm Q h k n sf pc' L (.int v :: S)) : Seg l Z a0 EL y bytes maxL ret rm Q h k n sf pc L S := by
  subst hp
  intro p e s m args below meth c T C' w'
  obtain ⟨vm0, locs, k0, X, r1, r2, r3, r4, r5, r⟩ := w'
  exact Gl.st (fun t hr => X.ldcWI C'.1 r5 (mv r4 w) (g := mkF m pc L S) rfl (hb C'.2.1 hd) hr) (g p e s m args below meth c T C' ⟨vm0, locs, k0, X, r1, r2, r3, r4, r5, r⟩)
theorem Seg.ldc2J {idx : Nat} {v : Int64} (w : (Cond.constantLong y.cls idx v).before a0 Z = true) (hd : decode bytes pc = .ok (.ldc2_w idx, 3)) (hp : pc + 3 = pc')
    (g : Seg l Z a0 EL y bytes maxL ret rm Q h k n sf pc' L (.long v :: S)) : Seg l Z a0 EL y bytes maxL ret rm Q h k n sf pc L S := by
  subst hp
  intro p e s m args below meth c T C' w'
  obtain ⟨vm0, locs, k0, X, r1, r2, r3, r4, r5, r⟩ := w'
  exact Gl.st (fun t hr => X.ldc2J C'.1 r5 (mv r4 w) (g := mkF m pc L S) rfl (hb C'.2.1 hd) hr) (g p e s m args below meth c T C' ⟨vm0, locs, k0, X, r1, r2, r3, r4, r5, r⟩)
/-- ldc of a String constant whose text the sheet assumes held -/
theorem Seg.ldcS {idx nn : Nat} {text : String} {vs : List Value} {z : Int32} (w : (Cond.stringLink y.cls idx text).before a0 Z = true) (wS : ∀ a ∈ Bundle.stringAtoms, a.before a0 Z = true) (hmem : (y.cls, idx) ∈ EL)
    (ht : (∀ c ∈ text.toList, c.toNat < 256) ∧ text.toList.map (fun c => Value.int (Jvm.Lit.byteI c.toNat.toUInt16)) = vs) (hz : ¬ z < 0) (hl : z.toNatClampNeg = vs.length)
    (hd : decode bytes pc = .ok (.ldc idx, 2)) (hp : pc + 2 = pc') (hnn : 4 * text.toList.length ≤ nn) (hbig : nn ≤ 536870912) {k' n' : Nat} (hk : k + 2 = k') (hn : n + (nn + 4) = n') (hk2 : k' ≤ rm.cells) (hn2 : n' ≤ rm.slots)
    (g : ∀ (a : Addr) (h' : Heap) (b : Addr) (kb : ClassId), Ext h h' → Exa Z h' a "java/lang/String" → Fld Z h' a "java/lang/String" "coder" "B" (.int 0) → Fld Z h' a "java/lang/String" "value" "[B" (.ref b) → Arv Z h' b kb .byte z vs (.int 0) → (∀ x ∈ sf, x ≠ a ∧ x ≠ b) → Seg l Z a0 EL y bytes maxL ret rm Q h' k' n' sf pc' L (.ref a :: S)) :
    Seg l Z a0 EL y bytes maxL ret rm Q h k n sf pc L S := by
  subst hp hk hn
  intro p e s m args below meth c T C' w'
  obtain ⟨vm0, locs, k0, X, r1, r2, r3, r4, r5, r6, r7, r8, r9, r10⟩ := w'
  obtain ⟨a, T', h', k1, b, kb, X', e', E, q1, q2, q3, q4, f1, f2, f3, f4, -, -, f5, -, f6, st⟩ := RoadKit.ldcCH X C'.1 r4 r5 w wS r1 r2 r3 r9 hmem r6.1 ht hz hl (g := mkF m pc L S) rfl (hb C'.2.1 hd) hnn hbig hk2 hn2
  have r10' := r10.chr f5
  exact Gl.st st (g a h' b kb E f1 f2 f3 f4 (fun x hx => f6 x (r10' x hx).2.2) p e s m args below meth c T' C' ⟨T'.vm, locs, k1, X', e', q1, q2, q3, q4, r6.trans f5, r7, ext_tr r8 E, r9, r10'⟩)
/-- ldc of a String constant, its text unread -/
theorem Seg.ldcO {idx nn : Nat} {text : String} (w : (Cond.stringLink y.cls idx text).before a0 Z = true) (wS : ∀ a ∈ Bundle.stringAtoms, a.before a0 Z = true)
    (hd : decode bytes pc = .ok (.ldc idx, 2)) (hp : pc + 2 = pc') (hnn : 4 * text.toList.length ≤ nn) (hbig : nn ≤ 536870912) {k' n' : Nat} (hk : k + 2 = k') (hn : n + (nn + 4) = n') (hk2 : k' ≤ rm.cells) (hn2 : n' ≤ rm.slots)
    (g : ∀ (a : Addr) (h' : Heap), Ext h h' → Seg l Z a0 EL y bytes maxL ret rm Q h' k' n' sf pc' L (.ref a :: S)) :
    Seg l Z a0 EL y bytes maxL ret rm Q h k n sf pc L S := by
  subst hp hk hn
  intro p e s m args below meth c T C' w'
  obtain ⟨vm0, locs, k0, X, r1, r2, r3, r4, r5, r6, r7, r8, r9, r10⟩ := w'
  obtain ⟨a, T', h', k1, X', e', E, q1, q2, q3, q4, f5, -, st⟩ := RoadKit.ldcOH X C'.1 r4 r5 w wS r1 r2 r3 r9 r6.1 (g := mkF m pc L S) rfl (hb C'.2.1 hd) hnn hbig hk2 hn2
  exact Gl.st st (g a h' E p e s m args below meth c T' C' ⟨T'.vm, locs, k1, X', e', q1, q2, q3, q4, r6.trans f5, r7, ext_tr r8 E, r9, r10.chr f5⟩)
end Heap
section Calls
variable {l : Launch} {Z : State} {a0 : Array Value} {EL : List (String × Nat)} {y : MethodName} {bytes : ByteArray} {maxL : Nat} {ret : Option FieldType} {rm : Room} {Q : Option Value → Heap → Prop} {h : Heap} {k n : Nat} {sf : List Addr} {pc pc' : Nat} {L : Array Slot} {S : List Value}
/-- WHO PAYS a call of y with the arguments as' at the heap h -/
def Pays (l : Launch) (R : Room) (Z : State) (a0 : Array Value) (EL : List (String × Nat)) (sf : List Addr) (y : MethodName) (len W : Nat) (as' : Array Value) (h : Heap) (rc rs : Nat) (Q : Option Value → Heap → Prop) : Prop :=
  ∀ (p : Program) (e : Env) (below : List Frame) (s : State) (args : Array Value) (vm0 : Vm), Z.Warmed39 vm0 → CHv Z EL vm0 h → SfOk Z EL vm0 h sf → Ext Z.heap h → EW Z a0 EL →
    BackS l R p e below (s.setVm vm0) args y len W (fun A a => a = as' ∧ A.U.heap = h ∧ A.cells + rc ≤ R.cells ∧ A.slots + rs ≤ R.slots)
      (fun A _ v B => ∃ L, (Fr Z.heap.size L ∧ Ext Z.heap B.U.heap ∧ Q v B.U.heap) ∧ B.locs = A.locs ++ L ∧ B.cells = A.cells + rc ∧ B.slots = A.slots + rs ∧ CHr Z EL vm0 h B.U.vm B.U.heap)
theorem Pays.of_ct {R : Room} {as' : Array Value} {rc rs len W : Nat} {sf' : List Addr} (hM : Ct l Z EL sf' [] y bytes maxL ret rm as' h Q) (hsf : ∀ x ∈ sf', x ∈ sf) (wc : (Jvm.Cond.code y bytes maxL ret).before a0 Z = true) (wz : (Jvm.Cond.initialized y.cls).before a0 Z = true) (hf : rm.frames + 1 ≤ R.frames) (hl : W + (maxL + 11) + rm.locals ≤ R.locals) (hrc : rm.cells = rc) (hrs : rm.slots = rs) :
    Pays l R Z a0 EL sf y len W as' h rc rs Q := by
  subst hrc hrs
  intro p e below s args vm0 hZ H hS hE hEL
  refine BackS.of_freeW (bytes := bytes) (maxL := maxL) (ret := ret) (E := fun _ first o t L k n => k = rm.cells ∧ n = rm.slots ∧ (∃ v, o = .returned v ∧ (Fr Z.heap.size L ∧ Ext Z.heap t.heap ∧ Q v t.heap)) ∧ CHr Z EL first.vm first.heap t.vm t.heap) hM hf hl
    (fun m meth c A a Y hp => have hU : Z.Warmed39 A.U.vm := wtrans (s := s.setVm vm0) hZ Y.warmed
      ⟨by show (Cond.and _ .tt).before a A.U = true; rw [Cond.before_and, mv hU wc]; rfl, mv hU wc, mv hU wz, hp.2.2.1, hp.2.2.2⟩)
    (fun m meth c A a g mk Y hp => have q := CHv.at Y hZ hEL H; ⟨hp.1, wtrans (s := s.setVm vm0) hZ Y.warmed, hp.2.1, q.1, (hS.sub hsf).chr q, hE⟩) (fun _ _ _ _ _ _ _ _ _ => trivial)
    (fun _ _ _ _ ⟨v, L, h1, h2, h3, h4⟩ => ⟨L, _, _, h4, rfl, rfl, ⟨v, h1, h2⟩, h3⟩)
    (fun m meth c A a g mk v t L k n Y hp _ _ ⟨e1, e2, ⟨v', e3, e4⟩, e5⟩ => ?_)
  cases e3; subst e1 e2
  refine ⟨L, e4, rfl, rfl, rfl, (CHv.at Y hZ hEL H).trans ?_⟩
  rw [← hp.2.1]; exact e5
theorem Pays.of_back {R : Room} {as' : Array Value} {rc rs len W : Nat} {ws : List Addr} {QL : Option Value → Heap → List Loc → Prop}
    (hK : ∀ (p : Program) (e : Env) (below : List Frame) (s : State) (args : Array Value), Z.Warmed39 s.vm → Ext Z.heap h → (∀ x ∈ sf, Z.heap.size ≤ x) → Back l R p e below s args y len W (fun A a => a = as' ∧ A.U.heap = h ∧ A.cells + rc ≤ R.cells ∧ A.slots + rs ≤ R.slots) (fun A _ v B => ∃ L, QL v B.U.heap L ∧ B.locs = A.locs ++ L ∧ B.cells = A.cells + rc ∧ B.slots = A.slots + rs))
    (hws : ∀ x ∈ ws, x ∈ sf) (hQ : ∀ v h' L, Ext Z.heap h → QL v h' L → Fr Z.heap.size L ∧ Keep h h' ws ∧ Q v h') :
    Pays l R Z a0 EL sf y len W as' h rc rs Q := by
  intro p e below s args vm0 hZ H hS hE hEL m meth c A g ig mk a X hg hsize hdg hW hn hp
  obtain ⟨v, B, X', ⟨L, q, hl, hc, hs⟩, hsteps⟩ := hK p e below (s.setVm vm0) args hZ hE (fun x hx => (hS x hx).1) m meth c A g ig mk a X hg hsize hdg hW hn hp
  obtain ⟨q1, q2, q3⟩ := hQ _ _ _ hE q
  have A1 := CHr.keep q2 (hS.safes hws) H
  have A2 := CHv.at X' hZ hEL A1.1
  refine ⟨v, B, X'.retabled X'.warmed.wide, X'.warmed.since _, by rw [hp.2.1]; exact q2.1, ⟨L, ⟨q1, ext_kp hE q2 (fun x hx => (hS x (hws x hx)).1), q3⟩, hl, hc, hs, A1.trans A2⟩, hsteps⟩
theorem Pays.post {R : Room} {as' : Array Value} {rc rs len W : Nat} {Q' : Option Value → Heap → Prop} (hP : Pays l R Z a0 EL sf y len W as' h rc rs Q) (q : ∀ v h', Q v h' → Q' v h') : Pays l R Z a0 EL sf y len W as' h rc rs Q' := by
  intro p e below s args vm0 hZ H hS hE hEL m meth c A g ig mk a X hg hsize hdg hW hn hp
  obtain ⟨v, B, X', hS', hgr, ⟨L, ⟨q1, q2, q3⟩, hl, hc, hs, hr⟩, hsteps⟩ := hP p e below s args vm0 hZ H hS hE hEL m meth c A g ig mk a X hg hsize hdg hW hn hp
  exact ⟨v, B, X', hS', hgr, ⟨L, ⟨q1, q2, q _ _ q3⟩, hl, hc, hs, hr⟩, hsteps⟩
section Use
variable {y' : MethodName} {as' : Array Value} {rc rs W : Nat} {Q' : Option Value → Heap → Prop} {idx : Nat} {argsL rest : List Value} {k' n' : Nat}
theorem wkBack {p : Program} {e : Env} {R : Room} {s : State} {m : MethodId} {args : Array Value} {below : List Frame} {meth : Method} {c : Code} {own : String} {vm0 : Vm} {locs L0 : List Loc} {k0 : Nat} {B : Pt}
    (r : s.Since vm0 k0 ∧ k0 ≤ h.size ∧ Z.Warmed39 vm0 ∧ vm0.findClass own = some m.cls ∧ CHr Z EL s.vm s.heap vm0 h ∧ Fr Z.heap.size locs ∧ Ext Z.heap h ∧ EW Z a0 EL ∧ SfOk Z EL vm0 h sf)
    (X' : Stand p l e R ((s.setVm vm0).setVm B.U.vm) m args below meth c B.U B.locs B.cells B.slots) (hS : (s.setVm vm0).Since B.U.vm B.U.heap.size) (hg : h.size ≤ B.U.heap.size) (q1 : Fr Z.heap.size L0 ∧ Ext Z.heap B.U.heap) (hl : B.locs = locs ++ L0) (hc : B.cells = k') (hs : B.slots = n') (q : CHr Z EL vm0 h B.U.vm B.U.heap) :
    Wk p l e R s m args below meth c Z a0 EL own sf k' n' B.U B.U.heap := by
  obtain ⟨r2, r3, r4, r5, r6, r7, r8, r9, r10⟩ := r
  obtain ⟨X1, S1, Z1, o1⟩ := rebS r2 r3 X' hS hg r4 r5
  rw [hl, hc, hs] at X1
  exact ⟨B.U.vm, _, _, X1, rfl, S1, Nat.le_refl _, Z1, o1, r6.trans q, r7.app q1.1, q1.2, r9, r10.chr q⟩
theorem Seg.callS {bytes' : ByteArray} {maxL' : Nat} {ret' : Option FieldType} (w1 : (Cond.methodLink y.cls idx y').before a0 Z = true) (w2 : (Cond.static y').before a0 Z = true) (w3 : (Cond.initialized y'.cls).before a0 Z = true) (w4 : (Cond.code y' bytes' maxL' ret').before a0 Z = true) (hy : y'.cls ≠ "java/lang/invoke/MethodHandle" ∧ y'.cls ≠ "java/lang/invoke/VarHandle")
    (hP : Pays l rm Z a0 EL sf y' 3 W as' h rc rs Q') (has : argsL.toArray = as') (hlen : ∀ sig, parseMethodDescriptor y'.desc = some sig → argsL.length = sig.parameters.length) (hst : S = argsL.reverse ++ rest) (hW : (rest.map fun v => v.category).sum ≤ W) (hsz : L.size = maxL) (hd : decode bytes pc = .ok (.invokestatic idx, 3)) (hp : pc + 3 = pc')
    (hk : k + rc = k') (hn : n + rs = n') (hk2 : k' ≤ rm.cells) (hn2 : n' ≤ rm.slots)
    (g : ∀ (v : Option Value) (h' : Heap), h.size ≤ h'.size → Q' v h' → Seg l Z a0 EL y bytes maxL ret rm Q h' k' n' sf pc' L (v.toList ++ rest)) : Seg l Z a0 EL y bytes maxL ret rm Q h k n sf pc L S := by
  subst hp hk hn hst has
  intro p e s m args below meth c T C' w'
  obtain ⟨vm0, locs, k0, X, r1, r2, r3, r4, r5, r6, r7, r8, r9, r10⟩ := w'
  obtain ⟨v, vm1, B, -, X', hS, hg, ⟨L0, ⟨q1, q2, q3⟩, hl, hc, hs, q4⟩, st⟩ := callSS X C'.1 r5 (mvT r4 w1) (mvT r4 w2) (mvT r4 w3) (mvT r4 w4) hy (hP p e below s args vm0 r4 r6.1 r10 r8 r9) (g := mkF m pc L (argsL.reverse ++ rest)) rfl (hsz.trans C'.2.2.1.symm) (argsL := argsL) (rest := rest) hlen rfl (by show 2 * 0 + _ ≤ _; omega) (hb C'.2.1 hd) (fun _ _ => ⟨rfl, r1, hk2, hn2⟩)
  rw [r1] at hg
  exact Gl.st (fun t hr => st.trans hr) (g v B.U.heap hg q3 p e s m args below meth c B.U C' (wkBack ⟨r2, r3, r4, r5, r6, r7, r8, r9, r10⟩ X' hS hg ⟨q1, q2⟩ hl hc hs q4))
theorem Seg.callN {bytes' : ByteArray} {maxL' : Nat} {a : Addr} (hy1 : y'.name = "<init>") (w1 : (Cond.methodLink y.cls idx y').before a0 Z = true) (w2 : (Cond.instanceMethod y').before a0 Z = true) (w4 : (Cond.code y' bytes' maxL' none).before a0 Z = true) (hy : y'.cls ≠ "java/lang/invoke/MethodHandle" ∧ y'.cls ≠ "java/lang/invoke/VarHandle")
    (hP : Pays l rm Z a0 EL sf y' 3 W as' h rc rs Q') (has : (.ref a :: argsL).toArray = as') (hlen : ∀ sig, parseMethodDescriptor y'.desc = some sig → argsL.length = sig.parameters.length) (hst : S = argsL.reverse ++ .ref a :: rest) (hW : (rest.map fun v => v.category).sum ≤ W) (hsz : L.size = maxL) (hd : decode bytes pc = .ok (.invokespecial idx, 3)) (hp : pc + 3 = pc')
    (hk : k + rc = k') (hn : n + rs = n') (hk2 : k' ≤ rm.cells) (hn2 : n' ≤ rm.slots)
    (g : ∀ (v : Option Value) (h' : Heap), h.size ≤ h'.size → Q' v h' → Seg l Z a0 EL y bytes maxL ret rm Q h' k' n' sf pc' L (v.toList ++ rest)) : Seg l Z a0 EL y bytes maxL ret rm Q h k n sf pc L S := by
  subst hp hk hn hst has
  intro p e s m args below meth c T C' w'
  obtain ⟨vm0, locs, k0, X, r1, r2, r3, r4, r5, r6, r7, r8, r9, r10⟩ := w'
  obtain ⟨v, vm1, B, -, X', hS, hg, ⟨L0, ⟨q1, q2, q3⟩, hl, hc, hs, q4⟩, st⟩ := X.specialBackS C'.1 hy1 r5 (mvT r4 w1) (mvT r4 w2) (mvT r4 w4) hy (hP p e below s args vm0 r4 r6.1 r10 r8 r9) (g := mkF m pc L (argsL.reverse ++ .ref a :: rest)) rfl (hsz.trans C'.2.2.1.symm) (Steps.refl _) (a := a) (argsL := argsL) (rest := rest) hlen rfl (by show 2 * 0 + _ ≤ _; omega) (hb C'.2.1 hd) (fun _ _ => ⟨rfl, r1, hk2, hn2⟩)
  rw [r1] at hg
  exact Gl.st (fun t hr => st.trans hr) (g v B.U.heap hg q3 p e s m args below meth c B.U C' (wkBack ⟨r2, r3, r4, r5, r6, r7, r8, r9, r10⟩ X' hS hg ⟨q1, q2⟩ hl hc hs q4))
theorem Seg.callV {z : MethodName} {C : String} {a : Addr} (w1 : (Cond.methodLink y.cls idx y').before a0 Z = true) (w2 : (Cond.declares y').before a0 Z = true) (hnf : ∀ (s : State) (vm0 : Vm), Z.Warmed39 vm0 → Free.NotFace (s.setVm vm0) y') (w3 : (Cond.selects C y' z).before a0 Z = true) (w4 : (Cond.instanceMethod z).before a0 Z = true) (hy : y'.cls ≠ "java/lang/invoke/MethodHandle" ∧ y'.cls ≠ "java/lang/invoke/VarHandle") (E : Exa Z h a C)
    (hP : Pays l rm Z a0 EL sf z 3 W as' h rc rs Q') (has : (.ref a :: argsL).toArray = as') (hlen : ∀ sig, parseMethodDescriptor y'.desc = some sig → argsL.length = sig.parameters.length) (hst : S = argsL.reverse ++ .ref a :: rest) (hW : (rest.map fun v => v.category).sum ≤ W) (hsz : L.size = maxL) (hd : decode bytes pc = .ok (.invokevirtual idx, 3)) (hp : pc + 3 = pc')
    (hk : k + rc = k') (hn : n + rs = n') (hk2 : k' ≤ rm.cells) (hn2 : n' ≤ rm.slots)
    (g : ∀ (v : Option Value) (h' : Heap), h.size ≤ h'.size → Q' v h' → Seg l Z a0 EL y bytes maxL ret rm Q h' k' n' sf pc' L (v.toList ++ rest)) : Seg l Z a0 EL y bytes maxL ret rm Q h k n sf pc L S := by
  subst hp hk hn hst has
  intro p e s m args below meth c T C' w'
  obtain ⟨vm0, locs, k0, X, r1, r2, r3, r4, r5, r6, r7, r8, r9, r10⟩ := w'
  obtain ⟨cq, kq, qa, qb, qc⟩ := isOf (s := s.setVm vm0) r4 r1 E
  obtain ⟨v, vm1, B, -, X', hS, hg, ⟨L0, ⟨q1, q2, q3⟩, hl, hc, hs, q4⟩, st⟩ := X.virtualBackS C'.1 r5 (mvT r4 w1) (mvT r4 w2) (hnf s vm0 r4) (mvT r4 w3) (mvT r4 w4) hy (hP p e below s args vm0 r4 r6.1 r10 r8 r9) qa qc (g := mkF m pc L (argsL.reverse ++ .ref a :: rest)) rfl (hsz.trans C'.2.2.1.symm) (Steps.refl _) (argsL := argsL) (rest := rest) hlen rfl (by show 2 * 0 + _ ≤ _; omega) (hb C'.2.1 hd) (fun _ _ => ⟨rfl, r1, hk2, hn2⟩)
  rw [r1] at hg
  exact Gl.st (fun t hr => st.trans hr) (g v B.U.heap hg q3 p e s m args below meth c B.U C' (wkBack ⟨r2, r3, r4, r5, r6, r7, r8, r9, r10⟩ X' hS hg ⟨q1, q2⟩ hl hc hs q4))
theorem Seg.callI {z : MethodName} {C : String} {a : Addr} {count : Nat} (w1 : (Cond.methodLink y.cls idx y').before a0 Z = true) (w2 : (Cond.declares y').before a0 Z = true) (w5 : (Cond.interfaceMethod y'.cls y'.cls y'.name y'.desc).before a0 Z = true) (hw5 : ((Cond.interfaceMethod y'.cls y'.cls y'.name y'.desc).onTables && (Cond.interfaceMethod y'.cls y'.cls y'.name y'.desc).keepsFace) = true) (w3 : (Cond.selects C y' z).before a0 Z = true) (w4 : (Cond.instanceMethod z).before a0 Z = true) (w6 : (Cond.publicMethod z).before a0 Z = true) (w7 : (Cond.unhidden C y'.name y'.desc).before a0 Z = true) (w8 : (Cond.castable C y'.cls).before a0 Z = true) (hy : y'.cls ≠ "java/lang/invoke/MethodHandle" ∧ y'.cls ≠ "java/lang/invoke/VarHandle") (E : Exa Z h a C)
    (hP : Pays l rm Z a0 EL sf z 5 W as' h rc rs Q') (has : (.ref a :: argsL).toArray = as') (hlen : ∀ sig, parseMethodDescriptor y'.desc = some sig → argsL.length = sig.parameters.length) (hst : S = argsL.reverse ++ .ref a :: rest) (hW : (rest.map fun v => v.category).sum ≤ W) (hsz : L.size = maxL) (hd : decode bytes pc = .ok (.invokeinterface idx count, 5)) (hp : pc + 5 = pc')
    (hk : k + rc = k') (hn : n + rs = n') (hk2 : k' ≤ rm.cells) (hn2 : n' ≤ rm.slots)
    (g : ∀ (v : Option Value) (h' : Heap), h.size ≤ h'.size → Q' v h' → Seg l Z a0 EL y bytes maxL ret rm Q h' k' n' sf pc' L (v.toList ++ rest)) : Seg l Z a0 EL y bytes maxL ret rm Q h k n sf pc L S := by
  subst hp hk hn hst has
  intro p e s m args below meth c T C' w'
  obtain ⟨vm0, locs, k0, X, r1, r2, r3, r4, r5, r6, r7, r8, r9, r10⟩ := w'
  obtain ⟨cq, kq, qa, qb, qc⟩ := isOf (s := s.setVm vm0) r4 r1 E
  obtain ⟨v, vm1, B, -, X', hS, hg, ⟨L0, ⟨q1, q2, q3⟩, hl, hc, hs, q4⟩, st⟩ := X.interfaceBackS C'.1 r5 (mvT r4 w1) (mvT r4 w2) (mvT r4 w5 hw5) (mvT r4 w3) (mvT r4 w4) (mvT r4 w6) (mvT r4 w7) (mvT r4 w8) hy (hP p e below s args vm0 r4 r6.1 r10 r8 r9) qa qb qc (g := mkF m pc L (argsL.reverse ++ .ref a :: rest)) rfl (hsz.trans C'.2.2.1.symm) (Steps.refl _) (argsL := argsL) (rest := rest) hlen rfl (by show 2 * 0 + _ ≤ _; omega) (hb C'.2.1 hd) (fun _ _ => ⟨rfl, r1, hk2, hn2⟩)
  rw [r1] at hg
  exact Gl.st (fun t hr => st.trans hr) (g v B.U.heap hg q3 p e s m args below meth c B.U C' (wkBack ⟨r2, r3, r4, r5, r6, r7, r8, r9, r10⟩ X' hS hg ⟨q1, q2⟩ hl hc hs q4))
theorem nf_sel {C : String} (w3 : (Cond.selects C y' y').before a0 Z = true) (s : State) (vm0 : Vm) (hZ : Z.Warmed39 vm0) : Free.NotFace (s.setVm vm0) y' :=
  notFace_of_selects (args := #[]) (mvT (s := s.setVm vm0) hZ w3)
theorem nf_topS (w : (Cond.noSuperclass y'.cls).before a0 Z = true) (s : State) (vm0 : Vm) (hZ : Z.Warmed39 vm0) : Free.NotFace (s.setVm vm0) y' := nf_top (args := #[]) (mvT (s := s.setVm vm0) hZ w)
theorem nf_supS {C : String} (w : (Cond.superclass y'.cls C).before a0 Z = true) (s : State) (vm0 : Vm) (hZ : Z.Warmed39 vm0) : Free.NotFace (s.setVm vm0) y' := nf_super (args := #[]) (mvT (s := s.setVm vm0) hZ w)
end Use
end Calls
end Jvm.OwnK
namespace Jvm.OwnK
open Jvm Jvm.ClassFile Sem Op Lib Jvm.Free Jvm.Stand Jvm.LawKit Jvm.RoadKit Bundle
/-! own kit, part 4: small numbers as Int32 -/
theorem n32i {i : Nat} (h : i ≤ 100000) : (Int32.ofNat i).toInt = i := Int32.toInt_ofNat_of_lt (by omega)
theorem n32c {i : Nat} (h : i ≤ 100000) : (Int32.ofNat i).toNatClampNeg = i := by
  show (Int32.ofNat i).toInt.toNat = i
  rw [n32i h]; rfl
theorem n32lt {i n : Nat} (h : i < n) (hn : n ≤ 100000) : Int32.ofNat i < Int32.ofNat n := by
  rw [Int32.lt_iff_toInt_lt, n32i (by omega), n32i hn]; omega
theorem n32nlt {i n : Nat} (h : n ≤ i) (hn : i ≤ 100000) : ¬ Int32.ofNat i < Int32.ofNat n := by
  rw [Int32.lt_iff_toInt_lt, n32i (by omega), n32i (by omega)]; omega
theorem n32nn {i : Nat} (h : i ≤ 100000) : ¬ Int32.ofNat i < 0 := by
  rw [Int32.lt_iff_toInt_lt, n32i h]; show ¬ (i : Int) < 0; omega
theorem n32in {i n : Nat} (h : i < n) (hn : n ≤ 100000) : ¬ Int32.ofNat i < 0 ∧ Int32.ofNat i < Int32.ofNat n := ⟨n32nn (by omega), n32lt h hn⟩
theorem n32add (i j : Nat) : Int32.ofNat i + Int32.ofNat j = Int32.ofNat (i + j) := (Int32.ofNat_add i j).symm
theorem n32s (i : Nat) : Int32.ofNat i + 1 = Int32.ofNat (i + 1) := n32add i 1
theorem n32eq {i j : Nat} (hi : i ≤ 100000) (hj : j ≤ 100000) (h : Int32.ofNat i = Int32.ofNat j) : i = j := by
  have := congrArg Int32.toInt h
  rw [n32i hi, n32i hj] at this; omega
theorem getDmap {α : Type} (f : α → Value) (cs : List α) (i : Nat) (d : α) (dv : Value) (h : i < cs.length) : (cs.map f).getD i dv = f (cs.getD i d) := by
  simp [List.getD_eq_getElem?_getD, h]
theorem toInt_cases {x : Int32} {n : Nat} (h0 : 0 ≤ x.toInt) (h1 : x.toInt < n) (hn : n ≤ 1000) : ∃ i : Nat, i < n ∧ x = Int32.ofNat i := by
  refine ⟨x.toInt.toNat, by omega, Int32.toInt_inj.mp ?_⟩
  rw [Int32.toInt_ofNat_of_lt (by omega)]; omega
end Jvm.OwnK
namespace Jvm.OwnK
open Jvm Jvm.ClassFile Sem Op Lib Jvm.Free Jvm.Stand Jvm.LawKit Jvm.RoadKit Bundle
/-! own kit, part 5: arraycopy and clone -/
section Copies
variable {l : Launch} {Z : State} {a0 : Array Value} {EL : List (String × Nat)} {y : MethodName} {bytes : ByteArray} {maxL : Nat} {ret : Option FieldType} {rm : Room} {Q : Option Value → Heap → Prop} {h : Heap} {k n : Nat} {sf : List Addr} {pc pc' : Nat} {L : Array Slot} {S : List Value}
theorem Seg.cpA {idx : Nat} {a b : Addr} {kc kc' : ClassId} {ty ty' : FieldType} {z z' sp dp nn : Int32} {vs vd us vr : List Value} {dv dd : Value} (w1 : (Cond.methodLink y.cls idx Jvm.Stand.acN).before a0 Z = true) (w2 : (Cond.native Jvm.Stand.acN).before a0 Z = true) (w3 : (Cond.static Jvm.Stand.acN).before a0 Z = true) (w4 : (Cond.initialized "java/lang/System").before a0 Z = true)
    (A : Arv Z h a kc ty z vs dv) (B : Arv Z h b kc' ty' z' vd dd) (hty : (ty = ty' ∧ refKind ty = false) ∨ (refKind ty = true ∧ refKind ty' = true ∧ StoL Z h b us))
    (h1 : ¬ sp < 0) (h2 : ¬ dp < 0) (h3 : ¬ nn < 0) (h4 : sp.toNatClampNeg + nn.toNatClampNeg ≤ z.toNatClampNeg) (h5 : dp.toNatClampNeg + nn.toNatClampNeg ≤ z'.toNatClampNeg)
    (hus : us = (List.range nn.toNatClampNeg).map fun i => vs.getD (sp.toNatClampNeg + i) dv) (hl : dp.toNatClampNeg + nn.toNatClampNeg ≤ vd.length) (hvr : vd.take dp.toNatClampNeg ++ us ++ vd.drop (dp.toNatClampNeg + nn.toNatClampNeg) = vr) (hsf : b ∈ sf) (hsz : L.size = maxL) (hd : decode bytes pc = .ok (.invokestatic idx, 3)) (hp : pc + 3 = pc') (hf : 1 ≤ rm.frames) {W : Nat} (hW : (S.map fun v => v.category).sum ≤ W) (hlo : W + (nativeFrameWords "java/lang/System" "arraycopy" 5 + 11) ≤ rm.locals)
    (g : ∀ h', Keep h h' [b] → Arv Z h' b kc' ty' z' vr dd → Seg l Z a0 EL y bytes maxL ret rm Q h' k n sf pc' L S) : Seg l Z a0 EL y bytes maxL ret rm Q h k n sf pc L (.int nn :: .int dp :: .ref b :: .int sp :: .ref a :: S) := by
  subst hp hvr
  intro p e s m args below meth c T C' w'
  obtain ⟨vm0, locs, k0, X, r1, r2, r3, r4, r5, r6, r7, r8, r9, r10⟩ := w'
  obtain ⟨T', h', L', X', e', FL, K, A', st⟩ := RoadKit.cpA X C'.1 r4 r5 w1 w2 w3 w4 r1 A B hty h1 h2 h3 h4 h5 hus hl r7 (r10 b hsf).1 (g := mkF m pc L (.int nn :: .int dp :: .ref b :: .int sp :: .ref a :: S)) rfl (hsz.trans C'.2.2.1.symm) rfl (hb C'.2.1 hd) hf (W := W) (by show 2 * 0 + _ ≤ _; omega) hlo
  have A1 := CHr.keep K (r10.safes (allS hsf all0)) r6.1
  exact Gl.st st (g h' K A' p e s m args below meth c T' C' ⟨vm0, L', k0, X', e', r2, Nat.le_trans r3 K.1, r4, r5, r6.trans A1, FL, ext_kp r8 K (allS (r10 b hsf).1 all0), r9, r10.chr A1⟩)
theorem Seg.cloneH {idx : Nat} {ad : String} {a : Addr} {kc : ClassId} {ty : FieldType} {z : Int32} {vs : List Value} {dv : Value} (w1 : (Cond.methodLink y.cls idx ⟨ad, "clone", "()Ljava/lang/Object;"⟩).before a0 Z = true) (w2 : (Cond.sameMethod ad "java/lang/Object" "clone" "()Ljava/lang/Object;").before a0 Z = true) (w3 : (Cond.native ⟨"java/lang/Object", "clone", "()Ljava/lang/Object;"⟩).before a0 Z = true)
    (w4 : (Cond.instanceMethod ⟨"java/lang/Object", "clone", "()Ljava/lang/Object;"⟩).before a0 Z = true) (w5 : (Cond.selects ad ⟨ad, "clone", "()Ljava/lang/Object;"⟩ ⟨"java/lang/Object", "clone", "()Ljava/lang/Object;"⟩).before a0 Z = true) (w6 : (Cond.castable ad "java/lang/Cloneable").before a0 Z = true)
    (F : Arv Z h a kc ty z vs dv) (E : Exa Z h a ad) (hsz : L.size = maxL) (hd : decode bytes pc = .ok (.invokevirtual idx, 3)) (hp : pc + 3 = pc') (hf : 1 ≤ rm.frames) {W cap : Nat} (hW : (S.map fun v => v.category).sum ≤ W) (hlo : W + 14 ≤ rm.locals) (hcap : z.toNatClampNeg ≤ cap) {k' n' : Nat} (hk : k + 1 = k') (hn : n + cap = n') (hk2 : k' ≤ rm.cells) (hn2 : n' ≤ rm.slots)
    (g : ∀ (x : Addr) (h' : Heap), Ext h h' → h.size = x → x < h'.size → Arv Z h' x kc ty z vs dv → Exa Z h' x ad → Seg l Z a0 EL y bytes maxL ret rm Q h' k' n' (x :: sf) pc' L (.ref x :: S)) : Seg l Z a0 EL y bytes maxL ret rm Q h k n sf pc L (.ref a :: S) := by
  subst hp hk hn
  intro p e s m args below meth c T C' w'
  obtain ⟨vm0, locs, k0, X, r1, r2, r3, r4, r5, r6, r7, r8, r9, r10⟩ := w'
  obtain ⟨T', h', X', e', Ex, A, E', st⟩ := RoadKit.cloneH X C'.1 r4 r5 w1 w2 w3 w4 w5 w6 r1 F.arh E (g := mkF m pc L (.ref a :: S)) rfl (hsz.trans C'.2.2.1.symm) rfl (hb C'.2.1 hd) hf (W := W) (by show 2 * 0 + _ ≤ _; omega) hlo hcap hk2 hn2
  refine Gl.st st (g _ h' Ex rfl E'.lt A E' p e s m args below meth c T' C' ⟨vm0, locs, k0, X', e', r2, Nat.le_trans r3 Ex.1, r4, r5, r6.trans (CHr.ext Ex r6.1), r7, ext_tr r8 Ex, r9, ?_⟩)
  exact (r10.chr (CHr.ext Ex r6.1)).cons r8.1 E'.lt ((Safe.new (Nat.le_refl _)).ext Ex r6.1)
end Copies
theorem n32p (i : Nat) : Int32.ofNat (i + 1) - 1 = Int32.ofNat i := by rw [← n32s, Int32.add_sub_cancel]
theorem n32m (i : Nat) : Int32.ofNat (i + 1) + (-1) = Int32.ofNat i := by rw [← Int32.sub_eq_add_neg, n32p]
theorem n32z (x : Int32) : x - 0 = x := Int32.sub_zero x
theorem n32zp (x : Int32) : 0 + x = x := Int32.zero_add x
theorem range_take (f : Int32 → Value) (cs : List Int32) (e : Nat) (dv : Value) (he : e ≤ cs.length) (h' : e ≤ 100000) : (cs.take e).map f = (List.range (Int32.ofNat e).toNatClampNeg).map fun i => (cs.map f).getD ((0 : Int32).toNatClampNeg + i) dv := by
  rw [n32c h']
  refine List.ext_getElem? fun i => ?_
  by_cases hi : i < e
  · have : i < cs.length := by omega
    simp [hi, this, List.getElem?_take]
  · simp [hi, List.getElem?_take]
theorem take_all (xs : List Value) (vd : List Value) (e : Nat) (h : vd.length = e) (h' : e ≤ 100000) : vd.take (0 : Int32).toNatClampNeg ++ xs ++ vd.drop ((0 : Int32).toNatClampNeg + (Int32.ofNat e).toNatClampNeg) = xs := by
  rw [n32c h']
  have : (0 : Int32).toNatClampNeg = 0 := rfl
  rw [this, Nat.zero_add, ← h]; simp
end Jvm.OwnK
namespace Jvm.OwnK
open Jvm Jvm.ClassFile Sem Op Lib Jvm.Free Jvm.Stand Jvm.LawKit Jvm.RoadKit Bundle
section More
variable {l : Launch} {Z : State} {a0 : Array Value} {EL : List (String × Nat)} {y : MethodName} {Q : Option Value → Heap → Prop} {h : Heap} {sf : List Addr}
theorem Pays.more {R : Room} {as' : Array Value} {rc rs rc' rs' len W : Nat} (hP : Pays l R Z a0 EL sf y len W as' h rc rs Q) (h1 : rc ≤ rc') (h2 : rs ≤ rs') : Pays l R Z a0 EL sf y len W as' h rc' rs' Q := by
  intro p e below s args vm0 hZ H hS hE hEL m meth c A g ig mk a X hg hsize hdg hW hn hp
  obtain ⟨v, B, X', hS', hgr, ⟨L, ⟨q1, q2, q3⟩, hl, hc, hs, hr⟩, hsteps⟩ := hP p e below s args vm0 hZ H hS hE hEL m meth c A g ig mk a X hg hsize hdg hW hn ⟨hp.1, hp.2.1, Nat.le_trans (Nat.add_le_add_left h1 _) hp.2.2.1, Nat.le_trans (Nat.add_le_add_left h2 _) hp.2.2.2⟩
  exact ⟨v, (B.U, B.locs, A.cells + rc', A.slots + rs'), X'.more (by rw [hc]; exact Nat.add_le_add_left h1 _) (by rw [hs]; exact Nat.add_le_add_left h2 _), hS', hgr, ⟨L, ⟨q1, q2, q3⟩, hl, rfl, rfl, hr⟩, hsteps⟩
end More
theorem arv_start {Z : State} {args : Array Value} {t : Term} {ty : FieldType} {n : Int32} {vs : List Value} {a : Addr} (dv : Value) (hf : Fit Z) (ev : t.eval args Z none [] Z = some (.ref a)) (hx : (Cond.arrayOf t ty).value args Z none Z [] = some true) (hlen : (Term.length t).eval args Z none [] Z = some (.int n)) (hz : ¬ n < 0) (hl : n.toNatClampNeg = vs.length)
    (H : ∀ cl, Z.heap[a]? = some cl → HasL cl 0 vs) : ∃ kc, Arv Z Z.heap a kc ty n vs dv := by
  obtain ⟨cl, A⟩ := Arr.start ev hx
  obtain ⟨cl', e1, e2⟩ := length_at hlen ev
  cases A.1.symm.trans e1
  have q : cl.slots.size < 2 ^ 31 := by
    simp only [Term.eval, Option.bind_eq_bind] at hlen
    rw [ev] at hlen
    simp only [Option.bind_some] at hlen
    cases hat : Z.arrayAt? a with
    | none => simp [hat] at hlen
    | some c1 =>
      cases e1.symm.trans (State.arrayAt?_spec hat).1
      simp only [hat, Option.bind_some] at hlen
      by_cases q : cl.slots.size < 2 ^ 31
      · exact q
      · simp [q] at hlen
  exact ⟨_, Arv.start hf A q e2 hz hl (H cl e1)⟩
theorem b255L (x : Int64) : ¬ ((x &&& 255).toInt32).toUInt32.toUInt16.toUInt32.toInt32 < 0 ∧ ¬ (255 : Int32) < ((x &&& 255).toInt32).toUInt32.toUInt16.toUInt32.toInt32 := by
  have h1 := c_maskL x 255 8 (by decide) (by decide)
  have h2 := c_l2i (x &&& 255)
  have h3 := c_i2c ((x &&& 255).toInt32)
  have e : (255 : Int32).toInt = 255 := by decide
  have e0 : (0 : Int32).toInt = 0 := by decide
  have r := Int32.toInt_lt ((x &&& 255).toInt32)
  have r' := Int32.le_toInt ((x &&& 255).toInt32)
  rw [Int32.lt_iff_toInt_lt, Int32.lt_iff_toInt_lt, e, e0]
  omega
theorem rem_ushr (x q : Int32) (k : Nat) (m : Nat) (hk : q.toBitVec.toNat % 32 = k) (h0 : 0 < k) (hm : 0 < m) (hm' : m ≤ 1000) : ∃ i : Nat, i < m ∧ (((x.toUInt32 >>> (q &&& 31).toUInt32).toInt32) % Int32.ofNat m) = Int32.ofNat i := by
  have h1 := c_iushr x q k hk h0
  have h2 := c_iremV ((x.toUInt32 >>> (q &&& 31).toUInt32).toInt32) (Int32.ofNat m)
  have e := n32i (i := m) (by omega)
  have h3 := h2.1 (by rw [h1]; exact Int.ediv_nonneg (by omega) (by exact_mod_cast Nat.zero_le _)) (by rw [e]; omega)
  exact toInt_cases h3.1 (by rw [e] at h3; exact h3.2.1) hm'
end Jvm.OwnK
namespace Jvm.OwnK
open Jvm Jvm.ClassFile Sem Op Lib Jvm.Free Jvm.Stand Jvm.LawKit Jvm.RoadKit Bundle
section Z
variable {l : Launch} {Z : State} {a0 : Array Value} {EL : List (String × Nat)} {y : MethodName} {bytes : ByteArray} {maxL : Nat} {ret : Option FieldType} {rm : Room} {Q : Option Value → Heap → Prop} {h : Heap} {k n : Nat} {sf : List Addr} {pc pc' : Nat} {L : Array Slot} {S : List Value}
theorem Seg.baloadZ {a : Addr} {kc : ClassId} {z j : Int32} {vs : List Value} {dv v : Value} (F : Arv Z h a kc .boolean z vs dv) (hj : ¬ j < 0 ∧ j < z) (hv : vs.getD j.toNatClampNeg dv = v) (hd : decode bytes pc = .ok (.baload, 1)) (hp : pc + 1 = pc')
    (g : Seg l Z a0 EL y bytes maxL ret rm Q h k n sf pc' L (v :: S)) : Seg l Z a0 EL y bytes maxL ret rm Q h k n sf pc L (.int j :: .ref a :: S) := by
  subst hp
  intro p e s m args below meth c T C' w'
  obtain ⟨vm0, locs, k0, X, r1, r2, r3, r4, r⟩ := w'
  obtain ⟨cl, A, q, Sz, N, H, G⟩ := F
  exact Gl.st (X.baloadBooleans C'.1 (by rw [r1]; exact A.1) (State.isArrayOf_alike r4.alike A.2.1) A.2.2 (inb_of Sz hj) (H.at (inb_of Sz hj) hv) (g := mkF m pc L (.int j :: .ref a :: S)) rfl rfl (hb C'.2.1 hd)) (g p e s m args below meth c T C' ⟨vm0, locs, k0, X, r1, r2, r3, r4, r⟩)
theorem no_inst {C K O : String} {nn : Nat} (w : (Cond.superclass C O).before a0 Z = true) (w0 : (Cond.noSuperclass O).before a0 Z = true) (wi : (Cond.instantiable K nn).before a0 Z = true) (h1 : C ≠ K) (h2 : O ≠ K) : ∃ c t, Z.vm.findClass C = some c ∧ Z.vm.findClass K = some t ∧ Z.vm.assignable c t = false := by
  obtain ⟨t, kt, g0, g2, g5, g7, -⟩ := Cond.instantiable_spec (show (Cond.instantiable K nn).holds a0 Z none Z [] = true from wi)
  have g7' : kt.isInterface = false := by cases q : kt.isInterface <;> simp [q] at g7 ⊢
  obtain ⟨co, ko, o1, o2, o3, -, -⟩ := Cond.noSuperclass_spec w0
  have ne0 := ids_ne o1 g0 h2
  have n : NS Z O K := ⟨co, t, o1, g0, fun fuel => by cases fuel with | zero => rfl | succ f => simp [Vm.isSubclassAux, ne0, o2, o3]⟩
  obtain ⟨c, t', h0, g0', n3⟩ := NS.step w n h1
  cases g0.symm.trans g0'
  obtain ⟨p, k, kp, h1', h2', h3, h4, h5, -, h7⟩ := Cond.superclass_spec h0 w
  have ne := ids_ne h0 g0 h1
  refine ⟨c, t, h0, g0, ?_⟩
  show Z.vm.assignableAux (255 + 1) c t = false
  simp [Vm.assignableAux, ne, h2', g2, h5, g5, g7', Vm.isSubclass, n3]
end Z
theorem len_small {Z : State} {args : Array Value} {t : Term} {n : Int32} {a : Addr} (ev : t.eval args Z none [] Z = some (.ref a)) (hlen : (Term.length t).eval args Z none [] Z = some (.int n)) : ∃ cl, Z.arrayAt? a = some cl ∧ Z.heap[a]? = some cl ∧ cl.slots.size < 2 ^ 31 ∧ cl.slots.size.toInt32 = n := by
  obtain ⟨cl, e1, e2⟩ := length_at hlen ev
  simp only [Term.eval, Option.bind_eq_bind] at hlen
  rw [ev] at hlen
  simp only [Option.bind_some] at hlen
  cases hat : Z.arrayAt? a with
  | none => simp [hat] at hlen
  | some c1 =>
    cases e1.symm.trans (State.arrayAt?_spec hat).1
    simp only [hat, Option.bind_some] at hlen
    by_cases q : cl.slots.size < 2 ^ 31
    · exact ⟨cl, rfl, e1, q, e2⟩
    · simp [q] at hlen
theorem hasL_all (c : Cell) : ∀ (i : Nat) (vs : List Value), c.slots.toList.drop i = vs → HasL c i vs
  | _, [], _ => trivial
  | i, v :: r, h => by
    refine ⟨?_, hasL_all c (i + 1) r ?_⟩
    · have := congrArg (·[0]?) h
      simpa using this
    · have := congrArg (List.drop 1) h
      simpa [List.drop_drop, Nat.add_comm] using this
theorem arv_startX {Z : State} {args : Array Value} {t : Term} {ty : FieldType} {n : Int32} {a : Addr} (dv : Value) (hf : Fit Z) (ev : t.eval args Z none [] Z = some (.ref a)) (hx : (Cond.arrayOf t ty).value args Z none Z [] = some true) (hlen : (Term.length t).eval args Z none [] Z = some (.int n)) (hz : ¬ n < 0) :
    ∃ kc cl, Z.arrayAt? a = some cl ∧ Z.heap[a]? = some cl ∧ cl.slots.size = n.toNatClampNeg ∧ Arv Z Z.heap a kc ty n cl.slots.toList dv := by
  obtain ⟨cl, A⟩ := Arr.start ev hx
  obtain ⟨cl', e0, e1, q, e2⟩ := len_small ev hlen
  cases A.1.symm.trans e1
  have S : cl.slots.size = n.toNatClampNeg := by rw [← e2]; simp only [Int32.toNatClampNeg, len_toInt q]; rfl
  exact ⟨_, cl, e0, e1, S, Arv.start hf A q e2 hz (by rw [← S]; simp) (hasL_all cl 0 _ rfl)⟩
theorem all_rng {Z : State} {args : Array Value} {t : Term} {a : Addr} {cl : Cell} {lo hi v : Int32} (ev : ∀ i, t.eval args Z none [i] Z = some (.ref a)) (ev0 : t.eval args Z none [] Z = some (.ref a)) (hat : Z.arrayAt? a = some cl) (hc : Z.heap[a]? = some cl)
    (h : (Cond.all t (.or (.lt (.index 0) (.int lo)) (.or (.le (.int hi) (.index 0)) (.eq (.elem t (.index 0)) (.int v))))).value args Z none Z [] = some true) {i : Nat} (hi' : i < cl.slots.size) (hs : i ≤ 100000) (h1 : ¬ Int32.ofNat i < lo) (h2 : Int32.ofNat i < hi) : cl.slots[i]? = some (.int v) := by
  have q := Cond.all_elim ev0 hat h i hi'
  have ei : (Term.index 0).eval args Z none [i] Z = some (.int (Int32.ofNat i)) := by simp [Term.eval]
  have h2' : ¬ hi ≤ Int32.ofNat i := Int32.not_le.mpr h2
  have e1 : (Cond.lt (.index 0) (.int lo)).value args Z none Z [i] = some false := by rw [Cond.lt_ints ei (Term.int_eval lo)]; simp [h1]
  have e2 : (Cond.le (.int hi) (.index 0)).value args Z none Z [i] = some false := by rw [Cond.le_ints (Term.int_eval hi) ei]; simp [h2]
  rw [Cond.or_of_right e1, Cond.or_of_right e2] at q
  obtain ⟨x, y, g1, g2, g3, -⟩ := cmp_v (Or.inl q)
  have r := (elem_in g1 (ev i) ei hc).2
  rw [n32c hs] at r
  rw [r]
  cases g2
  cases x <;> simp [Cond.value, g1, Term.int_eval] at q ⊢
  exact q
end Jvm.OwnK
/- laws to paste: Road.backV, Road.codOf, Road.lenW, Road.chN, Road.eqW, Road.empW (cut by pick.py; bodies as the Statement names them) -/
namespace Jvm.Pilot.@@N@@
namespace StrChars
open Jvm Sem ClassFile Op Lib Jvm.Stand Jvm.Free.XT Jvm.Free.ALB Jvm.Free.JM Jvm.Free
open Jvm.Lib.Cold (StaticIs)
/-- a char array whose places are chars -/
def Ch (a : Addr) (A : Cell) (U : State) : Prop := Arr .char a A U ∧ Typed .char A
theorem Ch.mv {a : Addr} {A : Cell} {U U' : State} (h : Ch a A U) (hal : U.vm.Alike U'.vm) (hh : U'.heap = U.heap) : Ch a A U' := ⟨h.1.mv hal hh, h.2⟩
theorem Ch.keep {a : Addr} {A : Cell} {U U' : State} (h : Ch a A U) (hal : U.vm.Alike U'.vm) (hk : U'.heap[a]? = some A) : Ch a A U' := ⟨h.1.keep hal hk, h.2⟩
/-- what place i of a char[]'s cell holds -/
def cv (A : Cell) (i : Nat) : Int32 := match A.slots[i]? with | some (.int x) => x | _ => 0
theorem Ch.get {a : Addr} {A : Cell} {U : State} (h : Ch a A U) {i : Nat} (hi : i < A.slots.size) : A.slots[i]? = some (.int (cv A i)) := by
  have e := Array.getElem?_eq_getElem hi
  have f := h.2 i _ e
  unfold cv; rw [e]
  generalize A.slots[i] = v at f
  cases v <;> simp [fits] at f ⊢
/-- the byte that i2b leaves of a char -/
def lo8 (x : Int32) : Int32 := x.toInt8.toInt32
theorem fits_lo8 (y : Int32) : fits .byte (.int (lo8 y)) = true := by
  have h1 := y.toInt8.le_toInt
  have h2 := y.toInt8.toInt_lt
  simp only [lo8, fits, Bool.and_eq_true, decide_eq_true_eq, Int32.le_iff_toInt_le, Int8.toInt_toInt32, show (-128 : Int32).toInt = -128 from by decide, show (127 : Int32).toInt = 127 from by decide]
  omega
/-- A' is A but that each place j of lo .. hi - 1 holds f j -/
def Laid (A A' : Cell) (lo hi : Nat) (f : Nat → Value) : Prop := A'.cls = A.cls ∧ A'.vm = A.vm ∧ A'.slots.size = A.slots.size ∧ ∀ i, A'.slots[i]? = if lo ≤ i ∧ i < hi then some (f i) else A.slots[i]?
theorem Laid.zero (A : Cell) (lo : Nat) (f : Nat → Value) : Laid A A lo (lo + 0) f := ⟨rfl, rfl, rfl, fun i => by rw [if_neg (by omega)]⟩
theorem Laid.step {A Ak : Cell} {lo k : Nat} {f : Nat → Value} {v : Value} (h : Laid A Ak lo k f) (hlo : lo ≤ k) (hk : k < Ak.slots.size) (hv : v = f k) : Laid A (Ak.setSlot k v) lo (k + 1) f := by
  refine ⟨h.1, h.2.1, by simpa [Cell.setSlot] using h.2.2.1, fun i => ?_⟩
  by_cases e : k = i
  · subst e; rw [Cell.slots_setSlot_self v hk, if_pos (by omega), hv]
  · rw [Cell.slots_setSlot_ne v e, h.2.2.2 i]
    by_cases q : lo ≤ i ∧ i < k
    · rw [if_pos q, if_pos (by omega)]
    · rw [if_neg q, if_neg (by omega)]
def U16 : String := "java/lang/StringUTF16"
namespace Cmp5
def yN : MethodName := ⟨"java/lang/StringUTF16", "compress", "([CI[BII)I"⟩
abbrev yB : ByteArray := jdk_52_method_21_code
theorem d0 : decode yB 0 = .ok (.iconst 0, 1) := by decide +kernel
theorem d1 : decode yB 1 = .ok (.istore 5, 2) := by decide +kernel
theorem d3 : decode yB 3 = .ok (.iload 5, 2) := by decide +kernel
theorem d5 : decode yB 5 = .ok (.iload 4, 2) := by decide +kernel
theorem d7 : decode yB 7 = .ok (.if_icmp (.ge) 37, 3) := by decide +kernel
theorem d10 : decode yB 10 = .ok (.aload_n 0, 1) := by decide +kernel
theorem d11 : decode yB 11 = .ok (.iload_n 1, 1) := by decide +kernel
theorem d12 : decode yB 12 = .ok (.caload, 1) := by decide +kernel
theorem d13 : decode yB 13 = .ok (.istore 6, 2) := by decide +kernel
theorem d15 : decode yB 15 = .ok (.iload 6, 2) := by decide +kernel
theorem d17 : decode yB 17 = .ok (.sipush 255, 3) := by decide +kernel
theorem d20 : decode yB 20 = .ok (.if_icmp (.le) 6, 3) := by decide +kernel
theorem d26 : decode yB 26 = .ok (.aload_n 2, 1) := by decide +kernel
theorem d27 : decode yB 27 = .ok (.iload_n 3, 1) := by decide +kernel
theorem d28 : decode yB 28 = .ok (.iload 6, 2) := by decide +kernel
theorem d30 : decode yB 30 = .ok (.i2b, 1) := by decide +kernel
theorem d31 : decode yB 31 = .ok (.bastore, 1) := by decide +kernel
theorem d32 : decode yB 32 = .ok (.iinc 1 1, 3) := by decide +kernel
theorem d35 : decode yB 35 = .ok (.iinc 3 1, 3) := by decide +kernel
theorem d38 : decode yB 38 = .ok (.iinc 5 1, 3) := by decide +kernel
theorem d41 : decode yB 41 = .ok (.goto (-38), 3) := by decide +kernel
theorem d44 : decode yB 44 = .ok (.iload 4, 2) := by decide +kernel
theorem d46 : decode yB 46 = .ok (.ireturn, 1) := by decide +kernel
def site : List Cond := []
def tab : Cond := tabOf yN yB 7 (some .int) site
def P (b : Addr) (A : Cell) (d : Addr) (B : Cell) (o q len : Nat) (args : Array Value) (s : State) : Prop := args = #[.ref b, .int (Int32.ofNat o), .ref d, .int (Int32.ofNat q), .int (Int32.ofNat len)] ∧ Ch b A s ∧ Arr .byte d B s ∧ b ≠ d ∧ o + len ≤ A.slots.size ∧ q + len ≤ B.slots.size ∧ ∀ i, i < len → ¬ 255 < cv A (o + i)
def E (b : Addr) (A : Cell) (d : Addr) (B : Cell) (o q len : Nat) (r : Option Value) (s u : State) : Prop := r = some (.int (Int32.ofNat len)) ∧ ∃ B', Put d B' s u ∧ Laid B B' q (q + len) (fun j => Value.int (lo8 (cv A (o + (j - q)))))
/-- no char of the range above 255: len; the places written hold each char's low byte -/
theorem law (l : Launch) (b : Addr) (A : Cell) (d : Addr) (B : Cell) (o q len : Nat) : Law l yN 5 5 0 0 yB 7 (some .int) site (P b A d B o q len) (E b A d B o q len) (copyLocs d q len) 0 0 := by
  refine Law.of_walk (plainFor_of_name (by decide +kernel)) (by decide +kernel) (by decide +kernel) (by decide) (fun _ _ h => by rw [h.1]; rfl) (fun _ U U' hal hh h => ⟨h.1, h.2.1.mv hal hh, h.2.2.1.mv hal hh, h.2.2.2⟩) (fun r U U' V V' h1 hal h2 h => ⟨h.1, h.2.elim fun B' q => ⟨B', q.1.mv h1 h2, q.2⟩⟩) ?_
  intro p e s m args below meth c s₁ X0 hexec hbytes hml hret hlk hnm hown hh0 W hP
  obtain ⟨rfl, hA, hB, hne, l1, l2, hp⟩ := hP
  have c1 : Steps p.tables e below (s₁.setTop (entryFrame m #[.ref b, .int (Int32.ofNat o), .ref d, .int (Int32.ofNat q), .int (Int32.ofNat len)] 7)) (s₁.setTop (mkF m 0 #[.val (.ref b), .val (.int (Int32.ofNat o)), .val (.ref d), .val (.int (Int32.ofNat q)), .val (.int (Int32.ofNat len)), .unset, .unset] [])) := entry rfl
  have hA0 := hA.1.mv X0.warmed.alike hh0
  have hB0 := hB.mv X0.warmed.alike hh0
  have a31 := hA.1.2.2.2
  have c2 : Steps p.tables e below (s₁.setTop (entryFrame m #[.ref b, .int (Int32.ofNat o), .ref d, .int (Int32.ofNat q), .int (Int32.ofNat len)] 7)) (s₁.setTop (mkF m 3 #[.val (.ref b), .val (.int (Int32.ofNat o)), .val (.ref d), .val (.int (Int32.ofNat q)), .val (.int (Int32.ofNat len)), .val (.int 0), .unset] [])) := c1.trans (by
    refine iconstV X0.here hexec rfl 0 (hb hbytes d0) (by decide) ?_
    refine XS.istore X0.here hexec rfl (hb hbytes d1) rfl rfl ?_
    exact Steps.refl _)
  have loop : ∀ (r i : Nat), i + r = len → ∀ (z : Slot), (z = .unset ∨ ∃ w, z = .val w ∧ w.category = 1) → ∀ (Tl : State) (Bk : Cell), Stand p l e { frames := 0, locals := 0, cells := 0, slots := 0 } s m #[.ref b, .int (Int32.ofNat o), .ref d, .int (Int32.ofNat q), .int (Int32.ofNat len)] below meth c Tl ([] ++ copyLocs d q i) 0 0 → Put d Bk s₁ Tl → Laid B Bk q (q + i) (fun j => Value.int (lo8 (cv A (o + (j - q))))) →
      Steps p.tables e below (s₁.setTop (entryFrame m #[.ref b, .int (Int32.ofNat o), .ref d, .int (Int32.ofNat q), .int (Int32.ofNat len)] 7)) (Tl.setTop (mkF m 3 #[.val (.ref b), .val (.int (Int32.ofNat (o + i))), .val (.ref d), .val (.int (Int32.ofNat (q + i))), .val (.int (Int32.ofNat len)), .val (.int (Int32.ofNat i)), z] [])) → ∃ (T' : State) (B' : Cell) (z' : Slot), Stand p l e { frames := 0, locals := 0, cells := 0, slots := 0 } s m #[.ref b, .int (Int32.ofNat o), .ref d, .int (Int32.ofNat q), .int (Int32.ofNat len)] below meth c T' ([] ++ copyLocs d q len) 0 0 ∧ Put d B' s₁ T' ∧ Laid B B' q (q + len) (fun j => Value.int (lo8 (cv A (o + (j - q))))) ∧
      Steps p.tables e below (s₁.setTop (entryFrame m #[.ref b, .int (Int32.ofNat o), .ref d, .int (Int32.ofNat q), .int (Int32.ofNat len)] 7)) (T'.setTop (mkF m 3 #[.val (.ref b), .val (.int (Int32.ofNat (o + len))), .val (.ref d), .val (.int (Int32.ofNat (q + len))), .val (.int (Int32.ofNat len)), .val (.int (Int32.ofNat len)), z'] [])) := by
    intro r
    induction r with
    | zero =>
      intro i hi z hz Tl Bk Xl pl fl cl
      have hil : i = len := by omega
      rw [hil] at Xl fl cl
      exact ⟨Tl, Bk, z, Xl, pl, fl, cl⟩
    | succ r ih =>
      intro i hi z hz Tl Bk Xl pl fl cl
      have all := X0.warmed.alike.symm.trans Xl.warmed.alike
      have hAl := hA0.keep all (pl.other hne hA0.1)
      have hBk := hB0.like all pl.1 fl.1 fl.2.1 fl.2.2.1
      have hlt : q + i < Bk.slots.size := by rw [fl.2.2.1]; omega
      have c3 : Steps p.tables e below (s₁.setTop (entryFrame m #[.ref b, .int (Int32.ofNat o), .ref d, .int (Int32.ofNat q), .int (Int32.ofNat len)] 7)) (Tl.setTop (mkF m 12 #[.val (.ref b), .val (.int (Int32.ofNat (o + i))), .val (.ref d), .val (.int (Int32.ofNat (q + i))), .val (.int (Int32.ofNat len)), .val (.int (Int32.ofNat i)), z] [.int (Int32.ofNat (o + i)), .ref b])) := cl.trans (by
        refine XS.iload Xl.here hexec rfl (hb hbytes d3) rfl ?_
        refine XS.iload Xl.here hexec rfl (hb hbytes d5) rfl ?_
        refine XS.icmpNo Xl.here hexec rfl (hb hbytes d7) rfl (ii_ge_f (lt32 (by omega) (by omega))) ?_
        refine XS.aloadN Xl.here hexec rfl (hb hbytes d10) rfl rfl ?_
        refine XS.iloadN Xl.here hexec rfl (hb hbytes d11) rfl ?_
        exact Steps.refl _)
      have c4 : Steps p.tables e below (s₁.setTop (entryFrame m #[.ref b, .int (Int32.ofNat o), .ref d, .int (Int32.ofNat q), .int (Int32.ofNat len)] 7)) (Tl.setTop (mkF m 13 #[.val (.ref b), .val (.int (Int32.ofNat (o + i))), .val (.ref d), .val (.int (Int32.ofNat (q + i))), .val (.int (Int32.ofNat len)), .val (.int (Int32.ofNat i)), z] [.int (cv A (o + i))])) := c3.trans (by
        refine Xl.aget hexec hAl rfl (hA.get (i := o + i) (by omega)) rfl rfl (hb hbytes d12) ?_
        exact Steps.refl _)
      have c5 : Steps p.tables e below (s₁.setTop (entryFrame m #[.ref b, .int (Int32.ofNat o), .ref d, .int (Int32.ofNat q), .int (Int32.ofNat len)] 7)) (Tl.setTop (mkF m 15 #[.val (.ref b), .val (.int (Int32.ofNat (o + i))), .val (.ref d), .val (.int (Int32.ofNat (q + i))), .val (.int (Int32.ofNat len)), .val (.int (Int32.ofNat i)), .val (.int (cv A (o + i)))] [])) := c4.trans (by
        refine XS.istoreS Xl.here hexec rfl (hb hbytes d13) rfl rfl hz ?_
        exact Steps.refl _)
      have c6 : Steps p.tables e below (s₁.setTop (entryFrame m #[.ref b, .int (Int32.ofNat o), .ref d, .int (Int32.ofNat q), .int (Int32.ofNat len)] 7)) (Tl.setTop (mkF m 31 #[.val (.ref b), .val (.int (Int32.ofNat (o + i))), .val (.ref d), .val (.int (Int32.ofNat (q + i))), .val (.int (Int32.ofNat len)), .val (.int (Int32.ofNat i)), .val (.int (cv A (o + i)))] [.int (lo8 (cv A (o + i))), .int (Int32.ofNat (q + i)), .ref d])) := c5.trans (by
        refine XS.iload Xl.here hexec rfl (hb hbytes d15) rfl ?_
        refine sipushV Xl.here hexec rfl 255 (hb hbytes d17) (by decide) ?_
        refine XS.icmpYes Xl.here hexec rfl (pc0 := 20) rfl (hb hbytes d20) rfl (ii_le_t (hp i (by omega))) (by decide) rfl ?_
        refine XS.aloadN Xl.here hexec rfl (hb hbytes d26) rfl rfl ?_
        refine XS.iloadN Xl.here hexec rfl (hb hbytes d27) rfl ?_
        refine XS.iload Xl.here hexec rfl (hb hbytes d28) rfl ?_
        refine i2b Xl.here hexec rfl (hb hbytes d30) rfl ?_
        exact Steps.refl _)
      obtain ⟨T7, X7, p7, st7⟩ := Xl.aput hexec hBk rfl hlt rfl (fits_lo8 (cv A (o + i))) (g := (mkF m 31 #[.val (.ref b), .val (.int (Int32.ofNat (o + i))), .val (.ref d), .val (.int (Int32.ofNat (q + i))), .val (.int (Int32.ofNat len)), .val (.int (Int32.ofNat i)), .val (.int (cv A (o + i)))] [.int (lo8 (cv A (o + i))), .int (Int32.ofNat (q + i)), .ref d])) rfl (rest := []) rfl (hb hbytes d31)
      have c8 : Steps p.tables e below (s₁.setTop (entryFrame m #[.ref b, .int (Int32.ofNat o), .ref d, .int (Int32.ofNat q), .int (Int32.ofNat len)] 7)) (T7.setTop (mkF m 32 #[.val (.ref b), .val (.int (Int32.ofNat (o + i))), .val (.ref d), .val (.int (Int32.ofNat (q + i))), .val (.int (Int32.ofNat len)), .val (.int (Int32.ofNat i)), .val (.int (cv A (o + i)))] [])) := c6.trans (st7 _ (Steps.refl _))
      have c9 : Steps p.tables e below (s₁.setTop (entryFrame m #[.ref b, .int (Int32.ofNat o), .ref d, .int (Int32.ofNat q), .int (Int32.ofNat len)] 7)) (T7.setTop (mkF m 3 #[.val (.ref b), .val (.int (Int32.ofNat (o + i) + 1)), .val (.ref d), .val (.int (Int32.ofNat (q + i) + 1)), .val (.int (Int32.ofNat len)), .val (.int (Int32.ofNat i + 1)), .val (.int (cv A (o + i)))] [])) := c8.trans (by
        refine iincV X7.here hexec rfl 1 (hb hbytes d32) (by decide) rfl rfl ?_
        refine iincV X7.here hexec rfl 1 (hb hbytes d35) (by decide) rfl rfl ?_
        refine iincV X7.here hexec rfl 1 (hb hbytes d38) (by decide) rfl rfl ?_
        refine XS.goto X7.here hexec rfl (pc0 := 41) rfl (hb hbytes d41) (by decide) rfl ?_
        exact Steps.refl _)
      have c10 : Steps p.tables e below (s₁.setTop (entryFrame m #[.ref b, .int (Int32.ofNat o), .ref d, .int (Int32.ofNat q), .int (Int32.ofNat len)] 7)) (T7.setTop (mkF m 3 #[.val (.ref b), .val (.int (Int32.ofNat (o + (i + 1)))), .val (.ref d), .val (.int (Int32.ofNat (q + (i + 1)))), .val (.int (Int32.ofNat len)), .val (.int (Int32.ofNat (i + 1))), .val (.int (cv A (o + i)))] [])) := by
        have := c9
        rw [succ32, succ32, succ32] at this
        exact this
      exact ih (i + 1) (by omega) _ (Or.inr ⟨_, rfl, rfl⟩) T7 _ (by rw [copyLocs_step, ← List.append_assoc]; exact X7) (pl.trans p7) (fl.step (by omega) hlt (by simp)) c10
  obtain ⟨T9, B9, z9, X9, p9, f9, g9⟩ := loop len 0 (by omega) .unset (Or.inl rfl) s₁ B (by simpa [copyLocs] using X0) ⟨hB0.1, fun _ _ => rfl, rfl⟩ (Laid.zero _ _ _) c2
  have c11 : Steps p.tables e below (s₁.setTop (entryFrame m #[.ref b, .int (Int32.ofNat o), .ref d, .int (Int32.ofNat q), .int (Int32.ofNat len)] 7)) (T9.setTop (mkF m 46 #[.val (.ref b), .val (.int (Int32.ofNat (o + len))), .val (.ref d), .val (.int (Int32.ofNat (q + len))), .val (.int (Int32.ofNat len)), .val (.int (Int32.ofNat len)), z9] [.int (Int32.ofNat len)])) := g9.trans (by
    refine XS.iload X9.here hexec rfl (hb hbytes d3) rfl ?_
    refine XS.iload X9.here hexec rfl (hb hbytes d5) rfl ?_
    refine XS.icmpYes X9.here hexec rfl (pc0 := 7) rfl (hb hbytes d7) rfl (ii_ge_t (nlt32 (by omega) (Nat.le_refl _))) (by decide) rfl ?_
    refine XS.iload X9.here hexec rfl (hb hbytes d44) rfl ?_
    exact Steps.refl _)
  exact ⟨T9, some (.int (Int32.ofNat len)), _, _, _, X9, by simp, rfl, rfl, (fun h => by cases h), ⟨rfl, B9, p9.from hh0, f9⟩, fun fs hl => c11.trans (X9.ireturnOut hexec hret rfl (Or.inl rfl) (hb hbytes d46) hl)⟩
end Cmp5
namespace Cmp3
def yN : MethodName := ⟨"java/lang/StringUTF16", "compress", "([CII)[B"⟩
abbrev yB : ByteArray := jdk_52_method_16_code
theorem d0 : decode yB 0 = .ok (.iload_n 2, 1) := by decide +kernel
theorem d1 : decode yB 1 = .ok (.newarray .byte, 2) := by decide +kernel
theorem d3 : decode yB 3 = .ok (.astore_n 3, 1) := by decide +kernel
theorem d4 : decode yB 4 = .ok (.aload_n 0, 1) := by decide +kernel
theorem d5 : decode yB 5 = .ok (.iload_n 1, 1) := by decide +kernel
theorem d6 : decode yB 6 = .ok (.aload_n 3, 1) := by decide +kernel
theorem d7 : decode yB 7 = .ok (.iconst 0, 1) := by decide +kernel
theorem d8 : decode yB 8 = .ok (.iload_n 2, 1) := by decide +kernel
theorem d9 : decode yB 9 = .ok (.invokestatic 115, 3) := by decide +kernel
theorem d12 : decode yB 12 = .ok (.istore 4, 2) := by decide +kernel
theorem d14 : decode yB 14 = .ok (.iload 4, 2) := by decide +kernel
theorem d16 : decode yB 16 = .ok (.iload_n 2, 1) := by decide +kernel
theorem d17 : decode yB 17 = .ok (.if_icmp (.eq) 40, 3) := by decide +kernel
theorem d57 : decode yB 57 = .ok (.aload_n 3, 1) := by decide +kernel
theorem d58 : decode yB 58 = .ok (.areturn, 1) := by decide +kernel
def site : List Cond := [.arrayClass .byte, Cmp5.tab] ++ staticW U16 115 Cmp5.yN
def tab : Cond := tabOf yN yB 6 (some (.array .byte)) site
def P (b : Addr) (A : Cell) (o len : Nat) (args : Array Value) (s : State) : Prop := args = #[.ref b, .int (Int32.ofNat o), .int (Int32.ofNat len)] ∧ Ch b A s ∧ o + len ≤ A.slots.size ∧ len ≤ 536870912 ∧ ∀ i, i < len → ¬ 255 < cv A (o + i)
def E (b : Addr) (A : Cell) (o len : Nat) (r : Option Value) (s u : State) : Prop := NewArr .byte "[B" len (fun j => .int (lo8 (cv A (o + j)))) r s u ∧ u.heap.size = s.heap.size + 1
/-- no char of the range above 255: a new byte[] of their low bytes -/
theorem law (l : Launch) (b : Addr) (A : Cell) (o len : Nat) : Law l yN 3 3 1 18 yB 6 (some (.array .byte)) site (P b A o len) (E b A o len) [] 1 len := by
  refine Law.of_walk (plainFor_of_name (by decide +kernel)) (by decide +kernel) (by decide +kernel) (by decide) (fun _ _ h => by rw [h.1]; rfl) (fun _ U U' hal hh h => ⟨h.1, h.2.1.mv hal hh, h.2.2⟩) (fun r U U' V V' h1 hal h2 h => ⟨NewArr.mv r U U' V V' h1 hal h2 h.1, by rw [h1, h2]; exact h.2⟩) ?_
  intro p e s m args below meth c s₁ X0 hexec hbytes hml hret hlk hnm hown hh0 W hP
  obtain ⟨rfl, hA, l1, l2, hp⟩ := hP
  have a31 := hA.1.2.2.2
  have c1 : Steps p.tables e below (s₁.setTop (entryFrame m #[.ref b, .int (Int32.ofNat o), .int (Int32.ofNat len)] 6)) (s₁.setTop (mkF m 0 #[.val (.ref b), .val (.int (Int32.ofNat o)), .val (.int (Int32.ofNat len)), .unset, .unset, .unset] [])) := entry rfl
  have c2 : Steps p.tables e below (s₁.setTop (entryFrame m #[.ref b, .int (Int32.ofNat o), .int (Int32.ofNat len)] 6)) (s₁.setTop (mkF m 1 #[.val (.ref b), .val (.int (Int32.ofNat o)), .val (.int (Int32.ofNat len)), .unset, .unset, .unset] [.int (Int32.ofNat len)])) := c1.trans (by
    refine XS.iloadN X0.here hexec rfl (hb hbytes d0) rfl ?_
    exact Steps.refl _)
  obtain ⟨T3, B3, X3, ba3, bs3, bv3, bh3, bf3, st3⟩ := X0.anew hexec (atype := .byte) (wk W (.arrayClass .byte)) rfl (by show len * 1 ≤ _; omega) (by omega) (g := (mkF m 1 #[.val (.ref b), .val (.int (Int32.ofNat o)), .val (.int (Int32.ofNat len)), .unset, .unset, .unset] [.int (Int32.ofNat len)])) rfl (hb hbytes d1) (rest := []) rfl (Nat.le_refl _) (by show 0 + len ≤ len; omega)
  rw [hh0] at ba3 st3
  have kp3 : XT.Kept s T3 := (XT.Kept.of_eq hh0).push bh3
  have hA3 := hA.keep X3.warmed.alike (kp3 _ _ hA.1.1)
  have hne : b ≠ s.heap.size := hA.1.ne
  have c4 : Steps p.tables e below (s₁.setTop (entryFrame m #[.ref b, .int (Int32.ofNat o), .int (Int32.ofNat len)] 6)) (T3.setTop (mkF m 3 #[.val (.ref b), .val (.int (Int32.ofNat o)), .val (.int (Int32.ofNat len)), .unset, .unset, .unset] [.ref s.heap.size])) := c2.trans (st3 _ (Steps.refl _))
  have c5 : Steps p.tables e below (s₁.setTop (entryFrame m #[.ref b, .int (Int32.ofNat o), .int (Int32.ofNat len)] 6)) (T3.setTop (mkF m 9 #[.val (.ref b), .val (.int (Int32.ofNat o)), .val (.int (Int32.ofNat len)), .val (.ref s.heap.size), .unset, .unset] [.int (Int32.ofNat len), .int 0, .ref s.heap.size, .int (Int32.ofNat o), .ref b])) := c4.trans (by
    refine XS.astoreN X3.here hexec rfl (hb hbytes d3) rfl rfl rfl ?_
    refine XS.aloadN X3.here hexec rfl (hb hbytes d4) rfl rfl ?_
    refine XS.iloadN X3.here hexec rfl (hb hbytes d5) rfl ?_
    refine XS.aloadN X3.here hexec rfl (hb hbytes d6) rfl rfl ?_
    refine iconstV X3.here hexec rfl 0 (hb hbytes d7) (by decide) ?_
    refine XS.iloadN X3.here hexec rfl (hb hbytes d8) rfl ?_
    exact Steps.refl _)
  obtain ⟨v6, T6, X6, E6, g6⟩ := X3.callS hexec (Cmp5.law l b A s.heap.size B3 o 0 len) hown (wks W (staticW U16 115 Cmp5.yN)) (wk W Cmp5.tab) (W := 0) (Nat.le_of_ble_eq_true rfl) (Nat.le_of_ble_eq_true rfl) (Nat.le_refl _) (by show 0 + len + 0 ≤ len; omega) (g := (mkF m 9 #[.val (.ref b), .val (.int (Int32.ofNat o)), .val (.int (Int32.ofNat len)), .val (.ref s.heap.size), .unset, .unset] [.int (Int32.ofNat len), .int (Int32.ofNat 0), .ref s.heap.size, .int (Int32.ofNat o), .ref b])) rfl (by rw [hml]; rfl) c5 (argsL := [.ref b, .int (Int32.ofNat o), .ref s.heap.size, .int (Int32.ofNat 0), .int (Int32.ofNat len)]) (rest := []) rfl rfl (by show 2 * 0 + 0 ≤ _; decide) (hb hbytes d9) (⟨rfl, hA3, ba3, hne, l1, by rw [bs3]; simp, hp⟩)
  obtain ⟨rfl, B6, p6, f6⟩ := E6
  have c7 : Steps p.tables e below (s₁.setTop (entryFrame m #[.ref b, .int (Int32.ofNat o), .int (Int32.ofNat len)] 6)) (T6.setTop (mkF m 12 #[.val (.ref b), .val (.int (Int32.ofNat o)), .val (.int (Int32.ofNat len)), .val (.ref s.heap.size), .unset, .unset] [.int (Int32.ofNat len)])) := g6
  have c8 : Steps p.tables e below (s₁.setTop (entryFrame m #[.ref b, .int (Int32.ofNat o), .int (Int32.ofNat len)] 6)) (T6.setTop (mkF m 58 #[.val (.ref b), .val (.int (Int32.ofNat o)), .val (.int (Int32.ofNat len)), .val (.ref s.heap.size), .val (.int (Int32.ofNat len)), .unset] [.ref s.heap.size])) := c7.trans (by
    refine XS.istore X6.here hexec rfl (hb hbytes d12) rfl rfl ?_
    refine XS.iload X6.here hexec rfl (hb hbytes d14) rfl ?_
    refine XS.iloadN X6.here hexec rfl (hb hbytes d16) rfl ?_
    refine XS.icmpYes X6.here hexec rfl (pc0 := 17) rfl (hb hbytes d17) rfl (ii_eq_t rfl) (by decide) rfl ?_
    refine XS.aloadN X6.here hexec rfl (hb hbytes d57) rfl rfl ?_
    exact Steps.refl _)
  have X8 := X6.wide (L' := []) (cells' := 1) (slots' := len) (fun x hx hlt => by
    simp only [List.nil_append, copyLocs, List.mem_map, List.mem_range] at hx
    obtain ⟨i, -, rfl⟩ := hx
    exact absurd hlt (Nat.lt_irrefl _)) (Nat.le_refl _) (by omega)
  exact ⟨T6, some (.ref s.heap.size), _, _, _, X8, rfl, rfl, rfl, (fun h => by cases h), ⟨⟨rfl, B6, ba3.like (X3.warmed.alike.symm.trans X6.warmed.alike) p6.1 f6.1 f6.2.1 f6.2.2.1, f6.2.1.trans bv3, by rw [X6.warmed.alike.findClass, f6.1]; exact bf3, by rw [f6.2.2.1, bs3]; simp, fun j hj => by rw [f6.2.2.2 j, if_pos (by omega)]; rfl, kp3.put p6 (Nat.le_refl _)⟩, by rw [p6.2.2, bh3, hh0]; simp⟩, fun fs hl => c8.trans (X8.areturnOut hexec rfl hret rfl (hb hbytes d58) hl)⟩
end Cmp3
namespace CodL
def yN : MethodName := ⟨"java/lang/StringUTF16", "coderFromArrayLen", "([BI)B"⟩
abbrev yB : ByteArray := jdk_52_method_15_code
theorem d0 : decode yB 0 = .ok (.iload_n 1, 1) := by decide +kernel
theorem d1 : decode yB 1 = .ok (.aload_n 0, 1) := by decide +kernel
theorem d2 : decode yB 2 = .ok (.arraylength, 1) := by decide +kernel
theorem d3 : decode yB 3 = .ok (.isub, 1) := by decide +kernel
theorem d4 : decode yB 4 = .ok (.bipush 31, 2) := by decide +kernel
theorem d6 : decode yB 6 = .ok (.iushr, 1) := by decide +kernel
theorem d7 : decode yB 7 = .ok (.i2b, 1) := by decide +kernel
theorem d8 : decode yB 8 = .ok (.ireturn, 1) := by decide +kernel
def site : List Cond := []
def tab : Cond := tabOf yN yB 2 (some .byte) site
def P (d : Addr) (B : Cell) (args : Array Value) (s : State) : Prop := args = #[.ref d, .int (Int32.ofNat B.slots.size)] ∧ Arr .byte d B s
def E (r : Option Value) (s u : State) : Prop := XT.PureE (some (.int 0)) r s u
/-- an array as long as the number of chars: LATIN1 -/
theorem law (l : Launch) (d : Addr) (B : Cell) : Law l yN 2 2 0 0 yB 2 (some .byte) site (P d B) E [] 0 0 := by
  refine Law.of_walk (plainFor_of_name (by decide +kernel)) (by decide +kernel) (by decide +kernel) (by decide) (fun _ _ h => by rw [h.1]; rfl) (fun _ U U' hal hh h => ⟨h.1, h.2.mv hal hh⟩) (fun r U U' V V' h1 hal h2 h => XT.PureE.mv r U U' V V' h1 hal h2 h) ?_
  intro p e s m args below meth c s₁ X0 hexec hbytes hml hret hlk hnm hown hh0 W hP
  obtain ⟨rfl, hB⟩ := hP
  have hB0 := hB.mv X0.warmed.alike hh0
  have c1 : Steps p.tables e below (s₁.setTop (entryFrame m #[.ref d, .int (Int32.ofNat B.slots.size)] 2)) (s₁.setTop (mkF m 0 #[.val (.ref d), .val (.int (Int32.ofNat B.slots.size))] [])) := entry rfl
  have c2 : Steps p.tables e below (s₁.setTop (entryFrame m #[.ref d, .int (Int32.ofNat B.slots.size)] 2)) (s₁.setTop (mkF m 2 #[.val (.ref d), .val (.int (Int32.ofNat B.slots.size))] [.ref d, .int (Int32.ofNat B.slots.size)])) := c1.trans (by
    refine XS.iloadN X0.here hexec rfl (hb hbytes d0) rfl ?_
    refine XS.aloadN X0.here hexec rfl (hb hbytes d1) rfl rfl ?_
    exact Steps.refl _)
  have c3 : Steps p.tables e below (s₁.setTop (entryFrame m #[.ref d, .int (Int32.ofNat B.slots.size)] 2)) (s₁.setTop (mkF m 8 #[.val (.ref d), .val (.int (Int32.ofNat B.slots.size))] [.int (lo8 (ushr (Int32.ofNat B.slots.size - Int32.ofNat B.slots.size) 31))])) := c2.trans (by
    refine X0.alen hexec hB0 rfl rfl (hb hbytes d2) ?_
    refine XS.isub X0.here hexec rfl (hb hbytes d3) rfl ?_
    refine bipushV X0.here hexec rfl 31 (hb hbytes d4) (by decide) ?_
    refine iushr X0.here hexec rfl (hb hbytes d6) rfl ?_
    refine i2b X0.here hexec rfl (hb hbytes d7) rfl ?_
    exact Steps.refl _)
  have e0 : lo8 (ushr (Int32.ofNat B.slots.size - Int32.ofNat B.slots.size) 31) = 0 := by rw [Int32.sub_self]; decide
  rw [e0] at c3
  exact ⟨s₁, some (.int 0), _, _, _, X0, rfl, rfl, rfl, (fun h => by cases h), ⟨rfl, hh0⟩, fun fs hl => c3.trans (X0.ireturnOut hexec hret rfl (Or.inr (Or.inr (Or.inl rfl))) (hb hbytes d8) hl)⟩
end CodL
/-- the String at a is Latin-1 over a new byte[] (the heap's one new cell): the low bytes of the len chars of A from o on; every cell but a is kept -/
def Got (a : Addr) (D : Cell) (fV fC : Field) (A : Cell) (o len : Nat) (r : Option Value) (s u : State) : Prop := r = none ∧ ∃ D' V : Cell, Blank "java/lang/String" a D' u ∧ Same D D' [fV.slot, fC.slot] ∧ D'.slots[fV.slot]? = some (.ref s.heap.size) ∧ D'.slots[fC.slot]? = some (.int 0) ∧ Arr .byte s.heap.size V u ∧ V.vm = .none ∧ u.vm.findClass "[B" = some V.cls ∧ V.slots.size = len ∧ (∀ j, j < len → V.slots[j]? = some (.int (lo8 (cv A (o + j))))) ∧ (∀ (y : Addr) (c : Cell), y ≠ a → s.heap[y]? = some c → u.heap[y]? = some c) ∧ u.heap.size = s.heap.size + 1
theorem Got.mv {a : Addr} {D A : Cell} {fV fC : Field} {o len : Nat} : ∀ r (U U' V V' : State), U'.heap = U.heap → V.vm.Alike V'.vm → V'.heap = V.heap → Got a D fV fC A o len r U V → Got a D fV fC A o len r U' V' :=
  fun r U U' V V' h1 hal h2 ⟨e0, D', X, a1, a2, a3, a4, a5, a6, a7, a8, a9, a10, a11⟩ => ⟨e0, D', X, a1.mv hal h2, a2, by rw [h1]; exact a3, a4, by rw [h1]; exact a5.mv hal h2, a6, by rw [hal.findClass]; exact a7, a8, a9, by rw [h1, h2]; exact a10, by rw [h1, h2]; exact a11⟩
namespace New4
def yN : MethodName := ⟨"java/lang/String", "<init>", "([CIILjava/lang/Void;)V"⟩
abbrev yB : ByteArray := jdk_42_method_149_code
theorem d0 : decode yB 0 = .ok (.aload_n 0, 1) := by decide +kernel
theorem d1 : decode yB 1 = .ok (.invokespecial 1, 3) := by decide +kernel
theorem d4 : decode yB 4 = .ok (.iload_n 3, 1) := by decide +kernel
theorem d5 : decode yB 5 = .ok (.ifCond (.ne) 22, 3) := by decide +kernel
theorem d27 : decode yB 27 = .ok (.getstatic 38, 3) := by decide +kernel
theorem d30 : decode yB 30 = .ok (.ifCond (.eq) 28, 3) := by decide +kernel
theorem d33 : decode yB 33 = .ok (.aload_n 1, 1) := by decide +kernel
theorem d34 : decode yB 34 = .ok (.iload_n 2, 1) := by decide +kernel
theorem d35 : decode yB 35 = .ok (.iload_n 3, 1) := by decide +kernel
theorem d36 : decode yB 36 = .ok (.invokestatic 177, 3) := by decide +kernel
theorem d39 : decode yB 39 = .ok (.astore 5, 2) := by decide +kernel
theorem d41 : decode yB 41 = .ok (.aload_n 0, 1) := by decide +kernel
theorem d42 : decode yB 42 = .ok (.aload 5, 2) := by decide +kernel
theorem d44 : decode yB 44 = .ok (.iload_n 3, 1) := by decide +kernel
theorem d45 : decode yB 45 = .ok (.invokestatic 47, 3) := by decide +kernel
theorem d48 : decode yB 48 = .ok (.putfield 15, 3) := by decide +kernel
theorem d51 : decode yB 51 = .ok (.aload_n 0, 1) := by decide +kernel
theorem d52 : decode yB 52 = .ok (.aload 5, 2) := by decide +kernel
theorem d54 : decode yB 54 = .ok (.putfield 9, 3) := by decide +kernel
theorem d57 : decode yB 57 = .ok (.return_, 1) := by decide +kernel
def site : List Cond := [.fieldLink "java/lang/String" 38 "java/lang/String" "COMPACT_STRINGS" "Z", Cmp3.tab, CodL.tab, .laysFinal "java/lang/String" "java/lang/String" "value" "[B", .fieldLink "java/lang/String" 9 "java/lang/String" "value" "[B", .laysFinal "java/lang/String" "java/lang/String" "coder" "B", .fieldLink "java/lang/String" 15 "java/lang/String" "coder" "B"] ++ objW "java/lang/String" 1 ++ staticW "java/lang/String" 177 Cmp3.yN ++ staticW "java/lang/String" 47 CodL.yN
def tab : Cond := tabOf yN yB 6 none site
def P (a : Addr) (D : Cell) (fV fC : Field) (b : Addr) (A : Cell) (z : Int32) (o len : Nat) (args : Array Value) (s : State) : Prop := args = #[.ref a, .ref b, .int (Int32.ofNat o), .int (Int32.ofNat len), .null] ∧ Blank "java/lang/String" a D s ∧ Found "java/lang/String" "value" "[B" fV s ∧ Found "java/lang/String" "coder" "B" fC s ∧ Ch b A s ∧ StaticIs s "java/lang/String" "COMPACT_STRINGS" "Z" (.int z) ∧ ¬ z = 0 ∧ 0 < len ∧ o + len ≤ A.slots.size ∧ len ≤ 536870912 ∧ ∀ i, i < len → ¬ 255 < cv A (o + i)
def E (a : Addr) (D : Cell) (fV fC : Field) (A : Cell) (o len : Nat) (r : Option Value) (s u : State) : Prop := Got a D fV fC A o len r s u
/-- len > 0, no char of the range above 255: a Latin-1 String of their low bytes -/
theorem law (l : Launch) (a : Addr) (D : Cell) (fV fC : Field) (b : Addr) (A : Cell) (z : Int32) (o len : Nat) : Law l yN 5 4 2 35 yB 6 none site (P a D fV fC b A z o len) (E a D fV fC A o len) [⟨a, fC.slot⟩, ⟨a, fV.slot⟩] 1 len := by
  refine Law.of_walk (plainFor_of_name (by decide +kernel)) (by decide +kernel) (by decide +kernel) (by decide) (fun _ _ h => by rw [h.1]; rfl) (fun _ U U' hal hh h => ⟨h.1, h.2.1.mv hal hh, h.2.2.1.al hal, h.2.2.2.1.al hal, h.2.2.2.2.1.mv hal hh, h.2.2.2.2.2.1.there hal hh, h.2.2.2.2.2.2⟩) (fun r U U' V V' h1 hal h2 h => Got.mv r U U' V V' h1 hal h2 h) ?_
  intro p e s m args below meth c s₁ X0 hexec hbytes hml hret hlk hnm hown hh0 W hP
  obtain ⟨rfl, hB, f1, f2, hA, s1, hz, l0, l1, l2, hp⟩ := hP
  have a31 := hA.1.2.2.2
  have c1 : Steps p.tables e below (s₁.setTop (entryFrame m #[.ref a, .ref b, .int (Int32.ofNat o), .int (Int32.ofNat len), .null] 6)) (s₁.setTop (mkF m 0 #[.val (.ref a), .val (.ref b), .val (.int (Int32.ofNat o)), .val (.int (Int32.ofNat len)), .val .null, .unset] [])) := entry rfl
  have c2 : Steps p.tables e below (s₁.setTop (entryFrame m #[.ref a, .ref b, .int (Int32.ofNat o), .int (Int32.ofNat len), .null] 6)) (s₁.setTop (mkF m 1 #[.val (.ref a), .val (.ref b), .val (.int (Int32.ofNat o)), .val (.int (Int32.ofNat len)), .val .null, .unset] [.ref a])) := c1.trans (by
    refine XS.aloadN X0.here hexec rfl (hb hbytes d0) rfl rfl ?_
    exact Steps.refl _)
  obtain ⟨T3, X3, q3, st3⟩ := X0.oinit hexec hown (wks W (objW "java/lang/String" 1)) (g := (mkF m 1 #[.val (.ref a), .val (.ref b), .val (.int (Int32.ofNat o)), .val (.int (Int32.ofNat len)), .val .null, .unset] [.ref a])) rfl (by rw [hml]; rfl) (rest := []) rfl (hb hbytes d1) (W := 0) (by show 2 * 0 + 0 ≤ _; decide) (Nat.le_of_ble_eq_true rfl) (Nat.le_of_ble_eq_true rfl)
  have hh3 := q3.trans hh0
  have c4 : Steps p.tables e below (s₁.setTop (entryFrame m #[.ref a, .ref b, .int (Int32.ofNat o), .int (Int32.ofNat len), .null] 6)) (T3.setTop (mkF m 27 #[.val (.ref a), .val (.ref b), .val (.int (Int32.ofNat o)), .val (.int (Int32.ofNat len)), .val .null, .unset] [])) := (c2.trans (st3 _ (Steps.refl _))).trans (by
    refine XS.iloadN X3.here hexec rfl (hb hbytes d4) rfl ?_
    refine XS.ifYes X3.here hexec rfl (pc0 := 5) rfl (hb hbytes d5) rfl (i0_ne_t (nz32 (by omega) l0)) (by decide) rfl ?_
    exact Steps.refl _)
  obtain ⟨T5, X5, q5, st5⟩ := X3.sget hexec hown (wk W (.fieldLink "java/lang/String" 38 "java/lang/String" "COMPACT_STRINGS" "Z")) s1 (fun _ _ h => by rw [hh3]; exact h) (g := (mkF m 27 #[.val (.ref a), .val (.ref b), .val (.int (Int32.ofNat o)), .val (.int (Int32.ofNat len)), .val .null, .unset] [])) rfl (hb hbytes d27)
  have hh5 := q5.trans hh3
  have c6 : Steps p.tables e below (s₁.setTop (entryFrame m #[.ref a, .ref b, .int (Int32.ofNat o), .int (Int32.ofNat len), .null] 6)) (T5.setTop (mkF m 30 #[.val (.ref a), .val (.ref b), .val (.int (Int32.ofNat o)), .val (.int (Int32.ofNat len)), .val .null, .unset] [.int z])) := c4.trans (st5 _ (Steps.refl _))
  have c7 : Steps p.tables e below (s₁.setTop (entryFrame m #[.ref a, .ref b, .int (Int32.ofNat o), .int (Int32.ofNat len), .null] 6)) (T5.setTop (mkF m 36 #[.val (.ref a), .val (.ref b), .val (.int (Int32.ofNat o)), .val (.int (Int32.ofNat len)), .val .null, .unset] [.int (Int32.ofNat len), .int (Int32.ofNat o), .ref b])) := c6.trans (by
    refine XS.ifNo X5.here hexec rfl (hb hbytes d30) rfl (i0_eq_f hz) ?_
    refine XS.aloadN X5.here hexec rfl (hb hbytes d33) rfl rfl ?_
    refine XS.iloadN X5.here hexec rfl (hb hbytes d34) rfl ?_
    refine XS.iloadN X5.here hexec rfl (hb hbytes d35) rfl ?_
    exact Steps.refl _)
  obtain ⟨v8, T8, X8, E8, g8⟩ := X5.callS hexec (Cmp3.law l b A o len) hown (wks W (staticW "java/lang/String" 177 Cmp3.yN)) (wk W Cmp3.tab) (W := 0) (Nat.le_of_ble_eq_true rfl) (Nat.le_of_ble_eq_true rfl) (Nat.le_refl _) (by show 0 + len ≤ len; omega) (g := (mkF m 36 #[.val (.ref a), .val (.ref b), .val (.int (Int32.ofNat o)), .val (.int (Int32.ofNat len)), .val .null, .unset] [.int (Int32.ofNat len), .int (Int32.ofNat o), .ref b])) rfl (by rw [hml]; rfl) c7 (argsL := [.ref b, .int (Int32.ofNat o), .int (Int32.ofNat len)]) (rest := []) rfl rfl (by show 2 * 0 + 0 ≤ _; decide) (hb hbytes d36) (⟨rfl, hA.mv X5.warmed.alike hh5, l1, l2, hp⟩)
  obtain ⟨e8, z8⟩ := E8
  obtain ⟨rfl, N, n1, n2, n3, n4, n5, n6⟩ := NewArr.mv _ T5 s _ _ hh5.symm (Vm.Alike.refl _) rfl e8
  rw [hh5] at z8
  have hB1 := hB.keep X8.warmed.alike (n6 _ _ hB.1)
  have hne : s.heap.size ≠ a := (Nat.ne_of_lt (Array.getElem?_eq_some_iff.mp hB.1).1).symm
  have c9 : Steps p.tables e below (s₁.setTop (entryFrame m #[.ref a, .ref b, .int (Int32.ofNat o), .int (Int32.ofNat len), .null] 6)) (T8.setTop (mkF m 39 #[.val (.ref a), .val (.ref b), .val (.int (Int32.ofNat o)), .val (.int (Int32.ofNat len)), .val .null, .unset] [.ref s.heap.size])) := g8
  have c10 : Steps p.tables e below (s₁.setTop (entryFrame m #[.ref a, .ref b, .int (Int32.ofNat o), .int (Int32.ofNat len), .null] 6)) (T8.setTop (mkF m 45 #[.val (.ref a), .val (.ref b), .val (.int (Int32.ofNat o)), .val (.int (Int32.ofNat len)), .val .null, .val (.ref s.heap.size)] [.int (Int32.ofNat N.slots.size), .ref s.heap.size, .ref a])) := by
    have hc : Steps p.tables e below (s₁.setTop (entryFrame m #[.ref a, .ref b, .int (Int32.ofNat o), .int (Int32.ofNat len), .null] 6)) (T8.setTop (mkF m 45 #[.val (.ref a), .val (.ref b), .val (.int (Int32.ofNat o)), .val (.int (Int32.ofNat len)), .val .null, .val (.ref s.heap.size)] [.int (Int32.ofNat len), .ref s.heap.size, .ref a])) := c9.trans (by
      refine XS.astore X8.here hexec rfl (hb hbytes d39) rfl rfl rfl ?_
      refine XS.aloadN X8.here hexec rfl (hb hbytes d41) rfl rfl ?_
      refine XS.aload X8.here hexec rfl (hb hbytes d42) rfl rfl ?_
      refine XS.iloadN X8.here hexec rfl (hb hbytes d44) rfl ?_
      exact Steps.refl _)
    rw [n4]; exact hc
  obtain ⟨v11, T11, X11, E11, g11⟩ := X8.callS hexec (CodL.law l s.heap.size N) hown (wks W (staticW "java/lang/String" 47 CodL.yN)) (wk W CodL.tab) (W := 1) (Nat.le_of_ble_eq_true rfl) (Nat.le_of_ble_eq_true rfl) (Nat.le_refl _) (by show 0 + len + 0 ≤ len; omega) (g := (mkF m 45 #[.val (.ref a), .val (.ref b), .val (.int (Int32.ofNat o)), .val (.int (Int32.ofNat len)), .val .null, .val (.ref s.heap.size)] [.int (Int32.ofNat N.slots.size), .ref s.heap.size, .ref a])) rfl (by rw [hml]; rfl) c10 (argsL := [.ref s.heap.size, .int (Int32.ofNat N.slots.size)]) (rest := [.ref a]) rfl rfl (by show 2 * 0 + (1 + 0) ≤ _; decide) (hb hbytes d45) (⟨rfl, n1⟩)
  obtain ⟨rfl, q11⟩ := E11
  have hB11 := hB1.mv (X8.warmed.alike.symm.trans X11.warmed.alike) q11
  have c12 : Steps p.tables e below (s₁.setTop (entryFrame m #[.ref a, .ref b, .int (Int32.ofNat o), .int (Int32.ofNat len), .null] 6)) (T11.setTop (mkF m 48 #[.val (.ref a), .val (.ref b), .val (.int (Int32.ofNat o)), .val (.int (Int32.ofNat len)), .val .null, .val (.ref s.heap.size)] [.int 0, .ref a])) := g11
  obtain ⟨T13, X13, p13, bl13, sl13, st13⟩ := X11.finit hexec hown (wk W (.fieldLink "java/lang/String" 15 "java/lang/String" "coder" "B")) (Or.inr ⟨_, (wk W (.laysFinal "java/lang/String" "java/lang/String" "coder" "B"))⟩) (Or.inl ⟨rfl, hnm⟩) f2 (Or.inl rfl) hB11 (t := .byte) (by decide +kernel) rfl (g := (mkF m 48 #[.val (.ref a), .val (.ref b), .val (.int (Int32.ofNat o)), .val (.int (Int32.ofNat len)), .val .null, .val (.ref s.heap.size)] [.int 0, .ref a])) rfl (rest := []) rfl (hb hbytes d48)
  have c14 : Steps p.tables e below (s₁.setTop (entryFrame m #[.ref a, .ref b, .int (Int32.ofNat o), .int (Int32.ofNat len), .null] 6)) (T13.setTop (mkF m 54 #[.val (.ref a), .val (.ref b), .val (.int (Int32.ofNat o)), .val (.int (Int32.ofNat len)), .val .null, .val (.ref s.heap.size)] [.ref s.heap.size, .ref a])) := (c12.trans (st13 _ (Steps.refl _))).trans (by
    refine XS.aloadN X13.here hexec rfl (hb hbytes d51) rfl rfl ?_
    refine XS.aload X13.here hexec rfl (hb hbytes d52) rfl rfl ?_
    exact Steps.refl _)
  obtain ⟨T15, X15, p15, bl15, sl15, st15⟩ := X13.finit hexec hown (wk W (.fieldLink "java/lang/String" 9 "java/lang/String" "value" "[B")) (Or.inr ⟨_, (wk W (.laysFinal "java/lang/String" "java/lang/String" "value" "[B"))⟩) (Or.inl ⟨rfl, hnm⟩) f1 (Or.inl rfl) bl13 (t := (.array .byte)) (by decide +kernel) rfl (g := (mkF m 54 #[.val (.ref a), .val (.ref b), .val (.int (Int32.ofNat o)), .val (.int (Int32.ofNat len)), .val .null, .val (.ref s.heap.size)] [.ref s.heap.size, .ref a])) rfl (rest := []) rfl (hb hbytes d54)
  have c16 : Steps p.tables e below (s₁.setTop (entryFrame m #[.ref a, .ref b, .int (Int32.ofNat o), .int (Int32.ofNat len), .null] 6)) (T15.setTop (mkF m 57 #[.val (.ref a), .val (.ref b), .val (.int (Int32.ofNat o)), .val (.int (Int32.ofNat len)), .val .null, .val (.ref s.heap.size)] [])) := c14.trans (st15 _ (Steps.refl _))
  have ap := apart (Or.inr ⟨_, (wk W (.laysFinal "java/lang/String" "java/lang/String" "value" "[B"))⟩) (Or.inr ⟨_, (wk W (.laysFinal "java/lang/String" "java/lang/String" "coder" "B"))⟩) f1 f2 (t₁ := .array .byte) (t₂ := .byte) (by decide +kernel) (by decide +kernel) (by decide)
  have al := X8.warmed.alike.symm.trans X15.warmed.alike
  have n7 : T11.heap[s.heap.size]? = some N := by rw [q11]; exact n1.1
  exact ⟨T15, none, _, _, _, X15, by simp, rfl, by omega, (fun _ => rfl), ⟨rfl, _, N, bl15, ((Same.refl D _).set _ (by simp)).set _ (by simp), sl15, (Cell.slots_setSlot_ne _ ap).trans sl13, n1.keep al (p15.other hne (p13.other hne n7)), n2, by rw [al.findClass]; exact n3, n4, n5, fun y c h1 h2 => p15.other h1 (p13.other h1 (by rw [q11]; exact n6 y c h2)), by rw [p15.2.2, p13.2.2, q11]; exact z8⟩, fun fs hl => c16.trans (X15.returnOut hexec hret (hb hbytes d57) hl)⟩
end New4
namespace New1
def yN : MethodName := ⟨"java/lang/String", "<init>", "([C)V"⟩
abbrev yB : ByteArray := jdk_42_method_3_code
theorem d0 : decode yB 0 = .ok (.aload_n 0, 1) := by decide +kernel
theorem d1 : decode yB 1 = .ok (.aload_n 1, 1) := by decide +kernel
theorem d2 : decode yB 2 = .ok (.iconst 0, 1) := by decide +kernel
theorem d3 : decode yB 3 = .ok (.aload_n 1, 1) := by decide +kernel
theorem d4 : decode yB 4 = .ok (.arraylength, 1) := by decide +kernel
theorem d5 : decode yB 5 = .ok (.aconst_null, 1) := by decide +kernel
theorem d6 : decode yB 6 = .ok (.invokespecial 27, 3) := by decide +kernel
theorem d9 : decode yB 9 = .ok (.return_, 1) := by decide +kernel
def site : List Cond := [New4.tab] ++ initW "java/lang/String" 27 New4.yN
def tab : Cond := tabOf yN yB 2 none site
def P (a : Addr) (D : Cell) (fV fC : Field) (b : Addr) (A : Cell) (z : Int32) (args : Array Value) (s : State) : Prop := args = #[.ref a, .ref b] ∧ Blank "java/lang/String" a D s ∧ Found "java/lang/String" "value" "[B" fV s ∧ Found "java/lang/String" "coder" "B" fC s ∧ Ch b A s ∧ StaticIs s "java/lang/String" "COMPACT_STRINGS" "Z" (.int z) ∧ ¬ z = 0 ∧ 0 < A.slots.size ∧ A.slots.size ≤ 536870912 ∧ ∀ i, i < A.slots.size → ¬ 255 < cv A i
def E (a : Addr) (D : Cell) (fV fC : Field) (A : Cell) (r : Option Value) (s u : State) : Prop := Got a D fV fC A 0 A.slots.size r s u
/-- new String(chars), not empty, no char above 255: a Latin-1 String of their low bytes -/
theorem law (l : Launch) (a : Addr) (D : Cell) (fV fC : Field) (b : Addr) (A : Cell) (z : Int32) : Law l yN 2 1 3 52 yB 2 none site (P a D fV fC b A z) (E a D fV fC A) [⟨a, fC.slot⟩, ⟨a, fV.slot⟩] 1 A.slots.size := by
  refine Law.of_walk (plainFor_of_name (by decide +kernel)) (by decide +kernel) (by decide +kernel) (by decide) (fun _ _ h => by rw [h.1]; rfl) (fun _ U U' hal hh h => ⟨h.1, h.2.1.mv hal hh, h.2.2.1.al hal, h.2.2.2.1.al hal, h.2.2.2.2.1.mv hal hh, h.2.2.2.2.2.1.there hal hh, h.2.2.2.2.2.2⟩) (fun r U U' V V' h1 hal h2 h => Got.mv r U U' V V' h1 hal h2 h) ?_
  intro p e s m args below meth c s₁ X0 hexec hbytes hml hret hlk hnm hown hh0 W hP
  obtain ⟨rfl, hB, f1, f2, hA, s1, hz, l0, l2, hp⟩ := hP
  have c1 : Steps p.tables e below (s₁.setTop (entryFrame m #[.ref a, .ref b] 2)) (s₁.setTop (mkF m 0 #[.val (.ref a), .val (.ref b)] [])) := entry rfl
  have c2 : Steps p.tables e below (s₁.setTop (entryFrame m #[.ref a, .ref b] 2)) (s₁.setTop (mkF m 6 #[.val (.ref a), .val (.ref b)] [.null, .int (Int32.ofNat A.slots.size), .int 0, .ref b, .ref a])) := c1.trans (by
    refine XS.aloadN X0.here hexec rfl (hb hbytes d0) rfl rfl ?_
    refine XS.aloadN X0.here hexec rfl (hb hbytes d1) rfl rfl ?_
    refine iconstV X0.here hexec rfl 0 (hb hbytes d2) (by decide) ?_
    refine XS.aloadN X0.here hexec rfl (hb hbytes d3) rfl rfl ?_
    refine X0.alen hexec (hA.1.mv X0.warmed.alike hh0) rfl rfl (hb hbytes d4) ?_
    refine XS.aconstNull X0.here hexec rfl (hb hbytes d5) ?_
    exact Steps.refl _)
  obtain ⟨v3, T3, X3, E3, g3⟩ := X0.callN hexec (New4.law l a D fV fC b A z 0 A.slots.size) rfl hown (wks W (initW "java/lang/String" 27 New4.yN)) (W New4.tab (by simp only [site, List.mem_cons, List.mem_append, true_or, or_true])) (W := 0) (Nat.le_of_ble_eq_true rfl) (Nat.le_of_ble_eq_true rfl) (Nat.le_refl _) (by show 0 + A.slots.size ≤ A.slots.size; omega) (g := (mkF m 6 #[.val (.ref a), .val (.ref b)] [.null, .int (Int32.ofNat A.slots.size), .int (Int32.ofNat 0), .ref b, .ref a])) rfl (by rw [hml]; rfl) c2 (argsL := [.ref b, .int (Int32.ofNat 0), .int (Int32.ofNat A.slots.size), .null]) (rest := []) rfl rfl (by show 2 * 0 + 0 ≤ _; decide) (hb hbytes d6) (⟨rfl, hB.mv X0.warmed.alike hh0, f1.al X0.warmed.alike, f2.al X0.warmed.alike, hA.mv X0.warmed.alike hh0, s1.there X0.warmed.alike hh0, hz, l0, by omega, l2, fun i hi => by rw [Nat.zero_add]; exact hp i hi⟩)
  have e0 := Got.mv _ s₁ s _ _ hh0.symm (Vm.Alike.refl _) rfl E3
  obtain rfl := e0.1
  have c4 : Steps p.tables e below (s₁.setTop (entryFrame m #[.ref a, .ref b] 2)) (T3.setTop (mkF m 9 #[.val (.ref a), .val (.ref b)] [])) := g3
  exact ⟨T3, none, _, _, _, X3, by simp, rfl, by omega, (fun _ => rfl), e0, fun fs hl => c4.trans (X3.returnOut hexec hret (hb hbytes d9) hl)⟩
theorem pays {l : Launch} {R : Room} {p : Program} {e : Env} {below : List Frame} {s : State} {sargs : Array Value} {len W : Nat} (a : Addr) (D : Cell) (fV fC : Field) (b : Addr) (A : Cell) (z : Int32) (htab : tab.before sargs s = true) (hfr : 4 ≤ R.frames) (hlo : W + 65 ≤ R.locals) :
    Back l R p e below s sargs yN len W (fun A₁ a₁ => A₁.cells + 1 ≤ R.cells ∧ A₁.slots + A.slots.size ≤ R.slots ∧ P a D fV fC b A z a₁ A₁.U) (fun A₁ _ v₁ B₁ => E a D fV fC A v₁ A₁.U B₁.U ∧ B₁.locs = A₁.locs ++ [⟨a, fC.slot⟩, ⟨a, fV.slot⟩] ∧ B₁.cells = A₁.cells + 1 ∧ B₁.slots = A₁.slots + A.slots.size) :=
  (law l a D fV fC b A z).pays htab hfr (by omega)
end New1
/-- the byte, read back as charAt reads it, is the char -/
theorem lo8_mask {x : Int32} (h0 : ¬ x < 0) (h1 : ¬ 255 < x) : lo8 x &&& 255 = x := by
  have t : ∀ k : Fin 256, lo8 (Int32.ofNat k.val) &&& 255 = Int32.ofNat k.val := by decide +kernel
  rw [Int32.lt_iff_toInt_lt] at h0 h1
  have e0 : (0 : Int32).toInt = 0 := rfl
  have e1 : (255 : Int32).toInt = 255 := rfl
  obtain ⟨k, hk⟩ : ∃ k : Nat, x.toInt = k := ⟨x.toInt.toNat, by omega⟩
  have hx : x = Int32.ofNat k := Int32.toInt_inj.mp (by rw [hk, Int32.toInt_ofNat_small (by omega)])
  rw [hx]
  exact t ⟨k, by omega⟩
end StrChars
namespace StrChars.Road
open Jvm Sem ClassFile Op Lib Jvm.Stand Jvm.Free Jvm.Free.XT
open Jvm.Lib.Cold (StaticIs)
abbrev ST : String := "java/lang/String"
/-- every table word that New1's law asks, flat -/
abbrev words : List Jvm.Cond := [.code New1.yN New1.yB 2 none, .initialized ST, .methodLink ST 27 New4.yN, .instanceMethod New4.yN,
  .code New4.yN New4.yB 6 none, .fieldLink ST 38 ST "COMPACT_STRINGS" "Z", .laysFinal ST ST "value" "[B", .fieldLink ST 9 ST "value" "[B", .laysFinal ST ST "coder" "B", .fieldLink ST 15 ST "coder" "B",
  .methodLink ST 1 Lib.objectInit, .instanceMethod Lib.objectInit, .code Lib.objectInit ⟨#[0xb1]⟩ 1 none, .methodLink ST 177 Cmp3.yN, .static Cmp3.yN, .methodLink ST 47 CodL.yN, .static CodL.yN,
  .code Cmp3.yN Cmp3.yB 6 (some (.array .byte)), .initialized U16, .arrayClass .byte, .methodLink U16 115 Cmp5.yN, .static Cmp5.yN, .code Cmp5.yN Cmp5.yB 7 (some .int), .code CodL.yN CodL.yB 2 (some .byte)]
theorem tab_of {a : Array Value} {s : State} (h : ∀ w ∈ words, w.before a s = true) : New1.tab.before a s = true := by
  have h5 : Cmp5.tab.before a s = true := unparts (wk h (.code Cmp5.yN Cmp5.yB 7 (some .int))) (wks h (.initialized Cmp5.yN.cls :: Cmp5.site))
  have hc : CodL.tab.before a s = true := unparts (wk h (.code CodL.yN CodL.yB 2 (some .byte))) (wks h (.initialized CodL.yN.cls :: CodL.site))
  have q5 : ∀ w ∈ Cmp5.tab :: words, w.before a s = true := fun w hw => (List.mem_cons.mp hw).elim (fun e => e ▸ h5) (h w)
  have h3 : Cmp3.tab.before a s = true := unparts (wk q5 (.code Cmp3.yN Cmp3.yB 6 (some (.array .byte)))) (wks q5 (.initialized Cmp3.yN.cls :: Cmp3.site))
  have q3 : ∀ w ∈ Cmp3.tab :: CodL.tab :: words, w.before a s = true := fun w hw => (List.mem_cons.mp hw).elim (fun e => e ▸ h3) fun hw => (List.mem_cons.mp hw).elim (fun e => e ▸ hc) (h w)
  have h4 : New4.tab.before a s = true := unparts (wk q3 (.code New4.yN New4.yB 6 none)) (wks q3 (.initialized New4.yN.cls :: New4.site))
  have q4 : ∀ w ∈ New4.tab :: words, w.before a s = true := fun w hw => (List.mem_cons.mp hw).elim (fun e => e ▸ h4) (h w)
  exact unparts (wk q4 (.code New1.yN New1.yB 2 none)) (wks q4 (.initialized New1.yN.cls :: New1.site))
/-- the words ride from the start Z to the walk's own state -/
theorem moved {Z s : State} {a0 args : Array Value} (hZ : Z.Warmed39 s.vm) (hw : ∀ d ∈ words, d.before a0 Z = true) : ∀ d ∈ words, d.before args s = true := fun d hd => by
  have q := hw d hd
  have t : ∀ d ∈ words, d = .arrayClass .byte ∨ (d.onTables && d.keepsFace) = true := by decide +kernel
  rcases t d hd with rfl | t
  · exact RoadKit.mvA hZ q
  · exact RoadKit.mv hZ q t
/-- WHAT COMES BACK, over the tables of the start Z: h the heap at the call, h' behind it -/
def Q (Z : State) (x : Addr) (A : Cell) (h : Heap) (v : Option Value) (h' : Heap) (L : List Loc) : Prop := v = none ∧ (∀ y ∈ L, y.base = x) ∧ RoadKit.Keep h h' [x] ∧ h'.size = h.size + 1 ∧ RoadKit.Exa Z h' x ST ∧ RoadKit.Fld Z h' x ST "value" "[B" (.ref h.size) ∧ RoadKit.Fld Z h' x ST "coder" "B" (.int 0) ∧
  (∃ V : Cell, RoadKit.Arr Z h' h.size V .byte ∧ V.vm = .none ∧ Z.vm.findClass "[B" = some V.cls ∧ V.slots.size = A.slots.size ∧ ∀ j, j < A.slots.size → V.slots[j]? = some (.int (lo8 (cv A j)))) ∧
  ∀ (O n d : String) (w : Value), RoadKit.Fld Z h x O n d w → RoadKit.slotOf Z O n d ≠ RoadKit.slotOf Z ST "value" "[B" → RoadKit.slotOf Z O n d ≠ RoadKit.slotOf Z ST "coder" "B" → RoadKit.Fld Z h' x O n d w
/-- **new String(chars) AT A CALL, IN THE ROAD'S FORM**: for specialBack behind newO: x the fresh String, b the char[] with the cell A -/
theorem back {p : Program} {l : Launch} {e : Env} {R : Room} {s : State} {args : Array Value} {below : List Frame} {len W : Nat} {Z : State} {a0 : Array Value} {h : Heap} (hZ : Z.Warmed39 s.vm) (hw : ∀ d ∈ words, d.before a0 Z = true) {kI : Nat} (wi : (Jvm.Cond.instantiable ST kI).before a0 Z = true)
    {x b : Addr} {A : Cell} {z : Int32} {v0 c0 : Value} (E : RoadKit.Exa Z h x ST) (V : RoadKit.Fld Z h x ST "value" "[B" v0) (C : RoadKit.Fld Z h x ST "coder" "B" c0) (K : RoadKit.Arr Z h b A .char) (hty : Typed .char A) (S : RoadKit.Sta Z h ST "COMPACT_STRINGS" "Z" (.int z)) (hz : ¬ z = 0)
    (l0 : 0 < A.slots.size) (l2 : A.slots.size ≤ 536870912) (hp : ∀ i, i < A.slots.size → ¬ 255 < cv A i) (hfr : 4 ≤ R.frames) (hlo : W + 65 ≤ R.locals) :
    Back l R p e below s args New1.yN len W (fun P a => a = #[.ref x, .ref b] ∧ P.U.heap = h ∧ P.cells + 1 ≤ R.cells ∧ P.slots + A.slots.size ≤ R.slots)
      (fun P _ v B => ∃ L, Q Z x A h v B.U.heap L ∧ B.locs = P.locs ++ L ∧ B.cells = P.cells + 1 ∧ B.slots = P.slots + A.slots.size) := by
  intro m meth c P g ig mk a X hg hsize hdg hW hn hp'
  obtain ⟨rfl, rfl, r1, r2⟩ := hp'
  have al : Z.vm.Alike P.U.vm := hZ.alike.trans X.warmed.alike
  obtain ⟨D, cfV, kV, iV, fV, hD, gV, stV, knV, obV, asV, slV⟩ := id V
  obtain ⟨D', cfC, kC, iC, fC, hD', gC, stC, -, -, asC, slC⟩ := id C
  cases hD.symm.trans hD'
  obtain ⟨D2, kD, e1, e2, e3, e4, e5⟩ := id E
  cases hD.symm.trans e1
  obtain ⟨c2, k2, i1, i2, i3, -⟩ := Cond.instantiable_spec wi
  cases e2.symm.trans i1
  cases e3.symm.trans i2
  obtain ⟨kU, u1, u2⟩ := al.2.2 _ _ e3
  have hB : Blank ST x D P.U := ⟨hD, ⟨knV, fun q hq => by rw [hq] at obV; cases obV⟩, by rw [al.findClass]; exact e2, kU, u1, by rw [u2]; exact i3, by rw [u2]; exact e5 i3⟩
  have F1 : Found ST "value" "[B" fV P.U := ⟨SBG.found_only al ⟨cfV, kV, iV, gV⟩, stV⟩
  have F2 : Found ST "coder" "B" fC P.U := ⟨SBG.found_only al ⟨cfC, kC, iC, gC⟩, stC⟩
  have hA : Ch b A P.U := ⟨⟨K.1, State.isArrayOf_alike al K.2.1, K.2.2, by omega⟩, hty⟩
  have hS : StaticIs P.U ST "COMPACT_STRINGS" "Z" (.int z) := by
    obtain ⟨cfS, iS, kS, fS, st, cS, t1, t2, t3, t4, t5, t6, t7⟩ := S
    exact StaticIs.there (s := { Z with heap := P.U.heap }) ⟨cfS, iS, kS, fS, st, cS, t1, t2, t3, t4, t5, (fun q => by rw [q] at t6; cases t6), t7⟩ al rfl
  obtain ⟨v, B, X', ⟨⟨hv, E', V', q1, q2, q3, q4, q5, q6, q7, q8, q9, q10, q11⟩, hl, hc, hs⟩, st⟩ := New1.pays x D fV fC b A z (tab_of (moved hZ hw)) hfr hlo m meth c P g ig mk _ X hg hsize hdg hW hn ⟨r1, r2, rfl, hB, F1, F2, hA, hS, hz, l0, l2, hp⟩
  have al' : Z.vm.Alike B.U.vm := hZ.alike.trans X'.warmed.alike
  have hsz : E'.slots.size = D.slots.size := by
    obtain ⟨-, -, -, kB, w1, w2, w3⟩ := q1
    obtain ⟨kB', y1, y2⟩ := al'.2.2 _ _ e3
    rw [q2.2.1] at w1
    cases w1.symm.trans y1
    rw [w3, e5 i3, y2]
  refine ⟨v, B, X', ⟨_, ⟨hv, ?_, ⟨by omega, fun y cy hy hn' => q10 y cy (by simpa using hn') hy, fun y cy hy => ?_⟩, q11, ⟨E', _, q1.1, by rw [q2.2.1]; exact e2, by rw [q2.2.1]; exact e3, by rw [q2.1]; exact obV, fun _ => by rw [hsz]; exact e5 i3⟩,
    ⟨E', cfV, kV, iV, fV, q1.1, gV, stV, by rw [q2.1]; exact knV, by rw [q2.1]; exact obV, by rw [q2.2.1]; exact asV, q3⟩, ⟨E', cfC, kC, iC, fC, q1.1, gC, stC, by rw [q2.1]; exact knV, by rw [q2.1]; exact obV, by rw [q2.2.1]; exact asC, q4⟩,
    ⟨V', ⟨q5.1, State.isArrayOf_alike al'.symm q5.2.1, q5.2.2.1⟩, q6, by rw [← al'.findClass]; exact q7, q8, fun j hj => by have := q9 j hj; rwa [Nat.zero_add] at this⟩, fun O n d w F n1 n2 => ?_⟩, hl, hc, hs⟩, st⟩
  · intro y hy
    simp only [List.mem_cons, List.not_mem_nil, or_false] at hy
    rcases hy with rfl | rfl <;> rfl
  · by_cases q : y = x
    · subst q
      cases hD.symm.trans hy
      exact ⟨E', q1.1, q2.2.1, q2.1, hsz⟩
    · exact ⟨cy, q10 y cy q hy, rfl, rfl, rfl⟩
  · obtain ⟨D3, cf, k, i, f, g1, g2, g3, g4, g5, g6, g7⟩ := F
    cases hD.symm.trans g1
    simp only [RoadKit.slotOf, g2, gV, gC, Option.map_some, Option.getD_some] at n1 n2
    exact ⟨E', cf, k, i, f, q1.1, g2, g3, by rw [q2.1]; exact g4, by rw [q2.1]; exact g5, by rw [q2.2.1]; exact g6, by rw [q2.2.2 f.slot (by simp [n1, n2])]; exact g7⟩
end StrChars.Road
namespace StrChars.Road
open Jvm Sem ClassFile Op Lib Jvm.Stand Jvm.Free Jvm.Free.XT
/-- WHAT COMES BACK, the byte[] as a list of values -/
def QA (Z : State) (x : Addr) (zn : Int32) (cs : List Int32) (h : Heap) (v : Option Value) (h' : Heap) (L : List Loc) : Prop := v = none ∧ (∀ y ∈ L, y.base = x) ∧ RoadKit.Keep h h' [x] ∧ h'.size = h.size + 1 ∧ RoadKit.Exa Z h' x ST ∧ RoadKit.Fld Z h' x ST "value" "[B" (.ref h.size) ∧ RoadKit.Fld Z h' x ST "coder" "B" (.int 0) ∧
  (∃ kb, Z.vm.findClass "[B" = some kb ∧ RoadKit.Arv Z h' h.size kb .byte zn (cs.map fun c => .int (lo8 c)) (.int 0)) ∧
  ∀ (O n d : String) (w : Value), RoadKit.Fld Z h x O n d w → RoadKit.slotOf Z O n d ≠ RoadKit.slotOf Z ST "value" "[B" → RoadKit.slotOf Z O n d ≠ RoadKit.slotOf Z ST "coder" "B" → RoadKit.Fld Z h' x O n d w
/-- **new String(chars) AT A CALL, THE ARRAYS AS LISTS**: the char[] at b holds cs, not empty, no char above 255 -/
theorem backArv {p : Program} {l : Launch} {e : Env} {R : Room} {s : State} {args : Array Value} {below : List Frame} {len W : Nat} {Z : State} {a0 : Array Value} {h : Heap} (hZ : Z.Warmed39 s.vm) (hw : ∀ d ∈ words, d.before a0 Z = true) {kI : Nat} (wi : (Jvm.Cond.instantiable ST kI).before a0 Z = true)
    {x b : Addr} {k : ClassId} {zn z : Int32} {cs : List Int32} {dv v0 c0 : Value} (E : RoadKit.Exa Z h x ST) (V : RoadKit.Fld Z h x ST "value" "[B" v0) (C : RoadKit.Fld Z h x ST "coder" "B" c0) (K : RoadKit.Arv Z h b k .char zn (cs.map Value.int) dv) (S : RoadKit.Sta Z h ST "COMPACT_STRINGS" "Z" (.int z)) (hz : ¬ z = 0)
    (hlen : zn.toNatClampNeg = cs.length) (h0 : 0 < cs.length) (hbig : cs.length ≤ 536870912) (hall : ∀ c ∈ cs, ¬ 255 < c) (hfr : 4 ≤ R.frames) (hlo : W + 65 ≤ R.locals) :
    Back l R p e below s args New1.yN len W (fun P a => a = #[.ref x, .ref b] ∧ P.U.heap = h ∧ P.cells + 1 ≤ R.cells ∧ P.slots + cs.length ≤ R.slots)
      (fun P _ v B => ∃ L, QA Z x zn cs h v B.U.heap L ∧ B.locs = P.locs ++ L ∧ B.cells = P.cells + 1 ∧ B.slots = P.slots + cs.length) := by
  obtain ⟨A, K1, K2, K3, K4, K5, K6⟩ := K
  have e : A.slots.size = cs.length := K3.trans hlen
  have hat : ∀ (i : Nat) (hi : i < cs.length), A.slots[i]? = some (.int cs[i]) := fun i hi => by rw [K5 i (by omega)]; simp [List.getD_eq_getElem?_getD, hi]
  have hcv : ∀ (i : Nat) (hi : i < cs.length), cv A i = cs[i] := fun i hi => by unfold cv; rw [hat i hi]
  have hty : Typed .char A := fun i v hv => by
    have hi : i < A.slots.size := (Array.getElem?_eq_some_iff.mp hv).1
    have q := K5 i hi
    rw [hv] at q
    rw [Option.some.inj q]
    exact K6 i hi
  refine Back.mono (back hZ hw wi E V C K1 hty S hz (by omega) (by omega) (fun i hi => by rw [hcv i (by omega)]; exact hall _ (List.getElem_mem _)) hfr hlo) (fun P a hp => ⟨hp.1, hp.2.1, hp.2.2.1, by rw [e]; exact hp.2.2.2⟩) (fun P a v B hp hq => ?_)
  obtain ⟨L, ⟨q1, q2, q3, q4, q5, q6, q7, ⟨V', v1, v2, v3, v4, v5⟩, q9⟩, hl, hc, hs⟩ := hq
  refine ⟨L, ⟨q1, q2, q3, q4, q5, q6, q7, ⟨V'.cls, v3, V', v1, rfl, by rw [v4, e, hlen], K4, fun i hi => ?_, fun i hi => ?_⟩, q9⟩, hl, hc, by rw [hs, e]⟩
  · have hi' : i < cs.length := by omega
    rw [v5 i (by omega), hcv i hi']; simp [List.getD_eq_getElem?_getD, hi']
  · have hi' : i < cs.length := by omega
    simp only [List.getD_eq_getElem?_getD, List.getElem?_map, List.getElem?_eq_getElem hi', Option.map_some, Option.getD_some]
    exact fits_lo8 _
end StrChars.Road
namespace StrChars.Road
open Jvm Sem ClassFile Op Lib Jvm.Stand Jvm.Free Jvm.Free.XT
/-- WHAT COMES BACK, in the writer's own shape -/
def QV (Z : State) (x : Addr) (N : Int32) (bs : List Int32) (h : Heap) (n0 : Nat) (v : Option Value) (h' : Heap) (L : List Loc) : Prop := v = none ∧ RoadKit.Fr n0 L ∧ RoadKit.Keep h h' [x] ∧ RoadKit.Exa Z h' x ST ∧ RoadKit.Fld Z h' x ST "coder" "B" (.int 0) ∧
  ∃ (t : Addr) (kb : ClassId), n0 ≤ t ∧ h.size ≤ t ∧ ¬ t = x ∧ RoadKit.Fld Z h' x ST "value" "[B" (.ref t) ∧ RoadKit.Arv Z h' t kb .byte N (bs.map Value.int) (.int 0)
/-- **new String(chars) AT A CALL, FOR THE WRITER**: a char[] of n known ints, each 0 to 255 -/
theorem backV {p : Program} {l : Launch} {e : Env} {R : Room} {s : State} {args : Array Value} {below : List Frame} {len W : Nat} {Z : State} {a0 : Array Value} {h : Heap} (hZ : Z.Warmed39 s.vm) (hw : ∀ d ∈ words, d.before a0 Z = true) {kI : Nat} (wi : (Jvm.Cond.instantiable ST kI).before a0 Z = true)
    {x b : Addr} {kC : ClassId} {cs bs : List Int32} {d v0 c0 : Value} {z N : Int32} {n n0 : Nat} (hx0 : n0 ≤ x) (hh0 : n0 ≤ h.size) (E : RoadKit.Exa Z h x ST) (V : RoadKit.Fld Z h x ST "value" "[B" v0) (C : RoadKit.Fld Z h x ST "coder" "B" c0) (K : RoadKit.Arv Z h b kC .char N (cs.map Value.int) d) (S : RoadKit.Sta Z h ST "COMPACT_STRINGS" "Z" (.int z)) (hz : ¬ z = 0)
    (hn : cs.length = n) (hN : N = Int32.ofNat n) (l0 : 0 < n) (l2 : n ≤ 4000) (hp : ∀ c ∈ cs, ¬ c < 0 ∧ ¬ (255 : Int32) < c) (hb : bs = cs.map (fun c => c.toInt8.toInt32)) (hfr : 4 ≤ R.frames) (hlo : W + 65 ≤ R.locals) :
    Back l R p e below s args (⟨"java/lang/String", "<init>", "([C)V"⟩ : MethodName) len W (fun P a => a = #[.ref x, .ref b] ∧ P.U.heap = h ∧ P.cells + 1 ≤ R.cells ∧ P.slots + n ≤ R.slots)
      (fun P _ v B => ∃ L, QV Z x N bs h n0 v B.U.heap L ∧ B.locs = P.locs ++ L ∧ B.cells = P.cells + 1 ∧ B.slots = P.slots + n) := by
  subst hn hN hb
  refine Back.mono (backArv hZ hw wi E V C K S hz (n32 (by omega)) l0 (by omega) (fun c hc => (hp c hc).2) hfr hlo) (fun P a hp => hp) (fun P a v B hp hq => ?_)
  obtain ⟨L, ⟨q1, q2, q3, q4, q5, q6, q7, ⟨kb, v1, v2⟩, q9⟩, hl, hc, hs⟩ := hq
  exact ⟨L, ⟨q1, fun y hy => by rw [q2 y hy]; exact hx0, q3, q5, q7, h.size, kb, hh0, Nat.le_refl _, Nat.ne_of_gt E.lt, q6, by rw [List.map_map]; exact v2⟩, hl, hc, hs⟩
end StrChars.Road
namespace StrChars
open Jvm Sem ClassFile Op Lib Jvm.Stand Jvm.Free.XT Jvm.Free.ALB Jvm.Free.JM Jvm.Free
open Jvm.Lib.Cold (StaticIs)
def hi8 (x : Int32) : Int32 := lo8 (x >>> ((8 : Int32) &&& 31))
/-- what StringUTF16.getChar makes of two bytes -/
def pairCh (u v : Int32) : Int32 := (((u &&& 255) <<< ((0 : Int32) &&& 31)) ||| ((v &&& 255) <<< ((8 : Int32) &&& 31))).toUInt32.toUInt16.toUInt32.toInt32
theorem shr0 (c : Int32) : c >>> ((0 : Int32) &&& 31) = c := by
  have e : ((0 : Int32) &&& 31) = 0 := by decide
  rw [e]
  apply Int32.toBitVec_inj.mp
  rw [Int32.toBitVec_shiftRight]
  have e1 : ((0 : Int32).toBitVec.smod 32) = 0#32 := by decide
  rw [e1, BitVec.sshiftRight_eq']
  exact BitVec.sshiftRight_zero
theorem lo8_and (x : Int32) : (lo8 x &&& 255).toBitVec.toNat = x.toBitVec.toNat % 256 := by
  have h : (lo8 x).toBitVec = (x.toBitVec.signExtend 8).signExtend 32 := by rw [lo8, Int8.toBitVec_toInt32, Int32.toBitVec_toInt8]
  rw [Int32.toBitVec_and, BitVec.toNat_and, h]
  have e : ((x.toBitVec.signExtend 8).signExtend 32).toNat % 256 = x.toBitVec.toNat % 256 := by
    rw [BitVec.toNat_signExtend]
    have hlt := x.toBitVec.isLt
    simp only [BitVec.toNat_setWidth, BitVec.toNat_signExtend]
    split <;> split <;> omega
  rw [← e]
  exact Nat.and_two_pow_sub_one_eq_mod _ 8
theorem pair_says {c : Int32} (h0 : ¬ c < 0) (h1 : ¬ 65535 < c) : pairCh (lo8 c) (hi8 c) = c := by
  rw [Int32.lt_iff_toInt_lt] at h0 h1
  have e0 : (0 : Int32).toInt = 0 := rfl
  have e1 : (65535 : Int32).toInt = 65535 := rfl
  have hc : c.toInt = c.toBitVec.toNat := by
    have := c.toBitVec.isLt
    have e : c.toInt = c.toBitVec.toInt := rfl
    rw [e] at h0 h1
    rw [e]
    rw [BitVec.toInt_eq_toNat_cond] at h0 h1 ⊢
    split at h0 <;> split <;> omega
  have hn : c.toBitVec.toNat < 65536 := by omega
  have a1 := lo8_and c
  have a2 : (hi8 c &&& 255).toBitVec.toNat = c.toBitVec.toNat / 256 := by
    rw [hi8, lo8_and]
    have e : ((8 : Int32) &&& 31) = 8 := by decide
    rw [e, Int32.toBitVec_shiftRight]
    have e2 : ((8 : Int32).toBitVec.smod 32) = 8#32 := by decide
    rw [e2, BitVec.sshiftRight_eq', BitVec.toNat_sshiftRight_of_msb_false (by rw [BitVec.msb_eq_false_iff_two_mul_lt]; omega)]
    show c.toBitVec.toNat >>> 8 % 256 = _
    rw [Nat.shiftRight_eq_div_pow]
    omega
  unfold pairCh
  apply Int32.toBitVec_inj.mp
  apply BitVec.eq_of_toNat_eq
  have f0 : ((0 : Int32) &&& 31) = 0 := by decide
  have f8 : ((8 : Int32) &&& 31) = 8 := by decide
  rw [f0, f8]
  have g : (((lo8 c &&& 255) <<< (0 : Int32)) ||| ((hi8 c &&& 255) <<< (8 : Int32))).toBitVec.toNat = c.toBitVec.toNat := by
    rw [Int32.toBitVec_or, Int32.toBitVec_shiftLeft, Int32.toBitVec_shiftLeft]
    have s0 : ((0 : Int32).toBitVec.smod 32) = 0#32 := by decide
    have s8 : ((8 : Int32).toBitVec.smod 32) = 8#32 := by decide
    rw [s0, s8, BitVec.toNat_or]
    simp only [BitVec.shiftLeft_eq', BitVec.toNat_shiftLeft, a1, a2]
    show (c.toBitVec.toNat % 256) <<< 0 % 2 ^ 32 ||| (c.toBitVec.toNat / 256) <<< 8 % 2 ^ 32 = _
    rw [Nat.shiftLeft_zero, Nat.mod_eq_of_lt (show c.toBitVec.toNat % 256 < 2 ^ 32 by omega), Nat.mod_eq_of_lt (show (c.toBitVec.toNat / 256) <<< 8 < 2 ^ 32 by rw [Nat.shiftLeft_eq]; omega), Nat.or_comm, ← Nat.shiftLeft_add_eq_or_of_lt (by omega), Nat.shiftLeft_eq]
    omega
  show BitVec.toNat (((((lo8 c &&& 255) <<< (0 : Int32)) ||| ((hi8 c &&& 255) <<< (8 : Int32))).toBitVec.setWidth 16).setWidth 32) = _
  rw [BitVec.toNat_setWidth, BitVec.toNat_setWidth, g]
  omega
end StrChars
namespace StrChars
open Jvm Sem ClassFile Op Lib Jvm.Stand Jvm.Free.XT Jvm.Free.ALB Jvm.Free.JM Jvm.Free
open Jvm.Lib.Cold (StaticIs)
theorem shr1 {n : Nat} (h : 2 * n < 2 ^ 31) : Int32.ofNat (2 * n) >>> ((1 : Int32) &&& 31) = Int32.ofNat n := by
  have e : ((1 : Int32) &&& 31) = 1 := by decide
  rw [e]
  apply Int32.toBitVec_inj.mp
  rw [Int32.toBitVec_shiftRight]
  have e1 : ((1 : Int32).toBitVec.smod 32) = 1#32 := by decide
  have hm : (BitVec.ofNat 32 (2 * n)).toNat = 2 * n := by rw [BitVec.toNat_ofNat, Nat.mod_eq_of_lt (by omega)]
  rw [e1, BitVec.sshiftRight_eq']
  apply BitVec.eq_of_toNat_eq
  show ((BitVec.ofNat 32 (2 * n)).sshiftRight 1).toNat = (BitVec.ofNat 32 n).toNat
  rw [BitVec.toNat_sshiftRight_of_msb_false (by rw [BitVec.msb_eq_false_iff_two_mul_lt, hm]; omega), hm, BitVec.toNat_ofNat, Nat.shiftRight_eq_div_pow]
  omega
/-- charAt's cast of a byte read back -/
def chr8 (u : Int32) : Int32 := (u &&& 255).toUInt32.toUInt16.toUInt32.toInt32
theorem chr8_lo8 {c : Int32} (h0 : ¬ c < 0) (h1 : ¬ 255 < c) : chr8 (lo8 c) = c := by
  have t : ∀ k : Fin 256, (Int32.ofNat k.val).toUInt32.toUInt16.toUInt32.toInt32 = Int32.ofNat k.val := by decide +kernel
  unfold chr8
  rw [lo8_mask h0 h1]
  rw [Int32.lt_iff_toInt_lt] at h0 h1
  have e0 : (0 : Int32).toInt = 0 := rfl
  have e1 : (255 : Int32).toInt = 255 := rfl
  obtain ⟨k, hk⟩ : ∃ k : Nat, c.toInt = k := ⟨c.toInt.toNat, by omega⟩
  have hx : c = Int32.ofNat k := Int32.toInt_inj.mp (by rw [hk, Int32.toInt_ofNat_small (by omega)])
  rw [hx]
  exact t ⟨k, by omega⟩
theorem narrow_ch {c : Int32} (h0 : ¬ c < 0) (h1 : ¬ 65535 < c) : narrow .char (.int c) = .int c := by
  have q : narrow .char (.int (pairCh (lo8 c) (hi8 c))) = .int (pairCh (lo8 c) (hi8 c)) := narrow_c _
  rwa [pair_says h0 h1] at q
/-- the array's cell V codes the n chars f 0 .. f (n - 1) by the coder cd, as the JDK does: coder 1 just where some char is above 255 -/
def Cod (cd : Int32) (n : Nat) (f : Nat → Int32) (V : Cell) : Prop := (cd = 0 ∧ V.slots.size = n ∧ ∀ j, j < n → V.slots[j]? = some (.int (lo8 (f j))) ∧ ¬ 255 < f j) ∨ (cd = 1 ∧ V.slots.size = 2 * n ∧ (∀ j, j < n → V.slots[2 * j]? = some (.int (lo8 (f j))) ∧ V.slots[2 * j + 1]? = some (.int (hi8 (f j)))) ∧ ∃ j, j < n ∧ 255 < f j)
theorem Cod.cd {cd : Int32} {n : Nat} {f : Nat → Int32} {V : Cell} (h : Cod cd n f V) : cd = 0 ∨ cd = 1 := h.imp (fun q => q.1) fun q => q.1
theorem Cod.len {cd : Int32} {n : Nat} {f : Nat → Int32} {V : Cell} (h : Cod cd n f V) (hs : V.slots.size < 2 ^ 31) : Int32.ofNat V.slots.size >>> (cd &&& 31) = Int32.ofNat n := by
  rcases h with ⟨rfl, h, -⟩ | ⟨rfl, h, -⟩
  · rw [shr0, h]
  · rw [h, shr1 (by omega)]
/-- **x is a String of the n chars f 0 .. f (n - 1)**, Latin-1 or UTF-16; its array at t has the cell V -/
def Txt (x t : Addr) (V : Cell) (cd : Int32) (n : Nat) (f : Nat → Int32) (U : State) : Prop := Exact "java/lang/String" x U ∧ Has x "java/lang/String" "value" "[B" (.ref t) U ∧ Has x "java/lang/String" "coder" "B" (.int cd) U ∧ XT.Arr .byte t V U ∧ Cod cd n f V ∧ ∀ j, j < n → ¬ f j < 0 ∧ ¬ 65535 < f j
theorem Txt.mv {x t : Addr} {V : Cell} {cd : Int32} {n : Nat} {f : Nat → Int32} {U U' : State} (h : Txt x t V cd n f U) (hal : U.vm.Alike U'.vm) (hh : U'.heap = U.heap) : Txt x t V cd n f U' := ⟨h.1.mv hal hh, h.2.1.mv hal hh, h.2.2.1.mv hal hh, h.2.2.2.1.mv hal hh, h.2.2.2.2⟩
namespace Cdr
def yN : MethodName := ⟨"java/lang/String", "coder", "()B"⟩
abbrev yB : ByteArray := jdk_42_method_152_code
theorem d0 : decode yB 0 = .ok (.getstatic 38, 3) := by decide +kernel
theorem d3 : decode yB 3 = .ok (.ifCond (.eq) 10, 3) := by decide +kernel
theorem d6 : decode yB 6 = .ok (.aload_n 0, 1) := by decide +kernel
theorem d7 : decode yB 7 = .ok (.getfield 15, 3) := by decide +kernel
theorem d10 : decode yB 10 = .ok (.goto 4, 3) := by decide +kernel
theorem d14 : decode yB 14 = .ok (.ireturn, 1) := by decide +kernel
def site : List Cond := [.fieldLink "java/lang/String" 38 "java/lang/String" "COMPACT_STRINGS" "Z", .fieldLink "java/lang/String" 15 "java/lang/String" "coder" "B"]
def tab : Cond := tabOf yN yB 1 (some .byte) site
def P (x : Addr) (cd z : Int32) (args : Array Value) (s : State) : Prop := args = #[.ref x] ∧ Has x "java/lang/String" "coder" "B" (.int cd) s ∧ (cd = 0 ∨ cd = 1) ∧ StaticIs s "java/lang/String" "COMPACT_STRINGS" "Z" (.int z) ∧ ¬ z = 0
def E (cd : Int32) (r : Option Value) (s u : State) : Prop := XT.PureE (some (.int cd)) r s u
theorem law (l : Launch) (x : Addr) (cd z : Int32) : Law l yN 1 0 0 0 yB 1 (some .byte) site (P x cd z) (E cd) [] 0 0 := by
  refine Law.of_walk (plainFor_of_name (by decide +kernel)) (by decide +kernel) (by decide +kernel) (by decide) (fun _ _ h => by rw [h.1]; rfl) (fun _ U U' hal hh h => ⟨h.1, h.2.1.mv hal hh, h.2.2.1, h.2.2.2.1.there hal hh, h.2.2.2.2⟩) (fun r U U' V V' h1 hal h2 h => XT.PureE.mv r U U' V V' h1 hal h2 h) ?_
  intro p e s m args below meth c s₁ X0 hexec hbytes hml hret hlk hnm hown hh0 W hP
  obtain ⟨rfl, hx, hc, s1, hz⟩ := hP
  have c1 : Steps p.tables e below (s₁.setTop (entryFrame m #[.ref x] 1)) (s₁.setTop (mkF m 0 #[.val (.ref x)] [])) := entry rfl
  obtain ⟨T2, X2, q2, st2⟩ := X0.sget hexec hown (wk W (.fieldLink "java/lang/String" 38 "java/lang/String" "COMPACT_STRINGS" "Z")) s1 (fun _ _ h => by rw [hh0]; exact h) (g := (mkF m 0 #[.val (.ref x)] [])) rfl (hb hbytes d0)
  have hh2 := q2.trans hh0
  have c3 : Steps p.tables e below (s₁.setTop (entryFrame m #[.ref x] 1)) (T2.setTop (mkF m 7 #[.val (.ref x)] [.ref x])) := (c1.trans (st2 _ (Steps.refl _))).trans (by
    refine XS.ifNo X2.here hexec rfl (hb hbytes d3) rfl (i0_eq_f hz) ?_
    refine XS.aloadN X2.here hexec rfl (hb hbytes d6) rfl rfl ?_
    exact Steps.refl _)
  obtain ⟨T4, X4, q4, st4⟩ := X2.hget hexec hown (wk W (.fieldLink "java/lang/String" 15 "java/lang/String" "coder" "B")) (hx.mv X2.warmed.alike hh2) (g := (mkF m 7 #[.val (.ref x)] [.ref x])) rfl (rest := []) rfl (hb hbytes d7)
  have c5 : Steps p.tables e below (s₁.setTop (entryFrame m #[.ref x] 1)) (T4.setTop (mkF m 14 #[.val (.ref x)] [.int cd])) := (c3.trans (st4 _ (Steps.refl _))).trans (by
    refine XS.goto X4.here hexec rfl (pc0 := 10) rfl (hb hbytes d10) (by decide) rfl ?_
    exact Steps.refl _)
  exact ⟨T4, some (.int cd), _, _, _, X4, rfl, rfl, rfl, (fun h => by cases h), ⟨rfl, q4.trans hh2⟩, fun fs hl => c5.trans (X4.ireturnOut hexec hret (by rcases hc with rfl | rfl <;> rfl) (Or.inr (Or.inr (Or.inl rfl))) (hb hbytes d14) hl)⟩
end Cdr
namespace Len
def yN : MethodName := ⟨"java/lang/String", "length", "()I"⟩
abbrev yB : ByteArray := jdk_42_method_54_code
theorem d0 : decode yB 0 = .ok (.aload_n 0, 1) := by decide +kernel
theorem d1 : decode yB 1 = .ok (.getfield 9, 3) := by decide +kernel
theorem d4 : decode yB 4 = .ok (.arraylength, 1) := by decide +kernel
theorem d5 : decode yB 5 = .ok (.aload_n 0, 1) := by decide +kernel
theorem d6 : decode yB 6 = .ok (.invokevirtual 335, 3) := by decide +kernel
theorem d9 : decode yB 9 = .ok (.ishr, 1) := by decide +kernel
theorem d10 : decode yB 10 = .ok (.ireturn, 1) := by decide +kernel
def site : List Cond := [.fieldLink "java/lang/String" 9 "java/lang/String" "value" "[B", Cdr.tab] ++ virtW "java/lang/String" 335 "java/lang/String" Cdr.yN Cdr.yN
def tab : Cond := tabOf yN yB 1 (some .int) site
def P (x t : Addr) (V : Cell) (cd : Int32) (n : Nat) (f : Nat → Int32) (z : Int32) (args : Array Value) (s : State) : Prop := args = #[.ref x] ∧ Txt x t V cd n f s ∧ StaticIs s "java/lang/String" "COMPACT_STRINGS" "Z" (.int z) ∧ ¬ z = 0
def E (n : Nat) (r : Option Value) (s u : State) : Prop := XT.PureE (some (.int (Int32.ofNat n))) r s u
/-- length() of a String of n chars, in either coding -/
theorem law (l : Launch) (x t : Addr) (V : Cell) (cd : Int32) (n : Nat) (f : Nat → Int32) (z : Int32) : Law l yN 1 0 1 13 yB 1 (some .int) site (P x t V cd n f z) (E n) [] 0 0 := by
  refine Law.of_walk (plainFor_of_name (by decide +kernel)) (by decide +kernel) (by decide +kernel) (by decide) (fun _ _ h => by rw [h.1]; rfl) (fun _ U U' hal hh h => ⟨h.1, h.2.1.mv hal hh, h.2.2.1.there hal hh, h.2.2.2⟩) (fun r U U' V V' h1 hal h2 h => XT.PureE.mv r U U' V V' h1 hal h2 h) ?_
  intro p e s m args below meth c s₁ X0 hexec hbytes hml hret hlk hnm hown hh0 W hP
  obtain ⟨rfl, hx, s1, hz⟩ := hP
  have v31 := hx.2.2.2.1.2.2.2
  have c1 : Steps p.tables e below (s₁.setTop (entryFrame m #[.ref x] 1)) (s₁.setTop (mkF m 1 #[.val (.ref x)] [.ref x])) := Steps.trans (entry rfl) (by
    show Steps p.tables e below (s₁.setTop (mkF m 0 #[.val (.ref x)] [])) _
    refine XS.aloadN X0.here hexec rfl (hb hbytes d0) rfl rfl ?_
    exact Steps.refl _)
  obtain ⟨T2, X2, q2, st2⟩ := X0.hget hexec hown (wk W (.fieldLink "java/lang/String" 9 "java/lang/String" "value" "[B")) (hx.mv X0.warmed.alike hh0).2.1 (g := (mkF m 1 #[.val (.ref x)] [.ref x])) rfl (rest := []) rfl (hb hbytes d1)
  have hh2 := q2.trans hh0
  have hx2 := hx.mv X2.warmed.alike hh2
  have c3 : Steps p.tables e below (s₁.setTop (entryFrame m #[.ref x] 1)) (T2.setTop (mkF m 6 #[.val (.ref x)] [.ref x, .int (Int32.ofNat V.slots.size)])) := (c1.trans (st2 _ (Steps.refl _))).trans (by
    refine X2.alen hexec hx2.2.2.2.1 rfl rfl (hb hbytes d4) ?_
    refine XS.aloadN X2.here hexec rfl (hb hbytes d5) rfl rfl ?_
    exact Steps.refl _)
  obtain ⟨v4, T4, X4, E4, g4⟩ := X2.callV hexec (Cdr.law l x cd z) hown (wks W (virtW "java/lang/String" 335 "java/lang/String" Cdr.yN Cdr.yN)) rfl (by decide) (wk W Cdr.tab) (W := 1) (Nat.le_of_ble_eq_true rfl) (Nat.le_of_ble_eq_true rfl) (Nat.le_refl _) (Nat.le_refl _) (hx2.1.fc X2.warmed.alike) hx2.1.is (g := (mkF m 6 #[.val (.ref x)] [.ref x, .int (Int32.ofNat V.slots.size)])) rfl (by rw [hml]; rfl) c3 (argsL := []) (rest := [.int (Int32.ofNat V.slots.size)]) rfl rfl (by show 2 * 0 + (1 + 0) ≤ _; decide) (hb hbytes d6) (⟨rfl, hx2.2.2.1, hx.2.2.2.2.1.cd, s1.there X2.warmed.alike hh2, hz⟩)
  obtain ⟨rfl, q4⟩ := E4
  have c5 : Steps p.tables e below (s₁.setTop (entryFrame m #[.ref x] 1)) (T4.setTop (mkF m 10 #[.val (.ref x)] [.int (Int32.ofNat V.slots.size >>> (cd &&& 31))])) := Steps.trans g4 (by
    refine ishr X4.here hexec rfl (hb hbytes d9) rfl ?_
    exact Steps.refl _)
  rw [hx.2.2.2.2.1.len v31] at c5
  exact ⟨T4, some (.int (Int32.ofNat n)), _, _, _, X4, rfl, rfl, rfl, (fun h => by cases h), ⟨rfl, q4.trans hh2⟩, fun fs hl => c5.trans (X4.ireturnOut hexec hret rfl (Or.inl rfl) (hb hbytes d10) hl)⟩
theorem pays {l : Launch} {R : Room} {p : Program} {e : Env} {below : List Frame} {s : State} {sargs : Array Value} {len W : Nat} (x t : Addr) (V : Cell) (cd : Int32) (n : Nat) (f : Nat → Int32) (z : Int32) (htab : tab.before sargs s = true) (hfr : 2 ≤ R.frames) (hlo : W + 25 ≤ R.locals) :
    Back l R p e below s sargs yN len W (fun A₁ a₁ => A₁.cells + 0 ≤ R.cells ∧ A₁.slots + 0 ≤ R.slots ∧ P x t V cd n f z a₁ A₁.U) (fun A₁ _ v₁ B₁ => E n v₁ A₁.U B₁.U ∧ B₁.locs = A₁.locs ++ [] ∧ B₁.cells = A₁.cells + 0 ∧ B₁.slots = A₁.slots + 0) :=
  (law l x t V cd n f z).pays htab hfr (by omega)
end Len
namespace IsL
def yN : MethodName := ⟨"java/lang/String", "isLatin1", "()Z"⟩
abbrev yB : ByteArray := jdk_42_method_154_code
theorem d0 : decode yB 0 = .ok (.getstatic 38, 3) := by decide +kernel
theorem d3 : decode yB 3 = .ok (.ifCond (.eq) 14, 3) := by decide +kernel
theorem d6 : decode yB 6 = .ok (.aload_n 0, 1) := by decide +kernel
theorem d7 : decode yB 7 = .ok (.getfield 15, 3) := by decide +kernel
theorem d10 : decode yB 10 = .ok (.ifCond (.ne) 7, 3) := by decide +kernel
theorem d13 : decode yB 13 = .ok (.iconst 1, 1) := by decide +kernel
theorem d14 : decode yB 14 = .ok (.goto 4, 3) := by decide +kernel
theorem d17 : decode yB 17 = .ok (.iconst 0, 1) := by decide +kernel
theorem d18 : decode yB 18 = .ok (.ireturn, 1) := by decide +kernel
def site : List Cond := [.fieldLink "java/lang/String" 38 "java/lang/String" "COMPACT_STRINGS" "Z", .fieldLink "java/lang/String" 15 "java/lang/String" "coder" "B"]
def tab : Cond := tabOf yN yB 1 (some .boolean) site
def P (x : Addr) (cd z : Int32) (args : Array Value) (s : State) : Prop := args = #[.ref x] ∧ Has x "java/lang/String" "coder" "B" (.int cd) s ∧ (cd = 0 ∨ cd = 1) ∧ StaticIs s "java/lang/String" "COMPACT_STRINGS" "Z" (.int z) ∧ ¬ z = 0
def E (cd : Int32) (r : Option Value) (s u : State) : Prop := XT.PureE (some (.int (1 - cd))) r s u
theorem law (l : Launch) (x : Addr) (cd z : Int32) : Law l yN 1 0 0 0 yB 1 (some .boolean) site (P x cd z) (E cd) [] 0 0 := by
  refine Law.of_walk (plainFor_of_name (by decide +kernel)) (by decide +kernel) (by decide +kernel) (by decide) (fun _ _ h => by rw [h.1]; rfl) (fun _ U U' hal hh h => ⟨h.1, h.2.1.mv hal hh, h.2.2.1, h.2.2.2.1.there hal hh, h.2.2.2.2⟩) (fun r U U' V V' h1 hal h2 h => XT.PureE.mv r U U' V V' h1 hal h2 h) ?_
  intro p e s m args below meth c s₁ X0 hexec hbytes hml hret hlk hnm hown hh0 W hP
  obtain ⟨rfl, hx, hc, s1, hz⟩ := hP
  have c1 : Steps p.tables e below (s₁.setTop (entryFrame m #[.ref x] 1)) (s₁.setTop (mkF m 0 #[.val (.ref x)] [])) := entry rfl
  obtain ⟨T2, X2, q2, st2⟩ := X0.sget hexec hown (wk W (.fieldLink "java/lang/String" 38 "java/lang/String" "COMPACT_STRINGS" "Z")) s1 (fun _ _ h => by rw [hh0]; exact h) (g := (mkF m 0 #[.val (.ref x)] [])) rfl (hb hbytes d0)
  have hh2 := q2.trans hh0
  have c3 : Steps p.tables e below (s₁.setTop (entryFrame m #[.ref x] 1)) (T2.setTop (mkF m 7 #[.val (.ref x)] [.ref x])) := (c1.trans (st2 _ (Steps.refl _))).trans (by
    refine XS.ifNo X2.here hexec rfl (hb hbytes d3) rfl (i0_eq_f hz) ?_
    refine XS.aloadN X2.here hexec rfl (hb hbytes d6) rfl rfl ?_
    exact Steps.refl _)
  obtain ⟨T4, X4, q4, st4⟩ := X2.hget hexec hown (wk W (.fieldLink "java/lang/String" 15 "java/lang/String" "coder" "B")) (hx.mv X2.warmed.alike hh2) (g := (mkF m 7 #[.val (.ref x)] [.ref x])) rfl (rest := []) rfl (hb hbytes d7)
  have c5 : Steps p.tables e below (s₁.setTop (entryFrame m #[.ref x] 1)) (T4.setTop (mkF m 10 #[.val (.ref x)] [.int cd])) := c3.trans (st4 _ (Steps.refl _))
  have c6 : Steps p.tables e below (s₁.setTop (entryFrame m #[.ref x] 1)) (T4.setTop (mkF m 18 #[.val (.ref x)] [.int (1 - cd)])) := by
    rcases hc with rfl | rfl
    · exact c5.trans (by
        refine XS.ifNo X4.here hexec rfl (hb hbytes d10) rfl (i0_ne_f rfl) ?_
        refine iconstV X4.here hexec rfl 1 (hb hbytes d13) (by decide) ?_
        refine XS.goto X4.here hexec rfl (pc0 := 14) rfl (hb hbytes d14) (by decide) rfl ?_
        exact Steps.refl _)
    · exact c5.trans (by
        refine XS.ifYes X4.here hexec rfl (pc0 := 10) rfl (hb hbytes d10) rfl (i0_ne_t (by decide)) (by decide) rfl ?_
        refine iconstV X4.here hexec rfl 0 (hb hbytes d17) (by decide) ?_
        exact Steps.refl _)
  exact ⟨T4, some (.int (1 - cd)), _, _, _, X4, rfl, rfl, rfl, (fun h => by cases h), ⟨rfl, q4.trans hh2⟩, fun fs hl => c6.trans (X4.ireturnOut hexec hret (by rcases hc with rfl | rfl <;> rfl) (Or.inr (Or.inl rfl)) (hb hbytes d18) hl)⟩
end IsL
namespace LChA
def yN : MethodName := ⟨"java/lang/StringLatin1", "charAt", "([BI)C"⟩
abbrev yB : ByteArray := jdk_43_method_2_code
theorem d0 : decode yB 0 = .ok (.iload_n 1, 1) := by decide +kernel
theorem d1 : decode yB 1 = .ok (.aload_n 0, 1) := by decide +kernel
theorem d2 : decode yB 2 = .ok (.arraylength, 1) := by decide +kernel
theorem d3 : decode yB 3 = .ok (.invokestatic 9, 3) := by decide +kernel
theorem d6 : decode yB 6 = .ok (.aload_n 0, 1) := by decide +kernel
theorem d7 : decode yB 7 = .ok (.iload_n 1, 1) := by decide +kernel
theorem d8 : decode yB 8 = .ok (.baload, 1) := by decide +kernel
theorem d9 : decode yB 9 = .ok (.sipush 255, 3) := by decide +kernel
theorem d12 : decode yB 12 = .ok (.iand, 1) := by decide +kernel
theorem d13 : decode yB 13 = .ok (.i2c, 1) := by decide +kernel
theorem d14 : decode yB 14 = .ok (.ireturn, 1) := by decide +kernel
def site : List Cond := [JO.Str_checkIndex.tab] ++ staticW "java/lang/StringLatin1" 9 JO.Str_checkIndex.yN
def tab : Cond := tabOf yN yB 2 (some .char) site
def P (t : Addr) (V : Cell) (i : Nat) (u : Int32) (fm : Value) (args : Array Value) (s : State) : Prop := args = #[.ref t, .int (Int32.ofNat i)] ∧ XT.Arr .byte t V s ∧ V.slots[i]? = some (.int u) ∧ (StaticIs s "jdk/internal/util/Preconditions" "SIOOBE_FORMATTER" "Ljava/util/function/BiFunction;" fm ∧ fm.isRef = true)
def E (u : Int32) (r : Option Value) (s w : State) : Prop := XT.PureE (some (.int (chr8 u))) r s w
theorem law (l : Launch) (t : Addr) (V : Cell) (i : Nat) (u : Int32) (fm : Value) : Law l yN 2 2 2 27 yB 2 (some .char) site (P t V i u fm) (E u) [] 0 0 := by
  refine Law.of_walk (plainFor_of_name (by decide +kernel)) (by decide +kernel) (by decide +kernel) (by decide) (fun _ _ h => by rw [h.1]; rfl) (fun _ U U' hal hh h => ⟨h.1, h.2.1.mv hal hh, h.2.2.1, h.2.2.2.1.there hal hh, h.2.2.2.2⟩) (fun r U U' V V' h1 hal h2 h => XT.PureE.mv r U U' V V' h1 hal h2 h) ?_
  intro p e s m args below meth c s₁ X0 hexec hbytes hml hret hlk hnm hown hh0 W hP
  obtain ⟨rfl, hV, hu, s1, rf⟩ := hP
  have v31 := hV.2.2.2
  have hi : i < V.slots.size := (Array.getElem?_eq_some_iff.mp hu).1
  have c1 : Steps p.tables e below (s₁.setTop (entryFrame m #[.ref t, .int (Int32.ofNat i)] 2)) (s₁.setTop (mkF m 0 #[.val (.ref t), .val (.int (Int32.ofNat i))] [])) := entry rfl
  have c2 : Steps p.tables e below (s₁.setTop (entryFrame m #[.ref t, .int (Int32.ofNat i)] 2)) (s₁.setTop (mkF m 3 #[.val (.ref t), .val (.int (Int32.ofNat i))] [.int (Int32.ofNat V.slots.size), .int (Int32.ofNat i)])) := c1.trans (by
    refine XS.iloadN X0.here hexec rfl (hb hbytes d0) rfl ?_
    refine XS.aloadN X0.here hexec rfl (hb hbytes d1) rfl rfl ?_
    refine X0.alen hexec (hV.mv X0.warmed.alike hh0) rfl rfl (hb hbytes d2) ?_
    exact Steps.refl _)
  obtain ⟨v3, T3, X3, E3, g3⟩ := X0.callS hexec (JO.Str_checkIndex.law l (Int32.ofNat i) (Int32.ofNat V.slots.size) fm) hown (wks W (staticW "java/lang/StringLatin1" 9 JO.Str_checkIndex.yN)) (wk W JO.Str_checkIndex.tab) (W := 0) (Nat.le_of_ble_eq_true rfl) (Nat.le_of_ble_eq_true rfl) (Nat.le_refl _) (Nat.le_refl _) (g := (mkF m 3 #[.val (.ref t), .val (.int (Int32.ofNat i))] [.int (Int32.ofNat V.slots.size), .int (Int32.ofNat i)])) rfl (by rw [hml]; rfl) c2 (argsL := [.int (Int32.ofNat i), .int (Int32.ofNat V.slots.size)]) (rest := []) rfl rfl (by show 2 * 0 + 0 ≤ _; decide) (hb hbytes d3) (⟨rfl, rf, s1.there X0.warmed.alike hh0, Int32.ofNat_not_neg (by omega), lt32 v31 hi⟩)
  obtain ⟨rfl, q3⟩ := E3
  have hh3 := q3.trans hh0
  have c4 : Steps p.tables e below (s₁.setTop (entryFrame m #[.ref t, .int (Int32.ofNat i)] 2)) (T3.setTop (mkF m 14 #[.val (.ref t), .val (.int (Int32.ofNat i))] [.int (chr8 u)])) := Steps.trans g3 (by
    refine XS.aloadN X3.here hexec rfl (hb hbytes d6) rfl rfl ?_
    refine XS.iloadN X3.here hexec rfl (hb hbytes d7) rfl ?_
    refine X3.aget hexec (hV.mv X3.warmed.alike hh3) rfl hu rfl rfl (hb hbytes d8) ?_
    refine sipushV X3.here hexec rfl 255 (hb hbytes d9) (by decide) ?_
    refine XS.iand X3.here hexec rfl (hb hbytes d12) rfl ?_
    refine i2c X3.here hexec rfl (hb hbytes d13) rfl ?_
    exact Steps.refl _)
  exact ⟨T3, some (.int (chr8 u)), _, _, _, X3, rfl, rfl, rfl, (fun h => by cases h), ⟨rfl, hh3⟩, fun fs hl => c4.trans (X3.ireturnOut hexec hret (narrow_c _) (Or.inr (Or.inr (Or.inr (Or.inl rfl)))) (hb hbytes d14) hl)⟩
end LChA
end StrChars
namespace StrChars.Road
open Jvm Sem ClassFile Op Lib Jvm.Stand Jvm.Free Jvm.Free.XT
open Jvm.Lib.Cold (StaticIs)
theorem consq {a : Array Value} {s : State} {c : Jvm.Cond} {L : List Jvm.Cond} (h0 : c.before a s = true) (h : ∀ w ∈ L, w.before a s = true) : ∀ w ∈ c :: L, w.before a s = true := fun w hw => (List.mem_cons.mp hw).elim (fun e => e ▸ h0) (h w)
/-- the words of String.length(), either coding -/
abbrev wordsLen : List Jvm.Cond := [.code Len.yN Len.yB 1 (some .int), .initialized ST, .fieldLink ST 9 ST "value" "[B", .fieldLink ST 38 ST "COMPACT_STRINGS" "Z", .fieldLink ST 15 ST "coder" "B", .code Cdr.yN Cdr.yB 1 (some .byte), .methodLink ST 335 Cdr.yN, .declares Cdr.yN, .selects ST Cdr.yN Cdr.yN, .instanceMethod Cdr.yN]
theorem tabLen_of {a : Array Value} {s : State} (h : ∀ w ∈ wordsLen, w.before a s = true) : Len.tab.before a s = true := by
  have hc : Cdr.tab.before a s = true := unparts (wk h (.code Cdr.yN Cdr.yB 1 (some .byte))) (wks h (.initialized Cdr.yN.cls :: Cdr.site))
  have q := consq hc h
  exact unparts (wk q (.code Len.yN Len.yB 1 (some .int))) (wks q (.initialized Len.yN.cls :: Len.site))
theorem movedLen {Z s : State} {a0 args : Array Value} (hZ : Z.Warmed39 s.vm) (hw : ∀ d ∈ wordsLen, d.before a0 Z = true) : ∀ d ∈ wordsLen, d.before args s = true := fun d hd => by
  have q := hw d hd
  have t : ∀ d ∈ wordsLen, d = .arrayClass .byte ∨ (d.onTables && d.keepsFace) = true := by decide +kernel
  rcases t d hd with rfl | t
  · exact RoadKit.mvA hZ q
  · exact RoadKit.mv hZ q t
/-- the bytes of the chars cs, low before high -/
def wideBytes : List Int32 → List Value
  | [] => []
  | c :: cs => .int (lo8 c) :: .int (hi8 c) :: wideBytes cs
theorem wide_lo (d : Value) : ∀ (cs : List Int32) (j : Nat), j < cs.length → (wideBytes cs).getD (2 * j) d = .int (lo8 (cs.getD j 0))
  | [], j, h => absurd h (Nat.not_lt_zero j)
  | c :: cs, 0, _ => rfl
  | c :: cs, j + 1, h => by
    have q := wide_lo d cs j (by simpa using h)
    rw [show 2 * (j + 1) = 2 * j + 1 + 1 from by omega]
    simpa [wideBytes] using q
theorem wide_hi (d : Value) : ∀ (cs : List Int32) (j : Nat), j < cs.length → (wideBytes cs).getD (2 * j + 1) d = .int (hi8 (cs.getD j 0))
  | [], j, h => absurd h (Nat.not_lt_zero j)
  | c :: cs, 0, _ => rfl
  | c :: cs, j + 1, h => by
    have q := wide_hi d cs j (by simpa using h)
    rw [show 2 * (j + 1) + 1 = 2 * j + 1 + 1 + 1 from by omega]
    simpa [wideBytes] using q
theorem low_at (d : Value) (cs : List Int32) (j : Nat) (h : j < cs.length) : (cs.map fun c => Value.int (lo8 c)).getD j d = .int (lo8 (cs.getD j 0)) := by
  simp [List.getD_eq_getElem?_getD, h]
/-- an array of N2 bytes vs codes the chars cs by the coder cd -/
def CodA (cs : List Int32) (cd N2 : Int32) (vs : List Value) : Prop := (cd = 0 ∧ N2 = Int32.ofNat cs.length ∧ vs = (cs.map fun c => Value.int (lo8 c)) ∧ ∀ c ∈ cs, ¬ 255 < c) ∨ (cd = 1 ∧ N2 = Int32.ofNat (2 * cs.length) ∧ vs = wideBytes cs ∧ ∃ c ∈ cs, 255 < c)
theorem CodA.cod {cs : List Int32} {cd N2 : Int32} {vs : List Value} {V : Cell} (h : CodA cs cd N2 vs) (hn : 2 * cs.length < 2 ^ 31) (hs : V.slots.size = N2.toNatClampNeg) (hv : RoadKit.Has V vs (.int 0)) : Cod cd cs.length (fun j => cs.getD j 0) V := by
  rcases h with ⟨rfl, rfl, rfl, h⟩ | ⟨rfl, rfl, rfl, c, hc, hw⟩
  · rw [n32 (by omega)] at hs
    exact Or.inl ⟨rfl, hs, fun j hj => ⟨by rw [hv j (by omega), low_at _ _ _ hj], by
      have e : cs.getD j 0 = cs[j] := by simp [List.getD_eq_getElem?_getD, hj]
      show ¬ 255 < cs.getD j 0
      rw [e]; exact h _ (List.getElem_mem _)⟩⟩
  · rw [n32 (by omega)] at hs
    obtain ⟨j, hj, rfl⟩ := List.getElem_of_mem hc
    exact Or.inr ⟨rfl, hs, fun j hj => ⟨by rw [hv _ (by omega), wide_lo _ _ _ hj], by rw [hv _ (by omega), wide_hi _ _ _ hj]⟩, j, hj, by
      have e : cs.getD j 0 = cs[j] := by simp [List.getD_eq_getElem?_getD, hj]
      show 255 < cs.getD j 0
      rw [e]; exact hw⟩
/-- an object of exactly java/lang/String, its two fields found: as the laws ask it -/
theorem strObj {Z U : State} {a0 : Array Value} {kI : Nat} (wi : (Jvm.Cond.instantiable ST kI).before a0 Z = true) (al : Z.vm.Alike U.vm) {x : Addr} {v0 c0 : Value} (E : RoadKit.Exa Z U.heap x ST) (V : RoadKit.Fld Z U.heap x ST "value" "[B" v0) (C : RoadKit.Fld Z U.heap x ST "coder" "B" c0) :
    ∃ (D : Cell) (fV fC : Field), Blank ST x D U ∧ Found ST "value" "[B" fV U ∧ Found ST "coder" "B" fC U ∧ D.slots[fV.slot]? = some v0 ∧ D.slots[fC.slot]? = some c0 ∧ RoadKit.slotOf Z ST "value" "[B" = fV.slot ∧ RoadKit.slotOf Z ST "coder" "B" = fC.slot := by
  obtain ⟨D, cfV, kV, iV, fV, hD, gV, stV, knV, obV, asV, slV⟩ := V
  obtain ⟨D', cfC, kC, iC, fC, hD', gC, stC, -, -, asC, slC⟩ := C
  cases hD.symm.trans hD'
  obtain ⟨D2, kD, e1, e2, e3, e4, e5⟩ := E
  cases hD.symm.trans e1
  obtain ⟨c2, k2, i1, i2, i3, -⟩ := Cond.instantiable_spec wi
  cases e2.symm.trans i1
  cases e3.symm.trans i2
  obtain ⟨kU, u1, u2⟩ := al.2.2 _ _ e3
  exact ⟨D, fV, fC, ⟨hD, ⟨knV, fun q hq => by rw [hq] at obV; cases obV⟩, by rw [al.findClass]; exact e2, kU, u1, by rw [u2]; exact i3, by rw [u2]; exact e5 i3⟩, ⟨SBG.found_only al ⟨cfV, kV, iV, gV⟩, stV⟩, ⟨SBG.found_only al ⟨cfC, kC, iC, gC⟩, stC⟩, slV, slC, by simp [RoadKit.slotOf, gV], by simp [RoadKit.slotOf, gC]⟩
theorem sta_is {Z U : State} (al : Z.vm.Alike U.vm) {C n d : String} {v : Value} (S : RoadKit.Sta Z U.heap C n d v) : StaticIs U C n d v := by
  obtain ⟨cfS, iS, kS, fS, st, cS, t1, t2, t3, t4, t5, t6, t7⟩ := S
  exact StaticIs.there (s := { Z with heap := U.heap }) ⟨cfS, iS, kS, fS, st, cS, t1, t2, t3, t4, t5, (fun q => by rw [q] at t6; cases t6), t7⟩ al rfl
/-- **length() OF SUCH A STRING** -/
theorem lenW {p : Program} {l : Launch} {e : Env} {R : Room} {s : State} {args : Array Value} {below : List Frame} {len W : Nat} {Z : State} {a0 : Array Value} {h : Heap} (hZ : Z.Warmed39 s.vm) (hw : ∀ d ∈ wordsLen, d.before a0 Z = true) {kI : Nat} (wi : (Jvm.Cond.instantiable ST kI).before a0 Z = true)
    {x t : Addr} {kb : ClassId} {cs : List Int32} {cd N2 z : Int32} {vs : List Value} (E : RoadKit.Exa Z h x ST) (V : RoadKit.Fld Z h x ST "value" "[B" (.ref t)) (C : RoadKit.Fld Z h x ST "coder" "B" (.int cd)) (K : RoadKit.Arv Z h t kb .byte N2 vs (.int 0)) (hc : CodA cs cd N2 vs) (hb : ∀ c ∈ cs, ¬ c < 0 ∧ ¬ (65535 : Int32) < c)
    (S : RoadKit.Sta Z h ST "COMPACT_STRINGS" "Z" (.int z)) (hz : ¬ z = 0) (l2 : cs.length ≤ 4000) (hfr : 2 ≤ R.frames) (hlo : W + 25 ≤ R.locals) :
    Back l R p e below s args (⟨"java/lang/String", "length", "()I"⟩ : MethodName) len W (fun P a => a = #[.ref x] ∧ P.U.heap = h ∧ P.cells + 0 ≤ R.cells ∧ P.slots + 0 ≤ R.slots)
      (fun P _ v B => ∃ L, (v = some (.int (Int32.ofNat cs.length)) ∧ L = [] ∧ B.U.heap = h) ∧ B.locs = P.locs ++ L ∧ B.cells = P.cells + 0 ∧ B.slots = P.slots + 0) := by
  obtain ⟨A, K1, K2, K3, K4, K5, K6⟩ := K
  have hcod := hc.cod (by omega) K3 K5
  intro m meth c P g ig mk a X hg hsize hdg hW hn hp'
  obtain ⟨rfl, rfl, r1, r2⟩ := hp'
  have al : Z.vm.Alike P.U.vm := hZ.alike.trans X.warmed.alike
  obtain ⟨D, fV, fC, hB, F1, F2, g1, g2, -, -⟩ := strObj wi al E V C
  have hx : Txt x t A cd cs.length (fun j => cs.getD j 0) P.U := ⟨⟨_, hB.2.2.1, D, hB.1, rfl, by cases q : D.vm <;> first | rfl | exact absurd q (hB.2.1.2 _)⟩, Has.of hB F1 g1, Has.of hB F2 g2, ⟨K1.1, State.isArrayOf_alike al K1.2.1, K1.2.2, by rcases hcod with ⟨-, q, -⟩ | ⟨-, q, -⟩ <;> omega⟩, hcod, fun j hj => by
    have e : cs.getD j 0 = cs[j] := by simp [List.getD_eq_getElem?_getD, hj]
    show ¬ cs.getD j 0 < 0 ∧ ¬ 65535 < cs.getD j 0
    rw [e]; exact hb _ (List.getElem_mem _)⟩
  obtain ⟨v, B, X', ⟨⟨hv, hh⟩, hl, hk, hs⟩, st⟩ := Len.pays x t A cd cs.length (fun j => cs.getD j 0) z (tabLen_of (movedLen hZ hw)) hfr hlo m meth c P g ig mk _ X hg hsize hdg hW hn ⟨r1, r2, rfl, hx, sta_is al S, hz⟩
  exact ⟨v, B, X', ⟨[], ⟨hv, rfl, hh⟩, hl, hk, hs⟩, st⟩
end StrChars.Road
namespace StrChars
open Jvm Sem ClassFile Op Lib Jvm.Stand Jvm.Free.XT Jvm.Free.ALB Jvm.Free.JM Jvm.Free
open Jvm.Lib.Cold (StaticIs)
namespace Emp
def yN : MethodName := ⟨"java/lang/String", "isEmpty", "()Z"⟩
abbrev yB : ByteArray := jdk_42_method_55_code
theorem d0 : decode yB 0 = .ok (.aload_n 0, 1) := by decide +kernel
theorem d1 : decode yB 1 = .ok (.getfield 9, 3) := by decide +kernel
theorem d4 : decode yB 4 = .ok (.arraylength, 1) := by decide +kernel
theorem d5 : decode yB 5 = .ok (.ifCond (.ne) 7, 3) := by decide +kernel
theorem d8 : decode yB 8 = .ok (.iconst 1, 1) := by decide +kernel
theorem d9 : decode yB 9 = .ok (.goto 4, 3) := by decide +kernel
theorem d12 : decode yB 12 = .ok (.iconst 0, 1) := by decide +kernel
theorem d13 : decode yB 13 = .ok (.ireturn, 1) := by decide +kernel
def site : List Cond := [.fieldLink "java/lang/String" 9 "java/lang/String" "value" "[B"]
def tab : Cond := tabOf yN yB 1 (some .boolean) site
def P (x t : Addr) (V : Cell) (cd : Int32) (n : Nat) (f : Nat → Int32) (args : Array Value) (s : State) : Prop := args = #[.ref x] ∧ Txt x t V cd n f s
def E (n : Nat) (r : Option Value) (s u : State) : Prop := XT.PureE (some (.int (if n = 0 then 1 else 0))) r s u
/-- isEmpty() of a String of n chars -/
theorem law (l : Launch) (x t : Addr) (V : Cell) (cd : Int32) (n : Nat) (f : Nat → Int32) : Law l yN 1 0 0 0 yB 1 (some .boolean) site (P x t V cd n f) (E n) [] 0 0 := by
  refine Law.of_walk (plainFor_of_name (by decide +kernel)) (by decide +kernel) (by decide +kernel) (by decide) (fun _ _ h => by rw [h.1]; rfl) (fun _ U U' hal hh h => ⟨h.1, h.2.mv hal hh⟩) (fun r U U' V V' h1 hal h2 h => XT.PureE.mv r U U' V V' h1 hal h2 h) ?_
  intro p e s m args below meth c s₁ X0 hexec hbytes hml hret hlk hnm hown hh0 W hP
  obtain ⟨rfl, hx⟩ := hP
  have v31 := hx.2.2.2.1.2.2.2
  have c1 : Steps p.tables e below (s₁.setTop (entryFrame m #[.ref x] 1)) (s₁.setTop (mkF m 1 #[.val (.ref x)] [.ref x])) := Steps.trans (entry rfl) (by
    show Steps p.tables e below (s₁.setTop (mkF m 0 #[.val (.ref x)] [])) _
    refine XS.aloadN X0.here hexec rfl (hb hbytes d0) rfl rfl ?_
    exact Steps.refl _)
  obtain ⟨T2, X2, q2, st2⟩ := X0.hget hexec hown (wk W (.fieldLink "java/lang/String" 9 "java/lang/String" "value" "[B")) (hx.mv X0.warmed.alike hh0).2.1 (g := (mkF m 1 #[.val (.ref x)] [.ref x])) rfl (rest := []) rfl (hb hbytes d1)
  have hh2 := q2.trans hh0
  have hx2 := hx.mv X2.warmed.alike hh2
  have c3 : Steps p.tables e below (s₁.setTop (entryFrame m #[.ref x] 1)) (T2.setTop (mkF m 5 #[.val (.ref x)] [.int (Int32.ofNat V.slots.size)])) := (c1.trans (st2 _ (Steps.refl _))).trans (by
    refine X2.alen hexec hx2.2.2.2.1 rfl rfl (hb hbytes d4) ?_
    exact Steps.refl _)
  have hz : V.slots.size = 0 ↔ n = 0 := by
    rcases hx.2.2.2.2.1 with ⟨-, q, -⟩ | ⟨-, q, -⟩ <;> omega
  by_cases h0 : n = 0
  · have c4 : Steps p.tables e below (s₁.setTop (entryFrame m #[.ref x] 1)) (T2.setTop (mkF m 13 #[.val (.ref x)] [.int 1])) := c3.trans (by
      refine XS.ifNo X2.here hexec rfl (hb hbytes d5) rfl (i0_ne_f (by rw [hz.mpr h0]; rfl)) ?_
      refine iconstV X2.here hexec rfl 1 (hb hbytes d8) (by decide) ?_
      refine XS.goto X2.here hexec rfl (pc0 := 9) rfl (hb hbytes d9) (by decide) rfl ?_
      exact Steps.refl _)
    exact ⟨T2, some (.int 1), _, _, _, X2, rfl, rfl, rfl, (fun h => by cases h), ⟨by rw [if_pos h0], hh2⟩, fun fs hl => c4.trans (X2.ireturnOut hexec hret rfl (Or.inr (Or.inl rfl)) (hb hbytes d13) hl)⟩
  · have c4 : Steps p.tables e below (s₁.setTop (entryFrame m #[.ref x] 1)) (T2.setTop (mkF m 13 #[.val (.ref x)] [.int 0])) := c3.trans (by
      refine XS.ifYes X2.here hexec rfl (pc0 := 5) rfl (hb hbytes d5) rfl (i0_ne_t (nz32 v31 (by omega))) (by decide) rfl ?_
      refine iconstV X2.here hexec rfl 0 (hb hbytes d12) (by decide) ?_
      exact Steps.refl _)
    exact ⟨T2, some (.int 0), _, _, _, X2, rfl, rfl, rfl, (fun h => by cases h), ⟨by rw [if_neg h0], hh2⟩, fun fs hl => c4.trans (X2.ireturnOut hexec hret rfl (Or.inr (Or.inl rfl)) (hb hbytes d13) hl)⟩
theorem pays {l : Launch} {R : Room} {p : Program} {e : Env} {below : List Frame} {s : State} {sargs : Array Value} {len W : Nat} (x t : Addr) (V : Cell) (cd : Int32) (n : Nat) (f : Nat → Int32) (htab : tab.before sargs s = true) (hfr : 1 ≤ R.frames) (hlo : W + 12 ≤ R.locals) :
    Back l R p e below s sargs yN len W (fun A₁ a₁ => A₁.cells + 0 ≤ R.cells ∧ A₁.slots + 0 ≤ R.slots ∧ P x t V cd n f a₁ A₁.U) (fun A₁ _ v₁ B₁ => E n v₁ A₁.U B₁.U ∧ B₁.locs = A₁.locs ++ [] ∧ B₁.cells = A₁.cells + 0 ∧ B₁.slots = A₁.slots + 0) :=
  (law l x t V cd n f).pays htab hfr (by omega)
end Emp
/-- what place i of a byte[]'s cell holds -/
def yv (A : Cell) (i : Nat) : Int32 := match A.slots[i]? with | some (.int x) => x | _ => 0
theorem yv_get {a : Addr} {A : Cell} {U : State} (h : XT.Arr .byte a A U) (ht : Typed .byte A) {i : Nat} (hi : i < A.slots.size) : A.slots[i]? = some (.int (yv A i)) := by
  have e := Array.getElem?_eq_getElem hi
  have f := ht i _ e
  unfold yv; rw [e]
  generalize A.slots[i] = v at f
  cases v <;> simp [fits] at f ⊢
/-- the two arrays are equal, place for place -/
def EqC (A B : Cell) : Prop := A.slots.size = B.slots.size ∧ ∀ i, i < A.slots.size → yv A i = yv B i
/-- a boolean that says whether p -/
def Says01 (q : Prop) (r : Option Value) (s u : State) : Prop := ∃ v : Int32, r = some (.int v) ∧ u.heap = s.heap ∧ ((v = 1 ∧ q) ∨ (v = 0 ∧ ¬ q))
theorem Says01.mv {q : Prop} : ∀ r (U U' V V' : State), U'.heap = U.heap → V.vm.Alike V'.vm → V'.heap = V.heap → Says01 q r U V → Says01 q r U' V' :=
  fun r U U' V V' h1 _ h2 ⟨v, a, b, c⟩ => ⟨v, a, by rw [h1, h2]; exact b, c⟩
namespace LEq
def yN : MethodName := ⟨"java/lang/StringLatin1", "equals", "([B[B)Z"⟩
abbrev yB : ByteArray := jdk_43_method_13_code
theorem d0 : decode yB 0 = .ok (.aload_n 0, 1) := by decide +kernel
theorem d1 : decode yB 1 = .ok (.arraylength, 1) := by decide +kernel
theorem d2 : decode yB 2 = .ok (.aload_n 1, 1) := by decide +kernel
theorem d3 : decode yB 3 = .ok (.arraylength, 1) := by decide +kernel
theorem d4 : decode yB 4 = .ok (.if_icmp (.ne) 30, 3) := by decide +kernel
theorem d7 : decode yB 7 = .ok (.iconst 0, 1) := by decide +kernel
theorem d8 : decode yB 8 = .ok (.istore_n 2, 1) := by decide +kernel
theorem d9 : decode yB 9 = .ok (.iload_n 2, 1) := by decide +kernel
theorem d10 : decode yB 10 = .ok (.aload_n 0, 1) := by decide +kernel
theorem d11 : decode yB 11 = .ok (.arraylength, 1) := by decide +kernel
theorem d12 : decode yB 12 = .ok (.if_icmp (.ge) 20, 3) := by decide +kernel
theorem d15 : decode yB 15 = .ok (.aload_n 0, 1) := by decide +kernel
theorem d16 : decode yB 16 = .ok (.iload_n 2, 1) := by decide +kernel
theorem d17 : decode yB 17 = .ok (.baload, 1) := by decide +kernel
theorem d18 : decode yB 18 = .ok (.aload_n 1, 1) := by decide +kernel
theorem d19 : decode yB 19 = .ok (.iload_n 2, 1) := by decide +kernel
theorem d20 : decode yB 20 = .ok (.baload, 1) := by decide +kernel
theorem d21 : decode yB 21 = .ok (.if_icmp (.eq) 5, 3) := by decide +kernel
theorem d24 : decode yB 24 = .ok (.iconst 0, 1) := by decide +kernel
theorem d25 : decode yB 25 = .ok (.ireturn, 1) := by decide +kernel
theorem d26 : decode yB 26 = .ok (.iinc 2 1, 3) := by decide +kernel
theorem d29 : decode yB 29 = .ok (.goto (-20), 3) := by decide +kernel
theorem d32 : decode yB 32 = .ok (.iconst 1, 1) := by decide +kernel
theorem d33 : decode yB 33 = .ok (.ireturn, 1) := by decide +kernel
theorem d34 : decode yB 34 = .ok (.iconst 0, 1) := by decide +kernel
theorem d35 : decode yB 35 = .ok (.ireturn, 1) := by decide +kernel
def site : List Cond := []
def tab : Cond := tabOf yN yB 3 (some .boolean) site
def P (a : Addr) (A : Cell) (b : Addr) (B : Cell) (args : Array Value) (s : State) : Prop := args = #[.ref a, .ref b] ∧ XT.Arr .byte a A s ∧ Typed .byte A ∧ XT.Arr .byte b B s ∧ Typed .byte B
/-- whether two byte[] are equal, place for place -/
theorem law (l : Launch) (a : Addr) (A : Cell) (b : Addr) (B : Cell) : Law l yN 2 2 0 0 yB 3 (some .boolean) site (P a A b B) (Says01 (EqC A B)) [] 0 0 := by
  refine Law.of_walk (plainFor_of_name (by decide +kernel)) (by decide +kernel) (by decide +kernel) (by decide) (fun _ _ h => by rw [h.1]; rfl) (fun _ U U' hal hh h => ⟨h.1, h.2.1.mv hal hh, h.2.2.1, h.2.2.2.1.mv hal hh, h.2.2.2.2⟩) (fun r U U' V V' h1 hal h2 h => Says01.mv r U U' V V' h1 hal h2 h) ?_
  intro p e s m args below meth c s₁ X0 hexec hbytes hml hret hlk hnm hown hh0 W hP
  obtain ⟨rfl, hA, tA, hB, tB⟩ := hP
  have a31 := hA.2.2.2
  have b31 := hB.2.2.2
  have hA0 := hA.mv X0.warmed.alike hh0
  have hB0 := hB.mv X0.warmed.alike hh0
  have c1 : Steps p.tables e below (s₁.setTop (entryFrame m #[.ref a, .ref b] 3)) (s₁.setTop (mkF m 0 #[.val (.ref a), .val (.ref b), .unset] [])) := entry rfl
  have c2 : Steps p.tables e below (s₁.setTop (entryFrame m #[.ref a, .ref b] 3)) (s₁.setTop (mkF m 4 #[.val (.ref a), .val (.ref b), .unset] [.int (Int32.ofNat B.slots.size), .int (Int32.ofNat A.slots.size)])) := c1.trans (by
    refine XS.aloadN X0.here hexec rfl (hb hbytes d0) rfl rfl ?_
    refine X0.alen hexec hA0 rfl rfl (hb hbytes d1) ?_
    refine XS.aloadN X0.here hexec rfl (hb hbytes d2) rfl rfl ?_
    refine X0.alen hexec hB0 rfl rfl (hb hbytes d3) ?_
    exact Steps.refl _)
  by_cases hs : A.slots.size = B.slots.size
  · have c3 : Steps p.tables e below (s₁.setTop (entryFrame m #[.ref a, .ref b] 3)) (s₁.setTop (mkF m 9 #[.val (.ref a), .val (.ref b), .val (.int 0)] [])) := c2.trans (by
      refine XS.icmpNo X0.here hexec rfl (hb hbytes d4) rfl (ii_ne_f (by rw [hs])) ?_
      refine iconstV X0.here hexec rfl 0 (hb hbytes d7) (by decide) ?_
      refine XS.istoreN X0.here hexec rfl (hb hbytes d8) rfl rfl ?_
      exact Steps.refl _)
    have loop : ∀ (r i : Nat), i + r = A.slots.size → (∀ j, j < i → yv A j = yv B j) → Steps p.tables e below (s₁.setTop (entryFrame m #[.ref a, .ref b] 3)) (s₁.setTop (mkF m 9 #[.val (.ref a), .val (.ref b), .val (.int (Int32.ofNat i))] [])) → ∃ (pc : Nat) (Ls : Array Slot) (v : Int32), (pc = 25 ∨ pc = 33) ∧ ((v = 1 ∧ EqC A B) ∨ (v = 0 ∧ ¬ EqC A B)) ∧ Steps p.tables e below (s₁.setTop (entryFrame m #[.ref a, .ref b] 3)) (s₁.setTop (mkF m pc Ls [.int v])) := by
      intro r
      induction r with
      | zero =>
        intro i hi he cl
        exact ⟨33, _, 1, Or.inr rfl, Or.inl ⟨rfl, hs, fun j hj => he j (by omega)⟩, cl.trans (by
          refine XS.iloadN X0.here hexec rfl (hb hbytes d9) rfl ?_
          refine XS.aloadN X0.here hexec rfl (hb hbytes d10) rfl rfl ?_
          refine X0.alen hexec hA0 rfl rfl (hb hbytes d11) ?_
          refine XS.icmpYes X0.here hexec rfl (pc0 := 12) rfl (hb hbytes d12) rfl (ii_ge_t (nlt32 (by omega) (by omega))) (by decide) rfl ?_
          refine iconstV X0.here hexec rfl 1 (hb hbytes d32) (by decide) ?_
          exact Steps.refl _)⟩
      | succ r ih =>
        intro i hi he cl
        have c4 : Steps p.tables e below (s₁.setTop (entryFrame m #[.ref a, .ref b] 3)) (s₁.setTop (mkF m 21 #[.val (.ref a), .val (.ref b), .val (.int (Int32.ofNat i))] [.int (yv B i), .int (yv A i)])) := cl.trans (by
          refine XS.iloadN X0.here hexec rfl (hb hbytes d9) rfl ?_
          refine XS.aloadN X0.here hexec rfl (hb hbytes d10) rfl rfl ?_
          refine X0.alen hexec hA0 rfl rfl (hb hbytes d11) ?_
          refine XS.icmpNo X0.here hexec rfl (hb hbytes d12) rfl (ii_ge_f (lt32 (by omega) (by omega))) ?_
          refine XS.aloadN X0.here hexec rfl (hb hbytes d15) rfl rfl ?_
          refine XS.iloadN X0.here hexec rfl (hb hbytes d16) rfl ?_
          refine X0.aget hexec hA0 rfl (yv_get hA tA (i := i) (by omega)) rfl rfl (hb hbytes d17) ?_
          refine XS.aloadN X0.here hexec rfl (hb hbytes d18) rfl rfl ?_
          refine XS.iloadN X0.here hexec rfl (hb hbytes d19) rfl ?_
          refine X0.aget hexec hB0 rfl (yv_get hB tB (i := i) (by omega)) rfl rfl (hb hbytes d20) ?_
          exact Steps.refl _)
        by_cases hv : yv A i = yv B i
        · have c5 : Steps p.tables e below (s₁.setTop (entryFrame m #[.ref a, .ref b] 3)) (s₁.setTop (mkF m 9 #[.val (.ref a), .val (.ref b), .val (.int (Int32.ofNat i + 1))] [])) := c4.trans (by
            refine XS.icmpYes X0.here hexec rfl (pc0 := 21) rfl (hb hbytes d21) rfl (ii_eq_t hv) (by decide) rfl ?_
            refine iincV X0.here hexec rfl 1 (hb hbytes d26) (by decide) rfl rfl ?_
            refine XS.goto X0.here hexec rfl (pc0 := 29) rfl (hb hbytes d29) (by decide) rfl ?_
            exact Steps.refl _)
          rw [succ32] at c5
          exact ih (i + 1) (by omega) (fun j hj => by
            by_cases e : j = i
            · rw [e]; exact hv
            · exact he j (by omega)) c5
        · exact ⟨25, _, 0, Or.inl rfl, Or.inr ⟨rfl, fun q => hv (q.2 i (by omega))⟩, c4.trans (by
            refine XS.icmpNo X0.here hexec rfl (hb hbytes d21) rfl (ii_eq_f hv) ?_
            refine iconstV X0.here hexec rfl 0 (hb hbytes d24) (by decide) ?_
            exact Steps.refl _)⟩
    obtain ⟨pc, Ls, v, hpc, hv, cz⟩ := loop A.slots.size 0 (by omega) (fun j hj => absurd hj (Nat.not_lt_zero j)) c3
    have nv : narrow .boolean (.int v) = .int v := by rcases hv with ⟨rfl, -⟩ | ⟨rfl, -⟩ <;> rfl
    rcases hpc with rfl | rfl
    · exact ⟨s₁, some (.int v), _, _, _, X0, rfl, rfl, rfl, (fun h => by cases h), ⟨v, rfl, hh0, hv⟩, fun fs hl => cz.trans (X0.ireturnOut hexec hret nv (Or.inr (Or.inl rfl)) (hb hbytes d25) hl)⟩
    · exact ⟨s₁, some (.int v), _, _, _, X0, rfl, rfl, rfl, (fun h => by cases h), ⟨v, rfl, hh0, hv⟩, fun fs hl => cz.trans (X0.ireturnOut hexec hret nv (Or.inr (Or.inl rfl)) (hb hbytes d33) hl)⟩
  · have c3 : Steps p.tables e below (s₁.setTop (entryFrame m #[.ref a, .ref b] 3)) (s₁.setTop (mkF m 35 #[.val (.ref a), .val (.ref b), .unset] [.int 0])) := c2.trans (by
      refine XS.icmpYes X0.here hexec rfl (pc0 := 4) rfl (hb hbytes d4) rfl (ii_ne_t (ne32 a31 b31 hs)) (by decide) rfl ?_
      refine iconstV X0.here hexec rfl 0 (hb hbytes d34) (by decide) ?_
      exact Steps.refl _)
    exact ⟨s₁, some (.int 0), _, _, _, X0, rfl, rfl, rfl, (fun h => by cases h), ⟨0, rfl, hh0, Or.inr ⟨rfl, fun q => hs q.1⟩⟩, fun fs hl => c3.trans (X0.ireturnOut hexec hret rfl (Or.inr (Or.inl rfl)) (hb hbytes d35) hl)⟩
end LEq
theorem Cod.ty {cd : Int32} {n : Nat} {f : Nat → Int32} {V : Cell} (h : Cod cd n f V) : Typed .byte V := fun i v hv => by
  have hi : i < V.slots.size := (Array.getElem?_eq_some_iff.mp hv).1
  rcases h with ⟨-, k1, k2⟩ | ⟨-, k1, k2, -⟩
  · rw [(k2 i (by omega)).1] at hv; cases hv; exact fits_lo8 _
  · rcases Nat.mod_two_eq_zero_or_one i with e | e
    · obtain ⟨j, rfl⟩ : ∃ j, i = 2 * j := ⟨i / 2, by omega⟩
      rw [(k2 j (by omega)).1] at hv; cases hv; exact fits_lo8 _
    · obtain ⟨j, rfl⟩ : ∃ j, i = 2 * j + 1 := ⟨i / 2, by omega⟩
      rw [(k2 j (by omega)).2] at hv; cases hv; exact fits_lo8 _
/-- the same text -/
def SameT (n : Nat) (f : Nat → Int32) (k : Nat) (g : Nat → Int32) : Prop := n = k ∧ ∀ j, j < n → f j = g j
theorem lo8_inj {x y : Int32} (h0 : ¬ x < 0) (h1 : ¬ 255 < x) (k0 : ¬ y < 0) (k1 : ¬ 255 < y) (h : lo8 x = lo8 y) : x = y := by
  rw [← lo8_mask h0 h1, ← lo8_mask k0 k1, h]
/-- arrays coded by one coder are equal just where the texts are -/
theorem Cod.eqv {cd : Int32} {n k : Nat} {f g : Nat → Int32} {V V' : Cell} (h : Cod cd n f V) (h' : Cod cd k g V') (hf : ∀ j, j < n → ¬ f j < 0 ∧ ¬ 65535 < f j) (hg : ∀ j, j < k → ¬ g j < 0 ∧ ¬ 65535 < g j) : EqC V V' ↔ SameT n f k g := by
  have yvv : ∀ {W : Cell} {i : Nat} {x : Int32}, W.slots[i]? = some (.int x) → yv W i = x := fun q => by unfold yv; rw [q]
  rcases h with ⟨rfl, k1, k2⟩ | ⟨rfl, k1, k2, -⟩
  · rcases h' with ⟨-, m1, m2⟩ | ⟨e, -⟩
    · constructor
      · rintro ⟨e1, e2⟩
        refine ⟨by omega, fun j hj => ?_⟩
        have q := e2 j (by omega)
        rw [yvv (k2 j hj).1, yvv (m2 j (by omega)).1] at q
        exact lo8_inj (hf j hj).1 (k2 j hj).2 (hg j (by omega)).1 (m2 j (by omega)).2 q
      · rintro ⟨rfl, e2⟩
        refine ⟨by omega, fun j hj => ?_⟩
        rw [yvv (k2 j (by omega)).1, yvv (m2 j (by omega)).1, e2 j (by omega)]
    · exact absurd e (by decide)
  · rcases h' with ⟨e, -⟩ | ⟨-, m1, m2, -⟩
    · exact absurd e (by decide)
    · constructor
      · rintro ⟨e1, e2⟩
        refine ⟨by omega, fun j hj => ?_⟩
        have q1 := e2 (2 * j) (by omega)
        have q2 := e2 (2 * j + 1) (by omega)
        rw [yvv (k2 j hj).1, yvv (m2 j (by omega)).1] at q1
        rw [yvv (k2 j hj).2, yvv (m2 j (by omega)).2] at q2
        rw [← pair_says (hf j hj).1 (hf j hj).2, ← pair_says (hg j (by omega)).1 (hg j (by omega)).2, q1, q2]
      · rintro ⟨rfl, e2⟩
        refine ⟨by omega, fun i hi => ?_⟩
        rcases Nat.mod_two_eq_zero_or_one i with e | e
        · obtain ⟨j, rfl⟩ : ∃ j, i = 2 * j := ⟨i / 2, by omega⟩
          rw [yvv (k2 j (by omega)).1, yvv (m2 j (by omega)).1, e2 j (by omega)]
        · obtain ⟨j, rfl⟩ : ∃ j, i = 2 * j + 1 := ⟨i / 2, by omega⟩
          rw [yvv (k2 j (by omega)).2, yvv (m2 j (by omega)).2, e2 j (by omega)]
/-- two codings differ: so do the texts -/
theorem Cod.dif {cd cd' : Int32} {n k : Nat} {f g : Nat → Int32} {V V' : Cell} (h : Cod cd n f V) (h' : Cod cd' k g V') (hne : ¬ cd = cd') : ¬ SameT n f k g := by
  rintro ⟨rfl, e⟩
  rcases h with ⟨rfl, -, k2⟩ | ⟨rfl, -, -, j, hj, hw⟩
  · rcases h' with ⟨rfl, -⟩ | ⟨-, -, -, j, hj, hw⟩
    · exact hne rfl
    · exact (k2 j hj).2 (by rw [e j hj]; exact hw)
  · rcases h' with ⟨-, -, m2⟩ | ⟨rfl, -⟩
    · exact (m2 j hj).2 (by rw [← e j hj]; exact hw)
    · exact hne rfl
/-- an object of exactly C is an instance of C -/
theorem cinst {p : Program} {l : Launch} {e : Env} {R : Room} {s : State} {m : MethodId} {args : Array Value} {below : List Frame} {meth : Method} {c : Code} {T : State} {locs : List Loc} {cells slots : Nat} (X : Stand p l e R s m args below meth c T locs cells slots) (hexec : p.tables.exec = Jvm.exec) {own C : String} {index : Nat} (hown : s.vm.findClass own = some m.cls) (hlink : (Cond.classLink own index C).before args s = true) {a : Addr} (hE : Exact C a T)
    {g : JFrame} (hg : g.method = m) {rest : List Value} (hstack : g.stack = .ref a :: rest) (hdg : decode c.code g.pc = .ok (.instanceof index, 3)) :
    ∃ T', Stand p l e R s m args below meth c T' locs cells slots ∧ T'.heap = T.heap ∧ ∀ target, Steps p.tables e below (T'.setTop { g with pc := g.pc + 3, stack := .int 1 :: rest }) target → Steps p.tables e below (T.setTop g) target := by
  obtain ⟨cB, h1, D, h2, h3, h4⟩ := hE
  have h1' : s.vm.findClass C = some cB := by rw [← X.warmed.alike.findClass]; exact h1
  obtain ⟨vm', X', st⟩ := X.instanceofYes hexec hown hlink h2 h4 h1' (by rw [h3]; exact Jvm.Free.SB.assignable_self _ _) hg hstack hdg
  exact ⟨_, X', rfl, st⟩
theorem cself {p : Program} {l : Launch} {e : Env} {R : Room} {s : State} {m : MethodId} {args : Array Value} {below : List Frame} {meth : Method} {c : Code} {T : State} {locs : List Loc} {cells slots : Nat} (X : Stand p l e R s m args below meth c T locs cells slots) (hexec : p.tables.exec = Jvm.exec) {own C : String} {index : Nat} (hown : s.vm.findClass own = some m.cls) (hlink : (Cond.classLink own index C).before args s = true) {a : Addr} (hE : Exact C a T)
    {g : JFrame} (hg : g.method = m) {rest : List Value} (hstack : g.stack = .ref a :: rest) (hdg : decode c.code g.pc = .ok (.checkcast index, 3)) :
    ∃ T', Stand p l e R s m args below meth c T' locs cells slots ∧ T'.heap = T.heap ∧ ∀ target, Steps p.tables e below (T'.setTop { g with pc := g.pc + 3, stack := .ref a :: rest }) target → Steps p.tables e below (T.setTop g) target := by
  obtain ⟨cB, h1, D, h2, h3, h4⟩ := hE
  have h1' : s.vm.findClass C = some cB := by rw [← X.warmed.alike.findClass]; exact h1
  obtain ⟨vm', X', st⟩ := X.checkcastYes hexec hown hlink h2 h4 h1' (by rw [h3]; exact Jvm.Free.SB.assignable_self _ _) hg hstack hdg
  exact ⟨_, X', rfl, fun t h => st t (by rw [← hstack] at h; exact h)⟩
namespace SEq
def yN : MethodName := ⟨"java/lang/String", "equals", "(Ljava/lang/Object;)Z"⟩
abbrev yB : ByteArray := jdk_42_method_66_code
theorem d0 : decode yB 0 = .ok (.aload_n 0, 1) := by decide +kernel
theorem d1 : decode yB 1 = .ok (.aload_n 1, 1) := by decide +kernel
theorem d2 : decode yB 2 = .ok (.if_acmp (.ne) 5, 3) := by decide +kernel
theorem d5 : decode yB 5 = .ok (.iconst 1, 1) := by decide +kernel
theorem d6 : decode yB 6 = .ok (.ireturn, 1) := by decide +kernel
theorem d7 : decode yB 7 = .ok (.aload_n 1, 1) := by decide +kernel
theorem d8 : decode yB 8 = .ok (.instanceof 10, 3) := by decide +kernel
theorem d11 : decode yB 11 = .ok (.ifCond (.eq) 43, 3) := by decide +kernel
theorem d14 : decode yB 14 = .ok (.aload_n 1, 1) := by decide +kernel
theorem d15 : decode yB 15 = .ok (.checkcast 10, 3) := by decide +kernel
theorem d18 : decode yB 18 = .ok (.astore_n 2, 1) := by decide +kernel
theorem d19 : decode yB 19 = .ok (.getstatic 38, 3) := by decide +kernel
theorem d22 : decode yB 22 = .ok (.ifCond (.eq) 14, 3) := by decide +kernel
theorem d25 : decode yB 25 = .ok (.aload_n 0, 1) := by decide +kernel
theorem d26 : decode yB 26 = .ok (.getfield 15, 3) := by decide +kernel
theorem d29 : decode yB 29 = .ok (.aload_n 2, 1) := by decide +kernel
theorem d30 : decode yB 30 = .ok (.getfield 15, 3) := by decide +kernel
theorem d33 : decode yB 33 = .ok (.if_icmp (.ne) 21, 3) := by decide +kernel
theorem d36 : decode yB 36 = .ok (.aload_n 0, 1) := by decide +kernel
theorem d37 : decode yB 37 = .ok (.getfield 9, 3) := by decide +kernel
theorem d40 : decode yB 40 = .ok (.aload_n 2, 1) := by decide +kernel
theorem d41 : decode yB 41 = .ok (.getfield 9, 3) := by decide +kernel
theorem d44 : decode yB 44 = .ok (.invokestatic 541, 3) := by decide +kernel
theorem d47 : decode yB 47 = .ok (.ifCond (.eq) 7, 3) := by decide +kernel
theorem d50 : decode yB 50 = .ok (.iconst 1, 1) := by decide +kernel
theorem d51 : decode yB 51 = .ok (.goto 4, 3) := by decide +kernel
theorem d54 : decode yB 54 = .ok (.iconst 0, 1) := by decide +kernel
theorem d55 : decode yB 55 = .ok (.ireturn, 1) := by decide +kernel
def site : List Cond := [.classLink "java/lang/String" 10 "java/lang/String", .fieldLink "java/lang/String" 38 "java/lang/String" "COMPACT_STRINGS" "Z", .fieldLink "java/lang/String" 15 "java/lang/String" "coder" "B", .fieldLink "java/lang/String" 9 "java/lang/String" "value" "[B", LEq.tab] ++ staticW "java/lang/String" 541 LEq.yN
def tab : Cond := tabOf yN yB 3 (some .boolean) site
def P (x t : Addr) (V : Cell) (cd : Int32) (n : Nat) (f : Nat → Int32) (y t' : Addr) (V' : Cell) (cd' : Int32) (k : Nat) (g : Nat → Int32) (z : Int32) (args : Array Value) (s : State) : Prop := args = #[.ref x, .ref y] ∧ Txt x t V cd n f s ∧ Txt y t' V' cd' k g s ∧ StaticIs s "java/lang/String" "COMPACT_STRINGS" "Z" (.int z) ∧ ¬ z = 0
/-- equals(Object) of two Strings: whether the texts are the same -/
theorem law (l : Launch) (x t : Addr) (V : Cell) (cd : Int32) (n : Nat) (f : Nat → Int32) (y t' : Addr) (V' : Cell) (cd' : Int32) (k : Nat) (g : Nat → Int32) (z : Int32) : Law l yN 2 1 1 14 yB 3 (some .boolean) site (P x t V cd n f y t' V' cd' k g z) (Says01 (SameT n f k g)) [] 0 0 := by
  refine Law.of_walk (plainFor_of_name (by decide +kernel)) (by decide +kernel) (by decide +kernel) (by decide) (fun _ _ h => by rw [h.1]; rfl) (fun _ U U' hal hh h => ⟨h.1, h.2.1.mv hal hh, h.2.2.1.mv hal hh, h.2.2.2.1.there hal hh, h.2.2.2.2⟩) (fun r U U' V V' h1 hal h2 h => Says01.mv r U U' V V' h1 hal h2 h) ?_
  intro p e s m args below meth c s₁ X0 hexec hbytes hml hret hlk hnm hown hh0 W hP
  obtain ⟨rfl, hx, hy, s1, hz⟩ := hP
  have c1 : Steps p.tables e below (s₁.setTop (entryFrame m #[.ref x, .ref y] 3)) (s₁.setTop (mkF m 2 #[.val (.ref x), .val (.ref y), .unset] [.ref y, .ref x])) := Steps.trans (entry rfl) (by
    show Steps p.tables e below (s₁.setTop (mkF m 0 #[.val (.ref x), .val (.ref y), .unset] [])) _
    refine XS.aloadN X0.here hexec rfl (hb hbytes d0) rfl rfl ?_
    refine XS.aloadN X0.here hexec rfl (hb hbytes d1) rfl rfl ?_
    exact Steps.refl _)
  by_cases hxy : x = y
  · have c2 : Steps p.tables e below (s₁.setTop (entryFrame m #[.ref x, .ref y] 3)) (s₁.setTop (mkF m 6 #[.val (.ref x), .val (.ref y), .unset] [.int 1])) := c1.trans (by
      refine acmpNo X0.here hexec rfl (hb hbytes d2) rfl rfl rfl (by simp [acmp, hxy]) ?_
      refine iconstV X0.here hexec rfl 1 (hb hbytes d5) (by decide) ?_
      exact Steps.refl _)
    subst hxy
    have ec : cd = cd' := by
      obtain ⟨D, fd, a1, a2, a3⟩ := hx.2.2.1
      obtain ⟨D', fd', b1, b2, b3⟩ := hy.2.2.1
      cases a1.symm.trans b1
      obtain ⟨q1, q2, q3, q4⟩ := a2.1
      obtain ⟨r1, r2, r3, r4⟩ := b2.1
      cases q4.symm.trans r4
      cases a3.symm.trans b3; rfl
    have et : t = t' := by
      obtain ⟨D, fd, a1, a2, a3⟩ := hx.2.1
      obtain ⟨D', fd', b1, b2, b3⟩ := hy.2.1
      cases a1.symm.trans b1
      obtain ⟨q1, q2, q3, q4⟩ := a2.1
      obtain ⟨r1, r2, r3, r4⟩ := b2.1
      cases q4.symm.trans r4
      cases a3.symm.trans b3; rfl
    subst ec et
    have ev : V = V' := by cases hx.2.2.2.1.1.symm.trans hy.2.2.2.1.1; rfl
    subst ev
    have hs : SameT n f k g := (Cod.eqv hx.2.2.2.2.1 hy.2.2.2.2.1 hx.2.2.2.2.2 hy.2.2.2.2.2).mp ⟨rfl, fun _ _ => rfl⟩
    exact ⟨s₁, some (.int 1), _, _, _, X0, rfl, rfl, rfl, (fun h => by cases h), ⟨1, rfl, hh0, Or.inl ⟨rfl, hs⟩⟩, fun fs hl => c2.trans (X0.ireturnOut hexec hret rfl (Or.inr (Or.inl rfl)) (hb hbytes d6) hl)⟩
  · have c2 : Steps p.tables e below (s₁.setTop (entryFrame m #[.ref x, .ref y] 3)) (s₁.setTop (mkF m 8 #[.val (.ref x), .val (.ref y), .unset] [.ref y])) := c1.trans (by
      refine acmpYes X0.here hexec rfl (pc0 := 2) rfl (hb hbytes d2) rfl rfl rfl (by simp [acmp, hxy]) (by decide) rfl ?_
      refine XS.aloadN X0.here hexec rfl (hb hbytes d7) rfl rfl ?_
      exact Steps.refl _)
    obtain ⟨T3, X3, q3, st3⟩ := cinst X0 hexec hown (wk W (.classLink "java/lang/String" 10 "java/lang/String")) (hy.mv X0.warmed.alike hh0).1 (g := (mkF m 8 #[.val (.ref x), .val (.ref y), .unset] [.ref y])) rfl (rest := []) rfl (hb hbytes d8)
    have hh3 := q3.trans hh0
    have c4 : Steps p.tables e below (s₁.setTop (entryFrame m #[.ref x, .ref y] 3)) (T3.setTop (mkF m 15 #[.val (.ref x), .val (.ref y), .unset] [.ref y])) := (c2.trans (st3 _ (Steps.refl _))).trans (by
      refine XS.ifNo X3.here hexec rfl (hb hbytes d11) rfl (i0_eq_f (by decide)) ?_
      refine XS.aloadN X3.here hexec rfl (hb hbytes d14) rfl rfl ?_
      exact Steps.refl _)
    obtain ⟨T5, X5, q5, st5⟩ := cself X3 hexec hown (wk W (.classLink "java/lang/String" 10 "java/lang/String")) (hy.mv X3.warmed.alike hh3).1 (g := (mkF m 15 #[.val (.ref x), .val (.ref y), .unset] [.ref y])) rfl (rest := []) rfl (hb hbytes d15)
    have hh5 := q5.trans hh3
    have c6 : Steps p.tables e below (s₁.setTop (entryFrame m #[.ref x, .ref y] 3)) (T5.setTop (mkF m 19 #[.val (.ref x), .val (.ref y), .val (.ref y)] [])) := (c4.trans (st5 _ (Steps.refl _))).trans (by
      refine XS.astoreN X5.here hexec rfl (hb hbytes d18) rfl rfl rfl ?_
      exact Steps.refl _)
    obtain ⟨T7, X7, q7, st7⟩ := X5.sget hexec hown (wk W (.fieldLink "java/lang/String" 38 "java/lang/String" "COMPACT_STRINGS" "Z")) s1 (fun _ _ h => by rw [hh5]; exact h) (g := (mkF m 19 #[.val (.ref x), .val (.ref y), .val (.ref y)] [])) rfl (hb hbytes d19)
    have hh7 := q7.trans hh5
    have c8 : Steps p.tables e below (s₁.setTop (entryFrame m #[.ref x, .ref y] 3)) (T7.setTop (mkF m 26 #[.val (.ref x), .val (.ref y), .val (.ref y)] [.ref x])) := (c6.trans (st7 _ (Steps.refl _))).trans (by
      refine XS.ifNo X7.here hexec rfl (hb hbytes d22) rfl (i0_eq_f hz) ?_
      refine XS.aloadN X7.here hexec rfl (hb hbytes d25) rfl rfl ?_
      exact Steps.refl _)
    obtain ⟨T9, X9, q9, st9⟩ := X7.hget hexec hown (wk W (.fieldLink "java/lang/String" 15 "java/lang/String" "coder" "B")) (hx.mv X7.warmed.alike hh7).2.2.1 (g := (mkF m 26 #[.val (.ref x), .val (.ref y), .val (.ref y)] [.ref x])) rfl (rest := []) rfl (hb hbytes d26)
    have hh9 := q9.trans hh7
    have c10 : Steps p.tables e below (s₁.setTop (entryFrame m #[.ref x, .ref y] 3)) (T9.setTop (mkF m 30 #[.val (.ref x), .val (.ref y), .val (.ref y)] [.ref y, .int cd])) := (c8.trans (st9 _ (Steps.refl _))).trans (by
      refine XS.aloadN X9.here hexec rfl (hb hbytes d29) rfl rfl ?_
      exact Steps.refl _)
    obtain ⟨T11, X11, q11, st11⟩ := X9.hget hexec hown (wk W (.fieldLink "java/lang/String" 15 "java/lang/String" "coder" "B")) (hy.mv X9.warmed.alike hh9).2.2.1 (g := (mkF m 30 #[.val (.ref x), .val (.ref y), .val (.ref y)] [.ref y, .int cd])) rfl (rest := [.int cd]) rfl (hb hbytes d30)
    have hh11 := q11.trans hh9
    have c12 : Steps p.tables e below (s₁.setTop (entryFrame m #[.ref x, .ref y] 3)) (T11.setTop (mkF m 33 #[.val (.ref x), .val (.ref y), .val (.ref y)] [.int cd', .int cd])) := c10.trans (st11 _ (Steps.refl _))
    by_cases hcd : cd = cd'
    · subst hcd
      have c13 : Steps p.tables e below (s₁.setTop (entryFrame m #[.ref x, .ref y] 3)) (T11.setTop (mkF m 37 #[.val (.ref x), .val (.ref y), .val (.ref y)] [.ref x])) := c12.trans (by
        refine XS.icmpNo X11.here hexec rfl (hb hbytes d33) rfl (ii_ne_f rfl) ?_
        refine XS.aloadN X11.here hexec rfl (hb hbytes d36) rfl rfl ?_
        exact Steps.refl _)
      obtain ⟨T14, X14, q14, st14⟩ := X11.hget hexec hown (wk W (.fieldLink "java/lang/String" 9 "java/lang/String" "value" "[B")) (hx.mv X11.warmed.alike hh11).2.1 (g := (mkF m 37 #[.val (.ref x), .val (.ref y), .val (.ref y)] [.ref x])) rfl (rest := []) rfl (hb hbytes d37)
      have hh14 := q14.trans hh11
      have c15 : Steps p.tables e below (s₁.setTop (entryFrame m #[.ref x, .ref y] 3)) (T14.setTop (mkF m 41 #[.val (.ref x), .val (.ref y), .val (.ref y)] [.ref y, .ref t])) := (c13.trans (st14 _ (Steps.refl _))).trans (by
        refine XS.aloadN X14.here hexec rfl (hb hbytes d40) rfl rfl ?_
        exact Steps.refl _)
      obtain ⟨T16, X16, q16, st16⟩ := X14.hget hexec hown (wk W (.fieldLink "java/lang/String" 9 "java/lang/String" "value" "[B")) (hy.mv X14.warmed.alike hh14).2.1 (g := (mkF m 41 #[.val (.ref x), .val (.ref y), .val (.ref y)] [.ref y, .ref t])) rfl (rest := [.ref t]) rfl (hb hbytes d41)
      have hh16 := q16.trans hh14
      have c17 : Steps p.tables e below (s₁.setTop (entryFrame m #[.ref x, .ref y] 3)) (T16.setTop (mkF m 44 #[.val (.ref x), .val (.ref y), .val (.ref y)] [.ref t', .ref t])) := c15.trans (st16 _ (Steps.refl _))
      obtain ⟨v18, T18, X18, E18, g18⟩ := X16.callS hexec (LEq.law l t V t' V') hown (wks W (staticW "java/lang/String" 541 LEq.yN)) (wk W LEq.tab) (W := 0) (Nat.le_of_ble_eq_true rfl) (Nat.le_of_ble_eq_true rfl) (Nat.le_refl _) (Nat.le_refl _) (g := (mkF m 44 #[.val (.ref x), .val (.ref y), .val (.ref y)] [.ref t', .ref t])) rfl (by rw [hml]; rfl) c17 (argsL := [.ref t, .ref t']) (rest := []) rfl rfl (by show 2 * 0 + 0 ≤ _; decide) (hb hbytes d44) (⟨rfl, hx.2.2.2.1.mv X16.warmed.alike hh16, hx.2.2.2.2.1.ty, hy.2.2.2.1.mv X16.warmed.alike hh16, hy.2.2.2.2.1.ty⟩)
      obtain ⟨v, rfl, q18, hv⟩ := E18
      have iff := Cod.eqv hx.2.2.2.2.1 hy.2.2.2.2.1 hx.2.2.2.2.2 hy.2.2.2.2.2
      rcases hv with ⟨rfl, he⟩ | ⟨rfl, he⟩
      · have c19 : Steps p.tables e below (s₁.setTop (entryFrame m #[.ref x, .ref y] 3)) (T18.setTop (mkF m 55 #[.val (.ref x), .val (.ref y), .val (.ref y)] [.int 1])) := Steps.trans g18 (by
          refine XS.ifNo X18.here hexec rfl (hb hbytes d47) rfl (i0_eq_f (by decide)) ?_
          refine iconstV X18.here hexec rfl 1 (hb hbytes d50) (by decide) ?_
          refine XS.goto X18.here hexec rfl (pc0 := 51) rfl (hb hbytes d51) (by decide) rfl ?_
          exact Steps.refl _)
        exact ⟨T18, some (.int 1), _, _, _, X18, rfl, rfl, rfl, (fun h => by cases h), ⟨1, rfl, q18.trans hh16, Or.inl ⟨rfl, iff.mp he⟩⟩, fun fs hl => c19.trans (X18.ireturnOut hexec hret rfl (Or.inr (Or.inl rfl)) (hb hbytes d55) hl)⟩
      · have c19 : Steps p.tables e below (s₁.setTop (entryFrame m #[.ref x, .ref y] 3)) (T18.setTop (mkF m 55 #[.val (.ref x), .val (.ref y), .val (.ref y)] [.int 0])) := Steps.trans g18 (by
          refine XS.ifYes X18.here hexec rfl (pc0 := 47) rfl (hb hbytes d47) rfl (i0_eq_t rfl) (by decide) rfl ?_
          refine iconstV X18.here hexec rfl 0 (hb hbytes d54) (by decide) ?_
          exact Steps.refl _)
        exact ⟨T18, some (.int 0), _, _, _, X18, rfl, rfl, rfl, (fun h => by cases h), ⟨0, rfl, q18.trans hh16, Or.inr ⟨rfl, fun q => he (iff.mpr q)⟩⟩, fun fs hl => c19.trans (X18.ireturnOut hexec hret rfl (Or.inr (Or.inl rfl)) (hb hbytes d55) hl)⟩
    · have c13 : Steps p.tables e below (s₁.setTop (entryFrame m #[.ref x, .ref y] 3)) (T11.setTop (mkF m 55 #[.val (.ref x), .val (.ref y), .val (.ref y)] [.int 0])) := c12.trans (by
        refine XS.icmpYes X11.here hexec rfl (pc0 := 33) rfl (hb hbytes d33) rfl (ii_ne_t hcd) (by decide) rfl ?_
        refine iconstV X11.here hexec rfl 0 (hb hbytes d54) (by decide) ?_
        exact Steps.refl _)
      exact ⟨T11, some (.int 0), _, _, _, X11, rfl, rfl, rfl, (fun h => by cases h), ⟨0, rfl, hh11, Or.inr ⟨rfl, Cod.dif hx.2.2.2.2.1 hy.2.2.2.2.1 hcd⟩⟩, fun fs hl => c13.trans (X11.ireturnOut hexec hret rfl (Or.inr (Or.inl rfl)) (hb hbytes d55) hl)⟩
theorem pays {l : Launch} {R : Room} {p : Program} {e : Env} {below : List Frame} {s : State} {sargs : Array Value} {len W : Nat} (x t : Addr) (V : Cell) (cd : Int32) (n : Nat) (f : Nat → Int32) (y t' : Addr) (V' : Cell) (cd' : Int32) (k : Nat) (g : Nat → Int32) (z : Int32) (htab : tab.before sargs s = true) (hfr : 2 ≤ R.frames) (hlo : W + 28 ≤ R.locals) :
    Back l R p e below s sargs yN len W (fun A₁ a₁ => A₁.cells + 0 ≤ R.cells ∧ A₁.slots + 0 ≤ R.slots ∧ P x t V cd n f y t' V' cd' k g z a₁ A₁.U) (fun A₁ _ v₁ B₁ => Says01 (SameT n f k g) v₁ A₁.U B₁.U ∧ B₁.locs = A₁.locs ++ [] ∧ B₁.cells = A₁.cells + 0 ∧ B₁.slots = A₁.slots + 0) :=
  (law l x t V cd n f y t' V' cd' k g z).pays htab hfr (by omega)
end SEq
end StrChars
namespace StrChars.Road
open Jvm Sem ClassFile Op Lib Jvm.Stand Jvm.Free Jvm.Free.XT
open Jvm.Lib.Cold (StaticIs)
/-- the words of String.isEmpty() -/
abbrev wordsEmp : List Jvm.Cond := [.code Emp.yN Emp.yB 1 (some .boolean), .initialized ST, .fieldLink ST 9 ST "value" "[B"]
theorem tabEmp_of {a : Array Value} {s : State} (h : ∀ w ∈ wordsEmp, w.before a s = true) : Emp.tab.before a s = true := unparts (wk h (.code Emp.yN Emp.yB 1 (some .boolean))) (wks h (.initialized Emp.yN.cls :: Emp.site))
theorem movedEmp {Z s : State} {a0 args : Array Value} (hZ : Z.Warmed39 s.vm) (hw : ∀ d ∈ wordsEmp, d.before a0 Z = true) : ∀ d ∈ wordsEmp, d.before args s = true := fun d hd => by
  have t : ∀ d ∈ wordsEmp, (d.onTables && d.keepsFace) = true := by decide +kernel
  exact RoadKit.mv hZ (hw d hd) (t d hd)
/-- the words of String.equals(Object) -/
abbrev wordsEq : List Jvm.Cond := [.code SEq.yN SEq.yB 3 (some .boolean), .initialized ST, .classLink ST 10 ST, .fieldLink ST 38 ST "COMPACT_STRINGS" "Z", .fieldLink ST 15 ST "coder" "B", .fieldLink ST 9 ST "value" "[B", .methodLink ST 541 LEq.yN, .static LEq.yN, .code LEq.yN LEq.yB 3 (some .boolean), .initialized "java/lang/StringLatin1"]
theorem tabEq_of {a : Array Value} {s : State} (h : ∀ w ∈ wordsEq, w.before a s = true) : SEq.tab.before a s = true := by
  have hl : LEq.tab.before a s = true := unparts (wk h (.code LEq.yN LEq.yB 3 (some .boolean))) (wks h (.initialized LEq.yN.cls :: LEq.site))
  have q := consq hl h
  exact unparts (wk q (.code SEq.yN SEq.yB 3 (some .boolean))) (wks q (.initialized SEq.yN.cls :: SEq.site))
theorem movedEq {Z s : State} {a0 args : Array Value} (hZ : Z.Warmed39 s.vm) (hw : ∀ d ∈ wordsEq, d.before a0 Z = true) : ∀ d ∈ wordsEq, d.before args s = true := fun d hd => by
  have t : ∀ d ∈ wordsEq, (d.onTables && d.keepsFace) = true := by decide +kernel
  exact RoadKit.mv hZ (hw d hd) (t d hd)
/-- the road's facts of a String, as the laws ask it -/
theorem txt_of {Z U : State} {a0 : Array Value} {kI : Nat} (wi : (Jvm.Cond.instantiable ST kI).before a0 Z = true) (al : Z.vm.Alike U.vm) {x t : Addr} {kb : ClassId} {cs : List Int32} {cd N2 : Int32} {vs : List Value} (E : RoadKit.Exa Z U.heap x ST) (V : RoadKit.Fld Z U.heap x ST "value" "[B" (.ref t)) (C : RoadKit.Fld Z U.heap x ST "coder" "B" (.int cd)) (K : RoadKit.Arv Z U.heap t kb .byte N2 vs (.int 0)) (hc : CodA cs cd N2 vs) (hb : ∀ c ∈ cs, ¬ c < 0 ∧ ¬ (65535 : Int32) < c) (l2 : cs.length ≤ 4000) :
    ∃ A, Txt x t A cd cs.length (fun j => cs.getD j 0) U := by
  obtain ⟨A, K1, K2, K3, K4, K5, K6⟩ := K
  have hcod := hc.cod (by omega) K3 K5
  obtain ⟨D, fV, fC, hB, F1, F2, g1, g2, -, -⟩ := strObj wi al E V C
  exact ⟨A, ⟨_, hB.2.2.1, D, hB.1, rfl, by cases q : D.vm <;> first | rfl | exact absurd q (hB.2.1.2 _)⟩, Has.of hB F1 g1, Has.of hB F2 g2, ⟨K1.1, State.isArrayOf_alike al K1.2.1, K1.2.2, by rcases hcod with ⟨-, q, -⟩ | ⟨-, q, -⟩ <;> omega⟩, hcod, fun j hj => by
    have e : cs.getD j 0 = cs[j] := by simp [List.getD_eq_getElem?_getD, hj]
    show ¬ cs.getD j 0 < 0 ∧ ¬ 65535 < cs.getD j 0
    rw [e]; exact hb _ (List.getElem_mem _)⟩
theorem same_list (cs ds : List Int32) : SameT cs.length (fun j => cs.getD j 0) ds.length (fun j => ds.getD j 0) ↔ cs = ds := by
  constructor
  · rintro ⟨e, q⟩
    refine List.ext_getElem e fun j h1 h2 => ?_
    have := q j h1
    simpa [List.getD_eq_getElem?_getD, h1, h2] using this
  · rintro rfl
    exact ⟨rfl, fun _ _ => rfl⟩
/-- **isEmpty() OF SUCH A STRING** -/
theorem empW {p : Program} {l : Launch} {e : Env} {R : Room} {s : State} {args : Array Value} {below : List Frame} {len W : Nat} {Z : State} {a0 : Array Value} {h : Heap} (hZ : Z.Warmed39 s.vm) (hw : ∀ d ∈ wordsEmp, d.before a0 Z = true) {kI : Nat} (wi : (Jvm.Cond.instantiable ST kI).before a0 Z = true)
    {x t : Addr} {kb : ClassId} {cs : List Int32} {cd N2 : Int32} {vs : List Value} (E : RoadKit.Exa Z h x ST) (V : RoadKit.Fld Z h x ST "value" "[B" (.ref t)) (C : RoadKit.Fld Z h x ST "coder" "B" (.int cd)) (K : RoadKit.Arv Z h t kb .byte N2 vs (.int 0)) (hc : CodA cs cd N2 vs) (hb : ∀ c ∈ cs, ¬ c < 0 ∧ ¬ (65535 : Int32) < c) (l2 : cs.length ≤ 4000) (hfr : 1 ≤ R.frames) (hlo : W + 12 ≤ R.locals) :
    Back l R p e below s args (⟨"java/lang/String", "isEmpty", "()Z"⟩ : MethodName) len W (fun P a => a = #[.ref x] ∧ P.U.heap = h ∧ P.cells + 0 ≤ R.cells ∧ P.slots + 0 ≤ R.slots)
      (fun P _ v B => ∃ L, (v = some (.int (if cs.length = 0 then 1 else 0)) ∧ L = [] ∧ B.U.heap = h) ∧ B.locs = P.locs ++ L ∧ B.cells = P.cells + 0 ∧ B.slots = P.slots + 0) := by
  intro m meth c P g ig mk a X hg hsize hdg hW hn hp'
  obtain ⟨rfl, rfl, r1, r2⟩ := hp'
  have al : Z.vm.Alike P.U.vm := hZ.alike.trans X.warmed.alike
  obtain ⟨A, hx⟩ := txt_of wi al E V C K hc hb l2
  obtain ⟨v, B, X', ⟨⟨hv, hh⟩, hl, hk, hs⟩, st⟩ := Emp.pays x t A cd cs.length (fun j => cs.getD j 0) (tabEmp_of (movedEmp hZ hw)) hfr hlo m meth c P g ig mk _ X hg hsize hdg hW hn ⟨r1, r2, rfl, hx⟩
  exact ⟨v, B, X', ⟨[], ⟨hv, rfl, hh⟩, hl, hk, hs⟩, st⟩
/-- **equals(Object) OF TWO SUCH STRINGS**: 1 just where the chars are the same -/
theorem eqW {p : Program} {l : Launch} {e : Env} {R : Room} {s : State} {args : Array Value} {below : List Frame} {len W : Nat} {Z : State} {a0 : Array Value} {h : Heap} (hZ : Z.Warmed39 s.vm) (hw : ∀ d ∈ wordsEq, d.before a0 Z = true) {kI : Nat} (wi : (Jvm.Cond.instantiable ST kI).before a0 Z = true)
    {x t : Addr} {kb : ClassId} {cs : List Int32} {cd N2 : Int32} {vs : List Value} (E : RoadKit.Exa Z h x ST) (V : RoadKit.Fld Z h x ST "value" "[B" (.ref t)) (C : RoadKit.Fld Z h x ST "coder" "B" (.int cd)) (K : RoadKit.Arv Z h t kb .byte N2 vs (.int 0)) (hc : CodA cs cd N2 vs) (hb : ∀ c ∈ cs, ¬ c < 0 ∧ ¬ (65535 : Int32) < c) (l2 : cs.length ≤ 4000)
    {y t' : Addr} {kb' : ClassId} {ds : List Int32} {cd' N2' : Int32} {vs' : List Value} (E' : RoadKit.Exa Z h y ST) (V' : RoadKit.Fld Z h y ST "value" "[B" (.ref t')) (C' : RoadKit.Fld Z h y ST "coder" "B" (.int cd')) (K' : RoadKit.Arv Z h t' kb' .byte N2' vs' (.int 0)) (hc' : CodA ds cd' N2' vs') (hb' : ∀ c ∈ ds, ¬ c < 0 ∧ ¬ (65535 : Int32) < c) (l2' : ds.length ≤ 4000)
    {z : Int32} (S : RoadKit.Sta Z h ST "COMPACT_STRINGS" "Z" (.int z)) (hz : ¬ z = 0) (hfr : 2 ≤ R.frames) (hlo : W + 28 ≤ R.locals) :
    Back l R p e below s args (⟨"java/lang/String", "equals", "(Ljava/lang/Object;)Z"⟩ : MethodName) len W (fun P a => a = #[.ref x, .ref y] ∧ P.U.heap = h ∧ P.cells + 0 ≤ R.cells ∧ P.slots + 0 ≤ R.slots)
      (fun P _ v B => ∃ L, (((v = some (.int 1) ∧ cs = ds) ∨ (v = some (.int 0) ∧ ¬ cs = ds)) ∧ L = [] ∧ B.U.heap = h) ∧ B.locs = P.locs ++ L ∧ B.cells = P.cells + 0 ∧ B.slots = P.slots + 0) := by
  intro m meth c P g ig mk a X hg hsize hdg hW hn hp'
  obtain ⟨rfl, rfl, r1, r2⟩ := hp'
  have al : Z.vm.Alike P.U.vm := hZ.alike.trans X.warmed.alike
  obtain ⟨A, hx⟩ := txt_of wi al E V C K hc hb l2
  obtain ⟨A', hy⟩ := txt_of wi al E' V' C' K' hc' hb' l2'
  obtain ⟨v, B, X', ⟨⟨w, hv, hh, hq⟩, hl, hk, hs⟩, st⟩ := SEq.pays x t A cd cs.length (fun j => cs.getD j 0) y t' A' cd' ds.length (fun j => ds.getD j 0) z (tabEq_of (movedEq hZ hw)) hfr hlo m meth c P g ig mk _ X hg hsize hdg hW hn ⟨r1, r2, rfl, hx, hy, sta_is al S, hz⟩
  refine ⟨v, B, X', ⟨[], ⟨?_, rfl, hh⟩, hl, hk, hs⟩, st⟩
  rcases hq with ⟨rfl, q⟩ | ⟨rfl, q⟩
  · exact Or.inl ⟨hv, (same_list cs ds).mp q⟩
  · exact Or.inr ⟨hv, fun e => q ((same_list cs ds).mpr e)⟩
end StrChars.Road
namespace StrChars
open Jvm Sem ClassFile Op Lib Jvm.Stand Jvm.Free.XT Jvm.Free.ALB Jvm.Free.JM Jvm.Free
open Jvm.Lib.Cold (StaticIs)
namespace ChN
def yN : MethodName := ⟨"java/lang/String", "charAt", "(I)C"⟩
abbrev yB : ByteArray := jdk_42_method_56_code
theorem d0 : decode yB 0 = .ok (.aload_n 0, 1) := by decide +kernel
theorem d1 : decode yB 1 = .ok (.invokevirtual 492, 3) := by decide +kernel
theorem d4 : decode yB 4 = .ok (.ifCond (.eq) 12, 3) := by decide +kernel
theorem d7 : decode yB 7 = .ok (.aload_n 0, 1) := by decide +kernel
theorem d8 : decode yB 8 = .ok (.getfield 9, 3) := by decide +kernel
theorem d11 : decode yB 11 = .ok (.iload_n 1, 1) := by decide +kernel
theorem d12 : decode yB 12 = .ok (.invokestatic 495, 3) := by decide +kernel
theorem d15 : decode yB 15 = .ok (.ireturn, 1) := by decide +kernel
def site : List Cond := [.fieldLink "java/lang/String" 9 "java/lang/String" "value" "[B", IsL.tab, LChA.tab] ++ virtW "java/lang/String" 492 "java/lang/String" IsL.yN IsL.yN ++ staticW "java/lang/String" 495 LChA.yN
def tab : Cond := tabOf yN yB 2 (some .char) site
def P (x t : Addr) (V : Cell) (n : Nat) (f : Nat → Int32) (z : Int32) (fm : Value) (i : Nat) (args : Array Value) (s : State) : Prop := args = #[.ref x, .int (Int32.ofNat i)] ∧ Txt x t V 0 n f s ∧ i < n ∧ StaticIs s "java/lang/String" "COMPACT_STRINGS" "Z" (.int z) ∧ ¬ z = 0 ∧ StaticIs s "jdk/internal/util/Preconditions" "SIOOBE_FORMATTER" "Ljava/util/function/BiFunction;" fm ∧ fm.isRef = true
def E (f : Nat → Int32) (i : Nat) (r : Option Value) (s u : State) : Prop := XT.PureE (some (.int (f i))) r s u
/-- charAt(i) of a Latin-1 String of n chars, i < n: f i -/
theorem law (l : Launch) (x t : Addr) (V : Cell) (n : Nat) (f : Nat → Int32) (z : Int32) (fm : Value) (i : Nat) : Law l yN 2 1 3 40 yB 2 (some .char) site (P x t V n f z fm i) (E f i) [] 0 0 := by
  refine Law.of_walk (plainFor_of_name (by decide +kernel)) (by decide +kernel) (by decide +kernel) (by decide) (fun _ _ h => by rw [h.1]; rfl) (fun _ U U' hal hh h => ⟨h.1, h.2.1.mv hal hh, h.2.2.1, h.2.2.2.1.there hal hh, h.2.2.2.2.1, h.2.2.2.2.2.1.there hal hh, h.2.2.2.2.2.2⟩) (fun r U U' V V' h1 hal h2 h => XT.PureE.mv r U U' V V' h1 hal h2 h) ?_
  intro p e s m args below meth c s₁ X0 hexec hbytes hml hret hlk hnm hown hh0 W hP
  obtain ⟨rfl, hx, hi, s1, hz, s3, rf⟩ := hP
  have v31 := hx.2.2.2.1.2.2.2
  have hr := hx.2.2.2.2.2 i hi
  have hx0 := hx.mv X0.warmed.alike hh0
  have c1 : Steps p.tables e below (s₁.setTop (entryFrame m #[.ref x, .int (Int32.ofNat i)] 2)) (s₁.setTop (mkF m 1 #[.val (.ref x), .val (.int (Int32.ofNat i))] [.ref x])) := Steps.trans (entry rfl) (by
    show Steps p.tables e below (s₁.setTop (mkF m 0 #[.val (.ref x), .val (.int (Int32.ofNat i))] [])) _
    refine XS.aloadN X0.here hexec rfl (hb hbytes d0) rfl rfl ?_
    exact Steps.refl _)
  obtain ⟨v2, T2, X2, E2, g2⟩ := X0.callV hexec (IsL.law l x 0 z) hown (wks W (virtW "java/lang/String" 492 "java/lang/String" IsL.yN IsL.yN)) rfl (by decide) (wk W IsL.tab) (W := 0) (Nat.le_of_ble_eq_true rfl) (Nat.le_of_ble_eq_true rfl) (Nat.le_refl _) (Nat.le_refl _) (hx0.1.fc X0.warmed.alike) hx0.1.is (g := (mkF m 1 #[.val (.ref x), .val (.int (Int32.ofNat i))] [.ref x])) rfl (by rw [hml]; rfl) c1 (argsL := []) (rest := []) rfl rfl (by show 2 * 0 + 0 ≤ _; decide) (hb hbytes d1) (⟨rfl, hx0.2.2.1, hx.2.2.2.2.1.cd, s1.there X0.warmed.alike hh0, hz⟩)
  obtain ⟨rfl, q2⟩ := E2
  have hh2 := q2.trans hh0
  have hx2 := hx.mv X2.warmed.alike hh2
  obtain ⟨-, k1, k2⟩ | ⟨k0, -⟩ := hx.2.2.2.2.1
  · have c3 : Steps p.tables e below (s₁.setTop (entryFrame m #[.ref x, .int (Int32.ofNat i)] 2)) (T2.setTop (mkF m 8 #[.val (.ref x), .val (.int (Int32.ofNat i))] [.ref x])) := Steps.trans g2 (by
      refine XS.ifNo X2.here hexec rfl (hb hbytes d4) rfl (i0_eq_f (by decide)) ?_
      refine XS.aloadN X2.here hexec rfl (hb hbytes d7) rfl rfl ?_
      exact Steps.refl _)
    obtain ⟨T4, X4, q4, st4⟩ := X2.hget hexec hown (wk W (.fieldLink "java/lang/String" 9 "java/lang/String" "value" "[B")) hx2.2.1 (g := (mkF m 8 #[.val (.ref x), .val (.int (Int32.ofNat i))] [.ref x])) rfl (rest := []) rfl (hb hbytes d8)
    have hh4 := q4.trans hh2
    have c5 : Steps p.tables e below (s₁.setTop (entryFrame m #[.ref x, .int (Int32.ofNat i)] 2)) (T4.setTop (mkF m 12 #[.val (.ref x), .val (.int (Int32.ofNat i))] [.int (Int32.ofNat i), .ref t])) := (c3.trans (st4 _ (Steps.refl _))).trans (by
      refine XS.iloadN X4.here hexec rfl (hb hbytes d11) rfl ?_
      exact Steps.refl _)
    obtain ⟨v6, T6, X6, E6, g6⟩ := X4.callS hexec (LChA.law l t V i (lo8 (f i)) fm) hown (wks W (staticW "java/lang/String" 495 LChA.yN)) (wk W LChA.tab) (W := 0) (Nat.le_of_ble_eq_true rfl) (Nat.le_of_ble_eq_true rfl) (Nat.le_refl _) (Nat.le_refl _) (g := (mkF m 12 #[.val (.ref x), .val (.int (Int32.ofNat i))] [.int (Int32.ofNat i), .ref t])) rfl (by rw [hml]; rfl) c5 (argsL := [.ref t, .int (Int32.ofNat i)]) (rest := []) rfl rfl (by show 2 * 0 + 0 ≤ _; decide) (hb hbytes d12) (⟨rfl, hx.2.2.2.1.mv X4.warmed.alike hh4, (k2 i hi).1, s3.there X4.warmed.alike hh4, rf⟩)
    obtain ⟨rfl, q6⟩ := E6
    rw [chr8_lo8 hr.1 (k2 i hi).2] at g6
    exact ⟨T6, some (.int (f i)), _, _, _, X6, rfl, rfl, rfl, (fun h => by cases h), ⟨rfl, q6.trans hh4⟩, fun fs hl => Steps.trans g6 (X6.ireturnOut hexec hret (narrow_ch hr.1 hr.2) (Or.inr (Or.inr (Or.inr (Or.inl rfl)))) (hb hbytes d15) hl)⟩
  · exact absurd k0 (by decide)
theorem pays {l : Launch} {R : Room} {p : Program} {e : Env} {below : List Frame} {s : State} {sargs : Array Value} {len W : Nat} (x t : Addr) (V : Cell) (n : Nat) (f : Nat → Int32) (z : Int32) (fm : Value) (i : Nat) (htab : tab.before sargs s = true) (hfr : 4 ≤ R.frames) (hlo : W + 53 ≤ R.locals) :
    Back l R p e below s sargs yN len W (fun A₁ a₁ => A₁.cells + 0 ≤ R.cells ∧ A₁.slots + 0 ≤ R.slots ∧ P x t V n f z fm i a₁ A₁.U) (fun A₁ _ v₁ B₁ => E f i v₁ A₁.U B₁.U ∧ B₁.locs = A₁.locs ++ [] ∧ B₁.cells = A₁.cells + 0 ∧ B₁.slots = A₁.slots + 0) :=
  (law l x t V n f z fm i).pays htab hfr (by omega)
end ChN
end StrChars
namespace StrChars.Road
open Jvm Sem ClassFile Op Lib Jvm.Stand Jvm.Free Jvm.Free.XT
open Jvm.Lib.Cold (StaticIs)
/-- the words of String.charAt(int), the Latin-1 road alone -/
abbrev wordsChN : List Jvm.Cond := [.code ChN.yN ChN.yB 2 (some .char), .initialized ST, .fieldLink ST 9 ST "value" "[B", .fieldLink ST 38 ST "COMPACT_STRINGS" "Z", .fieldLink ST 15 ST "coder" "B", .code IsL.yN IsL.yB 1 (some .boolean), .methodLink ST 492 IsL.yN, .declares IsL.yN, .selects ST IsL.yN IsL.yN, .instanceMethod IsL.yN,
  .methodLink ST 495 LChA.yN, .static LChA.yN, .code LChA.yN LChA.yB 2 (some .char), .initialized "java/lang/StringLatin1", .methodLink "java/lang/StringLatin1" 9 JO.Str_checkIndex.yN, .static JO.Str_checkIndex.yN, .code JO.Str_checkIndex.yN JO.Str_checkIndex.yB 2 none,
  .fieldLink ST 1053 "jdk/internal/util/Preconditions" "SIOOBE_FORMATTER" "Ljava/util/function/BiFunction;", .methodLink ST 1059 JC.PreCheck.yN, .static JC.PreCheck.yN, .code JC.PreCheck.yN JC.PreCheck.yB 3 (some .int), .initialized "jdk/internal/util/Preconditions"]
theorem tabChN_of {a : Array Value} {s : State} (h : ∀ w ∈ wordsChN, w.before a s = true) : ChN.tab.before a s = true := by
  have hp : JC.PreCheck.tab.before a s = true := unparts (wk h (.code JC.PreCheck.yN JC.PreCheck.yB 3 (some .int))) (wks h (.initialized JC.PreCheck.yN.cls :: JC.PreCheck.site))
  have qk := consq hp h
  have hk : JO.Str_checkIndex.tab.before a s = true := unparts (wk qk (.code JO.Str_checkIndex.yN JO.Str_checkIndex.yB 2 none)) (wks qk (.initialized JO.Str_checkIndex.yN.cls :: JO.Str_checkIndex.site))
  have ql := consq hk h
  have hl : LChA.tab.before a s = true := unparts (wk ql (.code LChA.yN LChA.yB 2 (some .char))) (wks ql (.initialized LChA.yN.cls :: LChA.site))
  have hi : IsL.tab.before a s = true := unparts (wk h (.code IsL.yN IsL.yB 1 (some .boolean))) (wks h (.initialized IsL.yN.cls :: IsL.site))
  have q := consq hi (consq hl h)
  exact unparts (wk q (.code ChN.yN ChN.yB 2 (some .char))) (wks q (.initialized ChN.yN.cls :: ChN.site))
theorem movedChN {Z s : State} {a0 args : Array Value} (hZ : Z.Warmed39 s.vm) (hw : ∀ d ∈ wordsChN, d.before a0 Z = true) : ∀ d ∈ wordsChN, d.before args s = true := fun d hd => by
  have t : ∀ d ∈ wordsChN, (d.onTables && d.keepsFace) = true := by decide +kernel
  exact RoadKit.mv hZ (hw d hd) (t d hd)
/-- **charAt(i) OF A LATIN-1 STRING**, i < n: the char -/
theorem chN {p : Program} {l : Launch} {e : Env} {R : Room} {s : State} {args : Array Value} {below : List Frame} {len W : Nat} {Z : State} {a0 : Array Value} {h : Heap} (hZ : Z.Warmed39 s.vm) (hw : ∀ d ∈ wordsChN, d.before a0 Z = true) {kI : Nat} (wi : (Jvm.Cond.instantiable ST kI).before a0 Z = true)
    {x t : Addr} {kb : ClassId} {cs : List Int32} {N2 z : Int32} {vs : List Value} {fm : Value} {i : Nat} {j : Int32} (E : RoadKit.Exa Z h x ST) (V : RoadKit.Fld Z h x ST "value" "[B" (.ref t)) (C : RoadKit.Fld Z h x ST "coder" "B" (.int 0)) (K : RoadKit.Arv Z h t kb .byte N2 vs (.int 0)) (hc : CodA cs 0 N2 vs) (hb : ∀ c ∈ cs, ¬ c < 0 ∧ ¬ (65535 : Int32) < c)
    (S : RoadKit.Sta Z h ST "COMPACT_STRINGS" "Z" (.int z)) (hz : ¬ z = 0) (F : RoadKit.Sta Z h "jdk/internal/util/Preconditions" "SIOOBE_FORMATTER" "Ljava/util/function/BiFunction;" fm) (rf : fm.isRef = true) (l2 : cs.length ≤ 4000) (hi : i < cs.length) (hj : j = Int32.ofNat i) (hfr : 4 ≤ R.frames) (hlo : W + 53 ≤ R.locals) :
    Back l R p e below s args (⟨"java/lang/String", "charAt", "(I)C"⟩ : MethodName) len W (fun P a => a = #[.ref x, .int j] ∧ P.U.heap = h ∧ P.cells + 0 ≤ R.cells ∧ P.slots + 0 ≤ R.slots)
      (fun P _ v B => ∃ L, (v = some (.int (cs.getD i 0)) ∧ L = [] ∧ B.U.heap = h) ∧ B.locs = P.locs ++ L ∧ B.cells = P.cells + 0 ∧ B.slots = P.slots + 0) := by
  subst hj
  intro m meth c P g ig mk a X hg hsize hdg hW hn hp'
  obtain ⟨rfl, rfl, r1, r2⟩ := hp'
  have al : Z.vm.Alike P.U.vm := hZ.alike.trans X.warmed.alike
  obtain ⟨A, hx⟩ := txt_of wi al E V C K hc hb l2
  obtain ⟨v, B, X', ⟨⟨hv, hh⟩, hl, hk, hs⟩, st⟩ := ChN.pays x t A cs.length (fun j => cs.getD j 0) z fm i (tabChN_of (movedChN hZ hw)) hfr hlo m meth c P g ig mk _ X hg hsize hdg hW hn ⟨r1, r2, rfl, hx, hi, sta_is al S, hz, sta_is al F, rf⟩
  exact ⟨v, B, X', ⟨[], ⟨hv, rfl, hh⟩, hl, hk, hs⟩, st⟩
/-- what backV says of its String, as the contracts of this text ask it: cs's low bytes, coder 0 -/
theorem codOf {cs : List Int32} {n : Nat} (hn : cs.length = n) (hb : ∀ c ∈ cs, ¬ 255 < c) : CodA cs 0 (Int32.ofNat n) ((cs.map lo8).map Value.int) := Or.inl ⟨rfl, by rw [hn], by simp [List.map_map, Function.comp_def], hb⟩
end StrChars.Road
end Jvm.Pilot.@@N@@
namespace Jvm.Pilot.@@N@@
open Jvm Jvm.ClassFile Sem Op Lib Jvm.Free Jvm.Stand Jvm.LawKit Jvm.RoadKit Bundle Jvm.OwnK Jvm.Pilot.@@N@@.Jvm.D
abbrev STN : String := "java/lang/String"
/-- a String that spells the chars cs -/
def Str (Z : State) (h : Heap) (a : Addr) (cs : List Int32) : Prop := ∃ (b : Addr) (kb : ClassId) (cd N2 : Int32) (vs : List Value), Exa Z h a STN ∧ Fld Z h a STN "value" "[B" (.ref b) ∧ Fld Z h a STN "coder" "B" (.int cd) ∧ Arv Z h b kb .byte N2 vs (.int 0) ∧ StrChars.Road.CodA cs cd N2 vs ∧ (∀ c ∈ cs, ¬ c < 0 ∧ ¬ (65535 : Int32) < c) ∧ cs.length ≤ 4000
theorem Str.ext {Z : State} {h h' : Heap} {a : Addr} {cs : List Int32} (F : Str Z h a cs) (E : Ext h h') : Str Z h' a cs := by
  obtain ⟨b, kb, cd, N2, vs, f1, f2, f3, f4, r⟩ := F
  exact ⟨b, kb, cd, N2, vs, f1.ext E, f2.ext E, f3.ext E, f4.ext E, r⟩
theorem Str.exa {Z : State} {h : Heap} {a : Addr} {cs : List Int32} (F : Str Z h a cs) : Exa Z h a STN := by obtain ⟨b, kb, cd, N2, vs, f1, -⟩ := F; exact f1
theorem Str.lt {Z : State} {h : Heap} {a : Addr} {cs : List Int32} (F : Str Z h a cs) : a < h.size := F.exa.lt
theorem le16 {cs : List Int32} (h : ∀ c ∈ cs, ¬ c < 0 ∧ ¬ (255 : Int32) < c) : ∀ c ∈ cs, ¬ c < 0 ∧ ¬ (65535 : Int32) < c := fun c hc => ⟨(h c hc).1, fun q => (h c hc).2 (Int32.lt_trans (by decide) q)⟩
theorem and255 (x : Int32) : ¬ (x &&& 255) < 0 ∧ ¬ (255 : Int32) < (x &&& 255) := by
  have h := c_and x 255 (by decide)
  have e : (255 : Int32).toInt = 255 := by decide
  have e0 : (0 : Int32).toInt = 0 := by decide
  rw [Int32.lt_iff_toInt_lt, Int32.lt_iff_toInt_lt, e, e0]; omega
def okT (c : Int32) : Prop := c.toNatClampNeg = 45 ∨ (48 ≤ c.toNatClampNeg ∧ c.toNatClampNeg < 58) ∨ (97 ≤ c.toNatClampNeg ∧ c.toNatClampNeg < 123)
def okI (c : Int32) : Prop := c.toNatClampNeg = 45 ∨ c.toNatClampNeg = 46 ∨ (48 ≤ c.toNatClampNeg ∧ c.toNatClampNeg < 59) ∨ (65 ≤ c.toNatClampNeg ∧ c.toNatClampNeg < 91) ∨ c.toNatClampNeg = 95 ∨ (97 ≤ c.toNatClampNeg ∧ c.toNatClampNeg < 123)
instance (c : Int32) : Decidable (okT c) := by unfold okT; infer_instance
instance (c : Int32) : Decidable (okI c) := by unfold okI; infer_instance
theorem okT_I {c : Int32} (h : okT c) : okI c := by unfold okT at h; unfold okI; omega
theorem okI_r {c : Int32} (h : okI c) : (¬ c < 0 ∧ ¬ (255 : Int32) < c) ∧ c < 128 ∧ ¬ c = 37 := by
  have e : (c.toNatClampNeg : Int) = max c.toInt 0 := by show ((c.toInt.toNat : Nat) : Int) = _; omega
  have e1 : (255 : Int32).toInt = 255 := by decide
  have e0 : (0 : Int32).toInt = 0 := by decide
  have e2 : (128 : Int32).toInt = 128 := by decide
  have e3 : (37 : Int32).toInt = 37 := by decide
  unfold okI at h
  refine ⟨⟨?_, ?_⟩, ?_, fun q => ?_⟩
  · rw [Int32.lt_iff_toInt_lt, e0]; omega
  · rw [Int32.lt_iff_toInt_lt, e1]; omega
  · rw [Int32.lt_iff_toInt_lt, e2]; omega
  · rw [q] at e h; rw [e3] at e; omega
def Rule (Z : State) (h : Heap) (r : Addr) (mx rf : Int32) (P : Int32 → Prop) : Prop := ∃ (al : Addr) (kc : ClassId) (vs : List Value), Exa Z h r "com/example/kredential/kredential/NameRule" ∧ Fld Z h r "com/example/kredential/kredential/NameRule" "maxLength" "I" (.int mx) ∧ Fld Z h r "com/example/kredential/kredential/NameRule" "refusesDotSegments" "Z" (.int rf) ∧ Fld Z h r "com/example/kredential/kredential/NameRule" "allowed" "[Z" (.ref al) ∧ Arv Z h al kc .boolean 128 vs (.int 0) ∧ ∀ c : Int32, P c → vs.getD c.toNatClampNeg (.int 0) = .int 1
theorem Rule.ext {Z : State} {h h' : Heap} {r : Addr} {mx rf : Int32} {P : Int32 → Prop} (F : Rule Z h r mx rf P) (E : Ext h h') : Rule Z h' r mx rf P := by
  obtain ⟨al, kc, vs, f1, f2, f3, f4, f5, f6⟩ := F
  exact ⟨al, kc, vs, f1.ext E, f2.ext E, f3.ext E, f4.ext E, f5.ext E, f6⟩
theorem Rule.exa {Z : State} {h : Heap} {r : Addr} {mx rf : Int32} {P : Int32 → Prop} (F : Rule Z h r mx rf P) : Exa Z h r "com/example/kredential/kredential/NameRule" := by obtain ⟨al, kc, vs, f1, -⟩ := F; exact f1
theorem mem_getD {P : Int32 → Prop} {cs : List Int32} (h : ∀ c ∈ cs, P c) {i : Nat} (hi : i < cs.length) : P (cs.getD i 0) := by
  rw [List.getD_eq_getElem?_getD, List.getElem?_eq_getElem hi]; exact h _ (List.getElem_mem hi)
def Rules (Z : State) : Prop := ∃ rt ri rp : Addr, Sta Z Z.heap "com/example/kredential/kredential/Resource" "TYPE" "Lcom/example/kredential/kredential/NameRule;" (.ref rt) ∧ Sta Z Z.heap "com/example/kredential/kredential/Resource" "ID" "Lcom/example/kredential/kredential/NameRule;" (.ref ri) ∧ Sta Z Z.heap "com/example/kredential/kredential/Participant" "ID" "Lcom/example/kredential/kredential/NameRule;" (.ref rp) ∧ Rule Z Z.heap rt 64 0 okT ∧ Rule Z Z.heap ri 128 1 okI ∧ Rule Z Z.heap rp 128 1 okI
def Nm (P : Int32 → Prop) (cs : List Int32) : Prop := (∀ c ∈ cs, P c) ∧ 0 < cs.length ∧ cs.length ≤ 2
def NmI (cs : List Int32) : Prop := Nm okI cs ∧ ¬ cs = [46] ∧ ¬ cs = [46, 46]
def TYL : List Int32 := [97, 98, 99, 100, 101, 102, 103, 104, 105, 106, 107, 108, 109, 110, 111, 112, 113, 114, 115, 116, 117, 118, 119, 120, 121, 122, 48, 49, 50, 51, 52, 53, 54, 55, 56, 57, 45]
theorem cod_TYL : StrChars.Road.CodA TYL 0 37 [.int 97, .int 98, .int 99, .int 100, .int 101, .int 102, .int 103, .int 104, .int 105, .int 106, .int 107, .int 108, .int 109, .int 110, .int 111, .int 112, .int 113, .int 114, .int 115, .int 116, .int 117, .int 118, .int 119, .int 120, .int 121, .int 122, .int 48, .int 49, .int 50, .int 51, .int 52, .int 53, .int 54, .int 55, .int 56, .int 57, .int 45] := Or.inl ⟨rfl, rfl, rfl, by decide⟩
theorem all_TYL : ∀ c ∈ TYL, ¬ c < 0 ∧ ¬ (255 : Int32) < c := by decide
def IFL : List Int32 := [65, 66, 67, 68, 69, 70, 71, 72, 73, 74, 75, 76, 77, 78, 79, 80, 81, 82, 83, 84, 85, 86, 87, 88, 89, 90, 97, 98, 99, 100, 101, 102, 103, 104, 105, 106, 107, 108, 109, 110, 111, 112, 113, 114, 115, 116, 117, 118, 119, 120, 121, 122, 48, 49, 50, 51, 52, 53, 54, 55, 56, 57, 95, 45, 58]
theorem cod_IFL : StrChars.Road.CodA IFL 0 65 [.int 65, .int 66, .int 67, .int 68, .int 69, .int 70, .int 71, .int 72, .int 73, .int 74, .int 75, .int 76, .int 77, .int 78, .int 79, .int 80, .int 81, .int 82, .int 83, .int 84, .int 85, .int 86, .int 87, .int 88, .int 89, .int 90, .int 97, .int 98, .int 99, .int 100, .int 101, .int 102, .int 103, .int 104, .int 105, .int 106, .int 107, .int 108, .int 109, .int 110, .int 111, .int 112, .int 113, .int 114, .int 115, .int 116, .int 117, .int 118, .int 119, .int 120, .int 121, .int 122, .int 48, .int 49, .int 50, .int 51, .int 52, .int 53, .int 54, .int 55, .int 56, .int 57, .int 95, .int 45, .int 58] := Or.inl ⟨rfl, rfl, rfl, by decide⟩
theorem all_IFL : ∀ c ∈ IFL, ¬ c < 0 ∧ ¬ (255 : Int32) < c := by decide
def ISL : List Int32 := [65, 66, 67, 68, 69, 70, 71, 72, 73, 74, 75, 76, 77, 78, 79, 80, 81, 82, 83, 84, 85, 86, 87, 88, 89, 90, 97, 98, 99, 100, 101, 102, 103, 104, 105, 106, 107, 108, 109, 110, 111, 112, 113, 114, 115, 116, 117, 118, 119, 120, 121, 122, 48, 49, 50, 51, 52, 53, 54, 55, 56, 57, 95, 45, 58, 46]
theorem cod_ISL : StrChars.Road.CodA ISL 0 66 [.int 65, .int 66, .int 67, .int 68, .int 69, .int 70, .int 71, .int 72, .int 73, .int 74, .int 75, .int 76, .int 77, .int 78, .int 79, .int 80, .int 81, .int 82, .int 83, .int 84, .int 85, .int 86, .int 87, .int 88, .int 89, .int 90, .int 97, .int 98, .int 99, .int 100, .int 101, .int 102, .int 103, .int 104, .int 105, .int 106, .int 107, .int 108, .int 109, .int 110, .int 111, .int 112, .int 113, .int 114, .int 115, .int 116, .int 117, .int 118, .int 119, .int 120, .int 121, .int 122, .int 48, .int 49, .int 50, .int 51, .int 52, .int 53, .int 54, .int 55, .int 56, .int 57, .int 95, .int 45, .int 58, .int 46] := Or.inl ⟨rfl, rfl, rfl, by decide⟩
theorem all_ISL : ∀ c ∈ ISL, ¬ c < 0 ∧ ¬ (255 : Int32) < c := by decide
def EL1 : List (String × Nat) := [("com/example/kredential/kredential/NameRule", 73), ("com/example/kredential/kredential/NameRule", 79), ("com/example/kredential/kredential/ResourceEqualsPinLaw", 21), ("com/example/kredential/kredential/ResourceEqualsPinLaw", 23), ("com/example/kredential/kredential/ResourceEqualsPinLaw", 25)]
def Env1 (Z : State) (a0 : Array Value) : Prop := (∀ d ∈ tables_1, d.before a0 Z = true) ∧ EW Z a0 EL1 ∧ (∃ z : Int32, Sta Z Z.heap "java/lang/String" "COMPACT_STRINGS" "Z" (.int z) ∧ ¬ z = 0) ∧ ((∃ fm : Value, Sta Z Z.heap "jdk/internal/util/Preconditions" "SIOOBE_FORMATTER" "Ljava/util/function/BiFunction;" fm ∧ fm.isRef = true) ∧ Rules Z)
theorem wd {Z : State} {a0 : Array Value} (G : Env1 Z a0) (i : Nat) {d : Jvm.Cond} (h : tables_1[i]? = some d) : d.before a0 Z = true := G.1 d (List.mem_of_getElem? h)
theorem wS_in : ∀ a ∈ Bundle.stringAtoms, a ∈ tables_1 := by decide +kernel
theorem wS {Z : State} {a0 : Array Value} (G : Env1 Z a0) : ∀ a ∈ Bundle.stringAtoms, a.before a0 Z = true := fun a ha => G.1 a (wS_in a ha)
theorem wBackV : ∀ d ∈ StrChars.Road.words, d ∈ tables_1 := by decide +kernel
theorem pays_str {l : Launch} {R : Room} {Z : State} {a0 : Array Value} {sf : List Addr} {W : Nat} (G : Env1 Z a0) {x b : Addr} {kc : ClassId} (cs : List Int32) {d v0 c0 : Value} {N : Int32} (n : Nat) (h : Heap) (E : Exa Z h x STN) (V : Fld Z h x STN "value" "[B" v0) (C : Fld Z h x STN "coder" "B" c0) (K : Arv Z h b kc .char N (cs.map Value.int) d)
    (hn : cs.length = n) (hN : N = Int32.ofNat n) (l0 : 0 < n) (l2 : n ≤ 4000) (hp : ∀ c ∈ cs, ¬ c < 0 ∧ ¬ (255 : Int32) < c) (hsf : x ∈ sf) (hfr : 4 ≤ R.frames) (hlo : W + 65 ≤ R.locals) :
    Pays l R Z a0 EL1 sf (⟨"java/lang/String", "<init>", "([C)V"⟩ : MethodName) 3 W #[.ref x, .ref b] h 1 n (fun v h' => v = none ∧ Keep h h' [x] ∧ Str Z h' x cs) := by
  obtain ⟨z, hS, hz⟩ := G.2.2.1
  refine Pays.of_back (ws := [x]) (fun p e below s args hZ hE hsz => StrChars.Road.backV (n0 := Z.heap.size) (bs := cs.map (fun c => c.toInt8.toInt32)) hZ (fun d hd => G.1 d (wBackV d hd)) (kI := 4) (wd G 2 rfl) (hsz x hsf) hE.1 E V C K (hS.ext hE) hz hn hN l0 l2 hp rfl hfr hlo) (allS hsf all0) ?_
  intro v h' L hE q
  obtain ⟨q1, q2, q3, q4, q5, t, kb, -, -, -, q6, q7⟩ := q
  refine ⟨q2, q3, q1, q3, t, kb, 0, N, _, q4, q6, q5, q7, ?_, le16 hp, by omega⟩
  subst hN
  exact StrChars.Road.codOf hn (fun c hc => (hp c hc).2)
theorem wLen : ∀ d ∈ StrChars.Road.wordsLen, d ∈ tables_1 := by decide +kernel
theorem pays_len {l : Launch} {R : Room} {Z : State} {a0 : Array Value} {sf : List Addr} {W : Nat} (G : Env1 Z a0) {x : Addr} {cs : List Int32} (h : Heap) (F : Str Z h x cs) (hfr : 2 ≤ R.frames) (hlo : W + 25 ≤ R.locals) :
    Pays l R Z a0 EL1 sf (⟨"java/lang/String", "length", "()I"⟩ : MethodName) 3 W #[.ref x] h 0 0 (fun v h' => v = some (.int (Int32.ofNat cs.length)) ∧ h = h') := by
  obtain ⟨z, hS, hz⟩ := G.2.2.1
  obtain ⟨b, kb, cd, N2, vs, f1, f2, f3, f4, f5, f6, f7⟩ := F
  refine Pays.of_back (ws := []) (QL := fun v h' L => v = some (.int (Int32.ofNat cs.length)) ∧ L = [] ∧ h' = h) (fun p e below s args hZ hE hsz => StrChars.Road.lenW hZ (fun d hd => G.1 d (wLen d hd)) (kI := 4) (wd G 2 rfl) f1 f2 f3 f4 f5 f6 (hS.ext hE) hz f7 hfr hlo) all0 ?_
  intro v h' L hE q
  obtain ⟨q1, q2, q3⟩ := q
  subst q2 q3
  exact ⟨Fr.nil _, Keep.refl _ _, q1, rfl⟩
theorem wChr : ∀ d ∈ StrChars.Road.wordsChN, d ∈ tables_1 := by decide +kernel
theorem Str.cd0 {cs : List Int32} {cd N2 : Int32} {vs : List Value} (h : StrChars.Road.CodA cs cd N2 vs) (hl : ∀ c ∈ cs, ¬ (255 : Int32) < c) : cd = 0 := by
  rcases h with h | ⟨-, -, -, c, hc, q⟩
  · exact h.1
  · exact absurd q (hl c hc)
theorem pays_chr {l : Launch} {R : Room} {Z : State} {a0 : Array Value} {sf : List Addr} {W : Nat} (G : Env1 Z a0) {x : Addr} {cs : List Int32} (h : Heap) (i : Nat) {j : Int32} (F : Str Z h x cs) (hl : ∀ c ∈ cs, ¬ (255 : Int32) < c) (hi : i < cs.length) (hj : j = Int32.ofNat i) (hfr : 4 ≤ R.frames) (hlo : W + 53 ≤ R.locals) :
    Pays l R Z a0 EL1 sf (⟨"java/lang/String", "charAt", "(I)C"⟩ : MethodName) 3 W #[.ref x, .int j] h 0 0 (fun v h' => v = some (.int (cs.getD i 0)) ∧ h = h') := by
  obtain ⟨z, hS, hz⟩ := G.2.2.1
  obtain ⟨fm, hF, rf⟩ := G.2.2.2.1
  obtain ⟨b, kb, cd, N2, vs, f1, f2, f3, f4, f5, f6, f7⟩ := F
  obtain rfl : cd = 0 := Str.cd0 f5 hl
  refine Pays.of_back (ws := []) (QL := fun v h' L => v = some (.int (cs.getD i 0)) ∧ L = [] ∧ h' = h) (fun p e below s args hZ hE hsz => StrChars.Road.chN hZ (fun d hd => G.1 d (wChr d hd)) (kI := 4) (wd G 2 rfl) f1 f2 f3 f4 f5 f6 (hS.ext hE) hz (hF.ext hE) rf f7 hi hj hfr hlo) all0 ?_
  intro v h' L hE q
  obtain ⟨q1, q2, q3⟩ := q
  subst q2 q3
  exact ⟨Fr.nil _, Keep.refl _ _, q1, rfl⟩
theorem wEq : ∀ d ∈ StrChars.Road.wordsEq, d ∈ tables_1 := by decide +kernel
theorem pays_eq {l : Launch} {R : Room} {Z : State} {a0 : Array Value} {sf : List Addr} {W : Nat} (G : Env1 Z a0) {x y : Addr} {cs ds : List Int32} (h : Heap) (F : Str Z h x cs) (F' : Str Z h y ds) (hfr : 2 ≤ R.frames) (hlo : W + 28 ≤ R.locals) :
    Pays l R Z a0 EL1 sf (⟨"java/lang/String", "equals", "(Ljava/lang/Object;)Z"⟩ : MethodName) 3 W #[.ref x, .ref y] h 0 0 (fun v h' => v = some (.int (if cs = ds then 1 else 0)) ∧ h = h') := by
  obtain ⟨z, hS, hz⟩ := G.2.2.1
  obtain ⟨b, kb, cd, N2, vs, f1, f2, f3, f4, f5, f6, f7⟩ := F
  obtain ⟨b', kb', cd', N2', vs', f1', f2', f3', f4', f5', f6', f7'⟩ := F'
  refine Pays.of_back (ws := []) (QL := fun v h' L => ((v = some (.int 1) ∧ cs = ds) ∨ (v = some (.int 0) ∧ ¬ cs = ds)) ∧ L = [] ∧ h' = h) (fun p e below s args hZ hE hsz => StrChars.Road.eqW hZ (fun d hd => G.1 d (wEq d hd)) (kI := 4) (wd G 2 rfl) f1 f2 f3 f4 f5 f6 f7 f1' f2' f3' f4' f5' f6' f7' (hS.ext hE) hz hfr hlo) all0 ?_
  intro v h' L hE q
  obtain ⟨q1, q2, q3⟩ := q
  subst q2 q3
  refine ⟨Fr.nil _, Keep.refl _ _, ?_, rfl⟩
  rcases q1 with ⟨q1, e⟩ | ⟨q1, e⟩
  · rw [q1, if_pos e]
  · rw [q1, if_neg e]
theorem pays_eqT {l : Launch} {R : Room} {Z : State} {a0 : Array Value} {sf : List Addr} {W : Nat} (G : Env1 Z a0) {x y : Addr} {cs ds : List Int32} (h : Heap) (F : Str Z h x cs) (F' : Str Z h y ds) (e : cs = ds) (hfr : 2 ≤ R.frames) (hlo : W + 28 ≤ R.locals) :
    Pays l R Z a0 EL1 sf (⟨"java/lang/String", "equals", "(Ljava/lang/Object;)Z"⟩ : MethodName) 3 W #[.ref x, .ref y] h 0 0 (fun v h' => v = some (.int 1) ∧ h = h') :=
  (pays_eq G h F F' hfr hlo).post fun v h' q => ⟨by rw [q.1, if_pos e], q.2⟩
theorem pays_eqF {l : Launch} {R : Room} {Z : State} {a0 : Array Value} {sf : List Addr} {W : Nat} (G : Env1 Z a0) {x y : Addr} {cs ds : List Int32} (h : Heap) (F : Str Z h x cs) (F' : Str Z h y ds) (e : ¬ cs = ds) (hfr : 2 ≤ R.frames) (hlo : W + 28 ≤ R.locals) :
    Pays l R Z a0 EL1 sf (⟨"java/lang/String", "equals", "(Ljava/lang/Object;)Z"⟩ : MethodName) 3 W #[.ref x, .ref y] h 0 0 (fun v h' => v = some (.int 0) ∧ h = h') :=
  (pays_eq G h F F' hfr hlo).post fun v h' q => ⟨by rw [q.1, if_neg e], q.2⟩
theorem wEmp : ∀ d ∈ StrChars.Road.wordsEmp, d ∈ tables_1 := by decide +kernel
theorem pays_emp {l : Launch} {R : Room} {Z : State} {a0 : Array Value} {sf : List Addr} {W : Nat} (G : Env1 Z a0) {x : Addr} {cs : List Int32} (h : Heap) (F : Str Z h x cs) (hfr : 1 ≤ R.frames) (hlo : W + 12 ≤ R.locals) :
    Pays l R Z a0 EL1 sf (⟨"java/lang/String", "isEmpty", "()Z"⟩ : MethodName) 3 W #[.ref x] h 0 0 (fun v h' => v = some (.int (if cs.length = 0 then 1 else 0)) ∧ h = h') := by
  obtain ⟨b, kb, cd, N2, vs, f1, f2, f3, f4, f5, f6, f7⟩ := F
  refine Pays.of_back (ws := []) (QL := fun v h' L => v = some (.int (if cs.length = 0 then 1 else 0)) ∧ L = [] ∧ h' = h) (fun p e below s args hZ hE hsz => StrChars.Road.empW hZ (fun d hd => G.1 d (wEmp d hd)) (kI := 4) (wd G 2 rfl) f1 f2 f3 f4 f5 f6 f7 hfr hlo) all0 ?_
  intro v h' L hE q
  obtain ⟨q1, q2, q3⟩ := q
  subst q2 q3
  exact ⟨Fr.nil _, Keep.refl _ _, q1, rfl⟩
theorem narrow_obj (C : String) (v : Value) : narrow (.object C) v = v := by cases v <;> rfl
theorem fits_obj {C : String} {v : Value} (h : v.isRef = true) : fits (.object C) v = true := by cases v <;> simp_all [Value.isRef, fits]
theorem narrow_bool {r : Int32} (h : r = 0 ∨ r = 1) : narrow .boolean (.int r) = .int r := by rcases h with rfl | rfl <;> rfl
theorem fits_bool {r : Int32} (h : r = 0 ∨ r = 1) : fits .boolean (.int r) = true := by rcases h with rfl | rfl <;> rfl
theorem and3 (x : Int32) : (x &&& 3) = 0 ∨ (x &&& 3) = 1 ∨ (x &&& 3) = 2 ∨ (x &&& 3) = 3 := by
  have h := c_and x 3 (by decide)
  have e : (3 : Int32).toInt = 3 := by decide
  rw [e] at h
  obtain ⟨i, hi, q⟩ := toInt_cases (n := 4) h.1 (by omega) (by decide)
  rw [q]
  match i, hi with
  | 0, _ => decide
  | 1, _ => decide
  | 2, _ => decide
  | 3, _ => decide
theorem and1 (x : Int32) : (x &&& 1) = 0 ∨ (x &&& 1) = 1 := and_one x
theorem mask31 (x : Int32) : 0 ≤ (x &&& 2147483647).toInt := (c_and x 2147483647 (by decide)).1
theorem rem3 (x : Int32) : ((x &&& 2147483647) % 3) = 0 ∨ ((x &&& 2147483647) % 3) = 1 ∨ ((x &&& 2147483647) % 3) = 2 := by
  have h := (c_iremV (x &&& 2147483647) 3).1 (mask31 x) (by decide)
  have e : (3 : Int32).toInt = 3 := by decide
  rw [e] at h
  obtain ⟨i, hi, q⟩ := toInt_cases (n := 3) h.1 (by omega) (by decide)
  rw [q]
  match i, hi with
  | 0, _ => decide
  | 1, _ => decide
  | 2, _ => decide
theorem nar255 {u : Int32} (h : ¬ u < 0 ∧ ¬ (255 : Int32) < u) : nar .char u = u := by
  have q := c_i2c u
  refine Int32.toInt_inj.mp ?_
  rw [Int32.lt_iff_toInt_lt, Int32.lt_iff_toInt_lt] at h
  have e : (255 : Int32).toInt = 255 := by decide
  have e0 : (0 : Int32).toInt = 0 := by decide
  rw [e, e0] at h
  show u.toUInt32.toUInt16.toUInt32.toInt32.toInt = u.toInt
  omega
def xk0 (x : Int32) : Int32 := ((x.toUInt32 >>> ((1 : Int32) &&& 31).toUInt32).toInt32 &&& (65535 : Int32))
def xk1 (x : Int32) : Int32 := (x.toUInt32 >>> ((17 : Int32) &&& 31).toUInt32).toInt32
theorem xk0_rem (x : Int32) (m : Nat) (hm : 0 < m) (hm' : m ≤ 1000) : ∃ k : Nat, k < m ∧ xk0 x % Int32.ofNat m = Int32.ofNat k := by
  have h2 := c_iremV (xk0 x) (Int32.ofNat m)
  have e := n32i (i := m) (by omega)
  have h3 := h2.1 (c_and _ _ (by decide)).1 (by rw [e]; omega)
  exact toInt_cases h3.1 (by rw [e] at h3; exact h3.2.1) hm'
theorem xk1_rem (x : Int32) (m : Nat) (hm : 0 < m) (hm' : m ≤ 1000) : ∃ k : Nat, k < m ∧ xk1 x % Int32.ofNat m = Int32.ofNat k := rem_ushr x 17 17 m (by decide) (by decide) hm hm'
theorem n32mod {k n : Nat} (h : k < n) (hn : n ≤ 1000) : Int32.ofNat (k + 1) % Int32.ofNat n = Int32.ofNat ((k + 1) % n) := by
  have h2 := (c_iremV (Int32.ofNat (k + 1)) (Int32.ofNat n)).1 (by rw [n32i (by omega)]; omega) (by rw [n32i (by omega)]; omega)
  rw [n32i (by omega), n32i (by omega)] at h2
  refine Int32.toInt_inj.mp ?_
  have hlt := Nat.mod_lt (k + 1) (show n > 0 by omega)
  rw [n32i (i := (k + 1) % n) (by omega)]
  by_cases q : k + 1 < n
  · rw [Nat.mod_eq_of_lt q]; exact h2.2.2.2.1 (by omega)
  · have : k + 1 = n := by omega
    rw [this, Nat.mod_self, ← this]
    have := h2.2.2.2.2 (by omega) (by omega)
    rw [‹k + 1 = n›] at this ⊢
    rw [this]; omega
theorem n32ne0 {n : Nat} (h : 0 < n) (hn : n ≤ 1000) : Int32.ofNat n ≠ 0 := fun q => by have := n32eq (j := 0) (by omega) (by decide) q; omega
def fldL (fs ss : List Int32) (b : Int32) (k0 k1 : Nat) (d m : Int32) : List Int32 :=
  if d = 0 then (if b = 0 then [fs.getD k0 0] else [fs.getD k0 0, ss.getD k1 0])
  else if m = 0 then (if b = 0 then [fs.getD ((k0 + 1) % fs.length) 0] else [fs.getD ((k0 + 1) % fs.length) 0, ss.getD k1 0])
  else (if b = 0 then [fs.getD k0 0, ss.getD k1 0] else [fs.getD k0 0])
theorem fld_mem {fs ss : List Int32} {b : Int32} {k0 k1 : Nat} {d m : Int32} {P : Int32 → Prop} (hf : ∀ c ∈ fs, P c) (hs : ∀ c ∈ ss, P c) (h0 : k0 < fs.length) (h1 : k1 < ss.length) : Nm P (fldL fs ss b k0 k1 d m) := by
  have a0 := mem_getD hf h0
  have a1 := mem_getD hs h1
  have a2 := mem_getD hf (Nat.mod_lt (k0 + 1) (show fs.length > 0 by omega))
  unfold fldL Nm
  split <;> split <;> try split
  all_goals
    refine ⟨fun c hc => ?_, by simp, by simp⟩
    simp only [List.mem_cons, List.not_mem_nil, or_false] at hc
    first
      | (rcases hc with rfl | rfl <;> assumption)
      | (subst hc; assumption)
theorem fld_head {fs ss : List Int32} {b : Int32} {k0 k1 : Nat} {d m : Int32} (hf : ∀ c ∈ fs, ¬ c = 46) (h0 : k0 < fs.length) : ¬ fldL fs ss b k0 k1 d m = [46] ∧ ¬ fldL fs ss b k0 k1 d m = [46, 46] := by
  have a0 := mem_getD hf h0
  have a2 := mem_getD hf (Nat.mod_lt (k0 + 1) (show fs.length > 0 by omega))
  unfold fldL
  split <;> split <;> try split
  all_goals
    refine ⟨fun q => ?_, fun q => ?_⟩ <;> first | (injection q with q1 q2; first | exact a0 q1 | exact a2 q1) | (injection q with q1 q2; injection q2)
theorem fld_ne {fs ss : List Int32} {b : Int32} {k0 k1 : Nat} {d m : Int32} (hb : b = 0 ∨ b = 1) (hd : ¬ d = 0) (hf : ∀ k, k < fs.length → ¬ fs.getD k 0 = fs.getD ((k + 1) % fs.length) 0) (h0 : k0 < fs.length) : ¬ fldL fs ss b k0 k1 0 0 = fldL fs ss b k0 k1 d m := by
  have a0 := hf k0 h0
  rw [List.getD_eq_getElem?_getD, List.getD_eq_getElem?_getD] at a0
  unfold fldL
  rw [if_pos rfl, if_neg hd]
  rcases hb with rfl | rfl <;> by_cases hm : m = 0 <;> simp [hm, a0]
theorem fld_eq {fs ss : List Int32} {b : Int32} {k0 k1 : Nat} {d m : Int32} (hd : d = 0) : fldL fs ss b k0 k1 0 0 = fldL fs ss b k0 k1 d m := by
  unfold fldL; rw [if_pos rfl, if_pos hd]
theorem nx_TYL : ∀ k, k < TYL.length → ¬ TYL.getD k 0 = TYL.getD ((k + 1) % TYL.length) 0 := by decide +kernel
theorem nx_IFL : ∀ k, k < IFL.length → ¬ IFL.getD k 0 = IFL.getD ((k + 1) % IFL.length) 0 := by decide +kernel
theorem t_TYL : ∀ c ∈ TYL, okT c := by decide
theorem i_IFL : ∀ c ∈ IFL, okI c := by decide
theorem i_ISL : ∀ c ∈ ISL, okI c := by decide
theorem d_IFL : ∀ c ∈ IFL, ¬ c = 46 := by decide
theorem d17_53 : decode prog_15_method_5_code 53 = .ok (.iload_n 2, 1) := by decide +kernel
theorem d17_54 : decode prog_15_method_5_code 54 = .ok (.aload_n 1, 1) := by decide +kernel
theorem d17_55 : decode prog_15_method_5_code 55 = .ok (.invokevirtual 69, 3) := by decide +kernel
theorem pd_0 : parseMethodDescriptor "()I" = some ⟨[], some .int⟩ := by decide +kernel
theorem d17_58 : decode prog_15_method_5_code 58 = .ok (.if_icmp .ge 74, 3) := by decide +kernel
theorem d17_132 : decode prog_15_method_5_code 132 = .ok (.iconst 1, 1) := by decide +kernel
theorem d17_133 : decode prog_15_method_5_code 133 = .ok (.ireturn, 1) := by decide +kernel
theorem d17_61 : decode prog_15_method_5_code 61 = .ok (.aload_n 1, 1) := by decide +kernel
theorem d17_62 : decode prog_15_method_5_code 62 = .ok (.iload_n 2, 1) := by decide +kernel
theorem d17_63 : decode prog_15_method_5_code 63 = .ok (.invokevirtual 81, 3) := by decide +kernel
theorem pd_1 : parseMethodDescriptor "(I)C" = some ⟨[.int], some .char⟩ := by decide +kernel
theorem d17_66 : decode prog_15_method_5_code 66 = .ok (.istore_n 3, 1) := by decide +kernel
theorem d17_67 : decode prog_15_method_5_code 67 = .ok (.iload_n 3, 1) := by decide +kernel
theorem d17_68 : decode prog_15_method_5_code 68 = .ok (.bipush 37, 2) := by decide +kernel
theorem d17_70 : decode prog_15_method_5_code 70 = .ok (.if_icmp .ne 36, 3) := by decide +kernel
theorem d17_106 : decode prog_15_method_5_code 106 = .ok (.iload_n 3, 1) := by decide +kernel
theorem d17_107 : decode prog_15_method_5_code 107 = .ok (.aload_n 0, 1) := by decide +kernel
theorem d17_108 : decode prog_15_method_5_code 108 = .ok (.getfield 12, 3) := by decide +kernel
theorem d17_111 : decode prog_15_method_5_code 111 = .ok (.arraylength, 1) := by decide +kernel
theorem d17_112 : decode prog_15_method_5_code 112 = .ok (.if_icmp .ge 12, 3) := by decide +kernel
theorem d17_115 : decode prog_15_method_5_code 115 = .ok (.aload_n 0, 1) := by decide +kernel
theorem d17_116 : decode prog_15_method_5_code 116 = .ok (.getfield 12, 3) := by decide +kernel
theorem d17_119 : decode prog_15_method_5_code 119 = .ok (.iload_n 3, 1) := by decide +kernel
theorem d17_120 : decode prog_15_method_5_code 120 = .ok (.baload, 1) := by decide +kernel
theorem d17_121 : decode prog_15_method_5_code 121 = .ok (.ifCond .ne 5, 3) := by decide +kernel
theorem d17_126 : decode prog_15_method_5_code 126 = .ok (.iinc 2 1, 3) := by decide +kernel
theorem d17_129 : decode prog_15_method_5_code 129 = .ok (.goto (-76), 3) := by decide +kernel
set_option maxRecDepth 65536 in
set_option maxHeartbeats 4000000 in
theorem lp_acc {l : Launch} {Z : State} {a0 : Array Value} (G : Env1 Z a0) (nr a al : Addr) (kc : ClassId) (vs : List Value) (cs : List Int32) (h0 h : Heap) (E0 : Ext h0 h) (F : Str Z h a cs) (Fa : Fld Z h nr "com/example/kredential/kredential/NameRule" "allowed" "[Z" (.ref al)) (K : Arv Z h al kc .boolean 128 vs (.int 0)) (hk : ∀ c ∈ cs, okI c ∧ vs.getD c.toNatClampNeg (.int 0) = .int 1) (hl : cs.length ≤ 2) (d : Nat) : ∀ (i : Nat) (sl : Slot), (sl = .unset ∨ ∃ v : Int32, sl = .val (.int v)) → i + d = cs.length →
    Seg l Z a0 EL1 (⟨"com/example/kredential/kredential/NameRule", "accepts", "(Ljava/lang/String;)Z"⟩ : MethodName) prog_15_method_5_code 4 (some .boolean) ({ frames := 4, cells := 4, slots := 20, locals := 60 } : Room) (fun v h => v = some (.int 1) ∧ Ext h0 h) h 4 20 [] 53 #[.val (.ref nr), .val (.ref a), .val (.int (Int32.ofNat i)), sl] [] := by
  induction d with
  | zero =>
    intro i sl hsl hd
    have f1 := F.exa
    refine Seg.iloadN d17_53 rfl (pc' := 54) rfl ?_
    refine Seg.aloadN d17_54 rfl rfl (pc' := 55) rfl ?_
    refine Seg.callV (y' := (⟨"java/lang/String", "length", "()I"⟩ : MethodName)) (z := (⟨"java/lang/String", "length", "()I"⟩ : MethodName)) (a := a) (wd G 95 rfl) (wd G 16 rfl) (nf_sel (wd G 18 rfl)) (wd G 18 rfl) (wd G 17 rfl) ⟨by decide, by decide⟩ f1 (pays_len (W := 1) G h F (by decide) (by decide)) (argsL := []) (rest := [(.int (Int32.ofNat i))]) rfl (lenOf pd_0 rfl) rfl (Nat.le_of_eq rfl) rfl d17_55 (pc' := 58) rfl (k' := 4) (n' := 20) rfl rfl (by decide) (by decide) ?_
    intro v_1 h_4 sz_2 q_3
    obtain ⟨rfl, rfl⟩ := q_3
    refine Seg.icY (pc' := 132) d17_58 (XT.ii_ge_t (n32nlt (by omega) (by omega))) (by decide) (by decide) ?_
    refine Seg.iconst (v := 1) d17_132 (by decide) (pc' := 133) rfl ?_
    exact Seg.retN (t := .boolean) (w := (1 : Int32)) rfl (by decide) (by decide) d17_133 (by decide) (by decide) ⟨rfl, E0⟩
  | succ d ih =>
    intro i sl hsl hd
    have hi : i < cs.length := by omega
    have f1 := F.exa
    refine Seg.iloadN d17_53 rfl (pc' := 54) rfl ?_
    refine Seg.aloadN d17_54 rfl rfl (pc' := 55) rfl ?_
    refine Seg.callV (y' := (⟨"java/lang/String", "length", "()I"⟩ : MethodName)) (z := (⟨"java/lang/String", "length", "()I"⟩ : MethodName)) (a := a) (wd G 95 rfl) (wd G 16 rfl) (nf_sel (wd G 18 rfl)) (wd G 18 rfl) (wd G 17 rfl) ⟨by decide, by decide⟩ f1 (pays_len (W := 1) G h F (by decide) (by decide)) (argsL := []) (rest := [(.int (Int32.ofNat i))]) rfl (lenOf pd_0 rfl) rfl (Nat.le_of_eq rfl) rfl d17_55 (pc' := 58) rfl (k' := 4) (n' := 20) rfl rfl (by decide) (by decide) ?_
    intro v_1 h_4 sz_2 q_3
    obtain ⟨rfl, rfl⟩ := q_3
    refine Seg.icN d17_58 (XT.ii_ge_f (n32lt hi (by omega))) (pc' := 61) rfl ?_
    refine Seg.aloadN d17_61 rfl rfl (pc' := 62) rfl ?_
    refine Seg.iloadN d17_62 rfl (pc' := 63) rfl ?_
    refine Seg.callV (y' := (⟨"java/lang/String", "charAt", "(I)C"⟩ : MethodName)) (z := (⟨"java/lang/String", "charAt", "(I)C"⟩ : MethodName)) (a := a) (wd G 100 rfl) (wd G 29 rfl) (nf_sel (wd G 31 rfl)) (wd G 31 rfl) (wd G 30 rfl) ⟨by decide, by decide⟩ f1 (pays_chr (W := 0) G h i F (fun c q => (okI_r (hk c q).1).1.2) hi rfl (by decide) (by decide)) (argsL := [(.int (Int32.ofNat i))]) (rest := []) rfl (lenOf pd_1 rfl) rfl (Nat.le_of_eq rfl) rfl d17_63 (pc' := 66) rfl (k' := 4) (n' := 20) rfl rfl (by decide) (by decide) ?_
    intro v_5 h_8 sz_6 q_7
    obtain ⟨rfl, rfl⟩ := q_7
    refine Seg.istoreN (L' := #[.val (.ref nr), .val (.ref a), .val (.int (Int32.ofNat i)), .val (.int (cs.getD i 0))]) d17_66 (by rcases hsl with rfl | ⟨_, rfl⟩ <;> rfl) (pc' := 67) rfl ?_
    refine Seg.iloadN d17_67 rfl (pc' := 68) rfl ?_
    refine Seg.bipush (v := 37) d17_68 (by decide) (pc' := 70) rfl ?_
    have hq := mem_getD hk hi
    have hr := okI_r hq.1
    refine Seg.icY (pc' := 106) d17_70 (XT.ii_ne_t hr.2.2) (by decide) (by decide) ?_
    refine Seg.iloadN d17_106 rfl (pc' := 107) rfl ?_
    refine Seg.aloadN d17_107 rfl rfl (pc' := 108) rfl ?_
    refine Seg.getF (host := "") (Or.inl (wd G 101 rfl)) Via.refl Fa d17_108 (pc' := 111) rfl ?_
    refine Seg.alen K d17_111 (pc' := 112) rfl ?_
    refine Seg.icN d17_112 (XT.ii_ge_f hr.2.1) (pc' := 115) rfl ?_
    refine Seg.aloadN d17_115 rfl rfl (pc' := 116) rfl ?_
    refine Seg.getF (host := "") (Or.inl (wd G 101 rfl)) Via.refl Fa d17_116 (pc' := 119) rfl ?_
    refine Seg.iloadN d17_119 rfl (pc' := 120) rfl ?_
    refine Seg.baloadZ (v := (.int (1 : Int32))) K ⟨hr.1.1, hr.2.1⟩ hq.2 d17_120 (pc' := 121) rfl ?_
    refine Seg.ifY (pc' := 126) d17_121 (by decide) (by decide) (by decide) ?_
    refine Seg.iinc (v := 1) (z := (Int32.ofNat (i + 1))) (L' := #[.val (.ref nr), .val (.ref a), .val (.int (Int32.ofNat (i + 1))), .val (.int (cs.getD i 0))]) d17_126 (by decide) rfl (n32s i) rfl (pc' := 129) rfl ?_
    refine Seg.goto (pc' := 53) d17_129 (by decide) (by decide) ?_
    exact ih (i + 1) _ (Or.inr ⟨_, rfl⟩) (by omega)
theorem d17_0 : decode prog_15_method_5_code 0 = .ok (.aload_n 1, 1) := by decide +kernel
theorem d17_1 : decode prog_15_method_5_code 1 = .ok (.ifnull 21, 3) := by decide +kernel
theorem d17_4 : decode prog_15_method_5_code 4 = .ok (.aload_n 1, 1) := by decide +kernel
theorem d17_5 : decode prog_15_method_5_code 5 = .ok (.invokevirtual 66, 3) := by decide +kernel
theorem pd_2 : parseMethodDescriptor "()Z" = some ⟨[], some .boolean⟩ := by decide +kernel
theorem d17_8 : decode prog_15_method_5_code 8 = .ok (.ifCond .ne 14, 3) := by decide +kernel
theorem d17_11 : decode prog_15_method_5_code 11 = .ok (.aload_n 1, 1) := by decide +kernel
theorem d17_12 : decode prog_15_method_5_code 12 = .ok (.invokevirtual 69, 3) := by decide +kernel
theorem d17_15 : decode prog_15_method_5_code 15 = .ok (.aload_n 0, 1) := by decide +kernel
theorem d17_16 : decode prog_15_method_5_code 16 = .ok (.getfield 42, 3) := by decide +kernel
theorem d17_19 : decode prog_15_method_5_code 19 = .ok (.if_icmp .le 5, 3) := by decide +kernel
theorem d17_24 : decode prog_15_method_5_code 24 = .ok (.aload_n 0, 1) := by decide +kernel
theorem d17_25 : decode prog_15_method_5_code 25 = .ok (.getfield 46, 3) := by decide +kernel
theorem d17_28 : decode prog_15_method_5_code 28 = .ok (.ifCond .eq 23, 3) := by decide +kernel
theorem d17_51 : decode prog_15_method_5_code 51 = .ok (.iconst 0, 1) := by decide +kernel
theorem d17_52 : decode prog_15_method_5_code 52 = .ok (.istore_n 2, 1) := by decide +kernel
theorem pn_com_example_kredential_kredential_NameRule : plainName "com/example/kredential/kredential/NameRule" = true := by first | (simp [plainName, overriddenIn]; done) | decide +kernel
theorem ef_ct_acc0 (nr : Addr) (a : Addr) (cs : List Int32) (m : MethodId) : entryFrame m #[(.ref nr), (.ref a)] 4 = mkF m 0 #[.val (.ref nr), .val (.ref a), .unset, .unset] [] := by first | (simp [entryFrame, mkF, argsToLocals, Value.category]; done) | rfl
set_option maxRecDepth 65536 in
set_option maxHeartbeats 4000000 in
theorem ct_acc0 {l : Launch} {Z : State} {a0 : Array Value} (G : Env1 Z a0) (nr : Addr) (a : Addr) (cs : List Int32) (h0 : Heap) (R : Rule Z h0 nr 64 0 okT) (F : Str Z h0 a cs) (hn : Nm okT cs) :
    Ct l Z EL1 [] [] (⟨"com/example/kredential/kredential/NameRule", "accepts", "(Ljava/lang/String;)Z"⟩ : MethodName) prog_15_method_5_code 4 (some .boolean) ({ frames := 4, cells := 4, slots := 20, locals := 60 } : Room) #[(.ref nr), (.ref a)] h0 (fun v h => v = some (.int 1) ∧ Ext h0 h) := by
  refine Ct.of_seg (a0 := a0) (plainFor_of_name pn_com_example_kredential_kredential_NameRule) G.2.1 (ef_ct_acc0 nr a cs) ?_
  obtain ⟨al, kc, vs, g1, g2, g3, g4, g5, g6⟩ := R
  have f1 := F.exa
  have hl := hn.2.2
  have hl0 := hn.2.1
  refine Seg.aloadN d17_0 rfl rfl (pc' := 1) rfl ?_
  refine Seg.nullN d17_1 (pc' := 4) rfl ?_
  refine Seg.aloadN d17_4 rfl rfl (pc' := 5) rfl ?_
  refine Seg.callV (y' := (⟨"java/lang/String", "isEmpty", "()Z"⟩ : MethodName)) (z := (⟨"java/lang/String", "isEmpty", "()Z"⟩ : MethodName)) (a := a) (wd G 90 rfl) (wd G 91 rfl) (nf_sel (wd G 93 rfl)) (wd G 93 rfl) (wd G 92 rfl) ⟨by decide, by decide⟩ f1 ((pays_emp (W := 0) G h0 F (by decide) (by decide)).post (Q' := fun v h' => v = some (.int 0) ∧ h0 = h') fun v h' q => ⟨by rw [q.1, if_neg (by omega)], q.2⟩) (argsL := []) (rest := []) rfl (lenOf pd_2 rfl) rfl (Nat.le_of_eq rfl) rfl d17_5 (pc' := 8) rfl (k' := 0) (n' := 0) rfl rfl (by decide) (by decide) ?_
  intro v_1 h_4 sz_2 q_3
  obtain ⟨rfl, rfl⟩ := q_3
  refine Seg.ifN d17_8 (by decide) (pc' := 11) rfl ?_
  refine Seg.aloadN d17_11 rfl rfl (pc' := 12) rfl ?_
  refine Seg.callV (y' := (⟨"java/lang/String", "length", "()I"⟩ : MethodName)) (z := (⟨"java/lang/String", "length", "()I"⟩ : MethodName)) (a := a) (wd G 95 rfl) (wd G 16 rfl) (nf_sel (wd G 18 rfl)) (wd G 18 rfl) (wd G 17 rfl) ⟨by decide, by decide⟩ f1 (pays_len (W := 0) G h0 F (by decide) (by decide)) (argsL := []) (rest := []) rfl (lenOf pd_0 rfl) rfl (Nat.le_of_eq rfl) rfl d17_12 (pc' := 15) rfl (k' := 0) (n' := 0) rfl rfl (by decide) (by decide) ?_
  intro v_5 h_8 sz_6 q_7
  obtain ⟨rfl, rfl⟩ := q_7
  refine Seg.aloadN d17_15 rfl rfl (pc' := 16) rfl ?_
  refine Seg.getF (host := "") (Or.inl (wd G 96 rfl)) Via.refl g2 d17_16 (pc' := 19) rfl ?_
  refine Seg.icY (pc' := 24) d17_19 (XT.ii_le_t (n32nlt (i := 64) (by omega) (by decide))) (by decide) (by decide) ?_
  refine Seg.aloadN d17_24 rfl rfl (pc' := 25) rfl ?_
  refine Seg.getF (host := "") (Or.inl (wd G 98 rfl)) Via.refl g3 d17_25 (pc' := 28) rfl ?_
  refine Seg.ifY (pc' := 51) d17_28 (by decide) (by decide) (by decide) ?_
  refine Seg.iconst (v := 0) d17_51 (by decide) (pc' := 52) rfl ?_
  refine Seg.istoreN (L' := #[.val (.ref nr), .val (.ref a), .val (.int (0 : Int32)), .unset]) d17_52 rfl (pc' := 53) rfl ?_
  exact (lp_acc G nr a al kc vs cs h0 h0 (ext_rfl _) F g4 g5 (fun c q => ⟨okT_I (hn.1 c q), g6 c (hn.1 c q)⟩) hl cs.length 0 _ (Or.inl rfl) (by omega)).mono (by decide) (by decide) all0
theorem d17_31 : decode prog_15_method_5_code 31 = .ok (.aload_n 1, 1) := by decide +kernel
theorem d17_32 : decode prog_15_method_5_code 32 = .ok (.ldc 73, 2) := by decide +kernel
theorem d17_34 : decode prog_15_method_5_code 34 = .ok (.invokevirtual 75, 3) := by decide +kernel
theorem pd_3 : parseMethodDescriptor "(Ljava/lang/Object;)Z" = some ⟨[(.object "java/lang/Object")], some .boolean⟩ := by decide +kernel
theorem d17_37 : decode prog_15_method_5_code 37 = .ok (.ifCond .ne 12, 3) := by decide +kernel
theorem d17_40 : decode prog_15_method_5_code 40 = .ok (.aload_n 1, 1) := by decide +kernel
theorem d17_41 : decode prog_15_method_5_code 41 = .ok (.ldc 79, 2) := by decide +kernel
theorem d17_43 : decode prog_15_method_5_code 43 = .ok (.invokevirtual 75, 3) := by decide +kernel
theorem d17_46 : decode prog_15_method_5_code 46 = .ok (.ifCond .eq 5, 3) := by decide +kernel
theorem ef_ct_acc1 (nr : Addr) (a : Addr) (cs : List Int32) (m : MethodId) : entryFrame m #[(.ref nr), (.ref a)] 4 = mkF m 0 #[.val (.ref nr), .val (.ref a), .unset, .unset] [] := by first | (simp [entryFrame, mkF, argsToLocals, Value.category]; done) | rfl
set_option maxRecDepth 65536 in
set_option maxHeartbeats 4000000 in
theorem ct_acc1 {l : Launch} {Z : State} {a0 : Array Value} (G : Env1 Z a0) (nr : Addr) (a : Addr) (cs : List Int32) (h0 : Heap) (R : Rule Z h0 nr 128 1 okI) (F : Str Z h0 a cs) (hn : NmI cs) :
    Ct l Z EL1 [] [] (⟨"com/example/kredential/kredential/NameRule", "accepts", "(Ljava/lang/String;)Z"⟩ : MethodName) prog_15_method_5_code 4 (some .boolean) ({ frames := 4, cells := 4, slots := 20, locals := 60 } : Room) #[(.ref nr), (.ref a)] h0 (fun v h => v = some (.int 1) ∧ Ext h0 h) := by
  refine Ct.of_seg (a0 := a0) (plainFor_of_name pn_com_example_kredential_kredential_NameRule) G.2.1 (ef_ct_acc1 nr a cs) ?_
  obtain ⟨al, kc, vs, g1, g2, g3, g4, g5, g6⟩ := R
  have f1 := F.exa
  have hl := hn.1.2.2
  have hl0 := hn.1.2.1
  refine Seg.aloadN d17_0 rfl rfl (pc' := 1) rfl ?_
  refine Seg.nullN d17_1 (pc' := 4) rfl ?_
  refine Seg.aloadN d17_4 rfl rfl (pc' := 5) rfl ?_
  refine Seg.callV (y' := (⟨"java/lang/String", "isEmpty", "()Z"⟩ : MethodName)) (z := (⟨"java/lang/String", "isEmpty", "()Z"⟩ : MethodName)) (a := a) (wd G 90 rfl) (wd G 91 rfl) (nf_sel (wd G 93 rfl)) (wd G 93 rfl) (wd G 92 rfl) ⟨by decide, by decide⟩ f1 ((pays_emp (W := 0) G h0 F (by decide) (by decide)).post (Q' := fun v h' => v = some (.int 0) ∧ h0 = h') fun v h' q => ⟨by rw [q.1, if_neg (by omega)], q.2⟩) (argsL := []) (rest := []) rfl (lenOf pd_2 rfl) rfl (Nat.le_of_eq rfl) rfl d17_5 (pc' := 8) rfl (k' := 0) (n' := 0) rfl rfl (by decide) (by decide) ?_
  intro v_1 h_4 sz_2 q_3
  obtain ⟨rfl, rfl⟩ := q_3
  refine Seg.ifN d17_8 (by decide) (pc' := 11) rfl ?_
  refine Seg.aloadN d17_11 rfl rfl (pc' := 12) rfl ?_
  refine Seg.callV (y' := (⟨"java/lang/String", "length", "()I"⟩ : MethodName)) (z := (⟨"java/lang/String", "length", "()I"⟩ : MethodName)) (a := a) (wd G 95 rfl) (wd G 16 rfl) (nf_sel (wd G 18 rfl)) (wd G 18 rfl) (wd G 17 rfl) ⟨by decide, by decide⟩ f1 (pays_len (W := 0) G h0 F (by decide) (by decide)) (argsL := []) (rest := []) rfl (lenOf pd_0 rfl) rfl (Nat.le_of_eq rfl) rfl d17_12 (pc' := 15) rfl (k' := 0) (n' := 0) rfl rfl (by decide) (by decide) ?_
  intro v_5 h_8 sz_6 q_7
  obtain ⟨rfl, rfl⟩ := q_7
  refine Seg.aloadN d17_15 rfl rfl (pc' := 16) rfl ?_
  refine Seg.getF (host := "") (Or.inl (wd G 96 rfl)) Via.refl g2 d17_16 (pc' := 19) rfl ?_
  refine Seg.icY (pc' := 24) d17_19 (XT.ii_le_t (n32nlt (i := 128) (by omega) (by decide))) (by decide) (by decide) ?_
  refine Seg.aloadN d17_24 rfl rfl (pc' := 25) rfl ?_
  refine Seg.getF (host := "") (Or.inl (wd G 98 rfl)) Via.refl g3 d17_25 (pc' := 28) rfl ?_
  refine Seg.ifN d17_28 (by decide) (pc' := 31) rfl ?_
  refine Seg.aloadN d17_31 rfl rfl (pc' := 32) rfl ?_
  refine Seg.ldcS (text := ".") (vs := [(.int 46)]) (z := 1) (nn := 4) (wd G 108 rfl) (wS G) (by decide) (by decide +kernel) (by decide) (by decide) d17_32 (pc' := 34) rfl (by decide) (by decide) (k' := 2) (n' := 8) rfl rfl (by decide) (by decide) ?_
  intro a_9 h_18 b_10 kb_11 E_12 A_13 F_14 F_15 A_16 ne_17
  have F_l4 : Str Z h_18 a_9 [46] := ⟨b_10, kb_11, 0, 1, _, A_13, F_15, F_14, A_16, (Or.inl ⟨rfl, rfl, rfl, by decide⟩), le16 (by decide), (by decide)⟩
  have F_19 := F.ext E_12
  have F_20 := f1.ext E_12
  refine Seg.callV (y' := (⟨"java/lang/String", "equals", "(Ljava/lang/Object;)Z"⟩ : MethodName)) (z := (⟨"java/lang/String", "equals", "(Ljava/lang/Object;)Z"⟩ : MethodName)) (a := a) (wd G 109 rfl) (wd G 110 rfl) (nf_sel (wd G 112 rfl)) (wd G 112 rfl) (wd G 111 rfl) ⟨by decide, by decide⟩ F_20 (pays_eqF (W := 0) G h_18 F_19 F_l4 hn.2.1 (by decide) (by decide)) (argsL := [(.ref a_9)]) (rest := []) rfl (lenOf pd_3 rfl) rfl (Nat.le_of_eq rfl) rfl d17_34 (pc' := 37) rfl (k' := 2) (n' := 8) rfl rfl (by decide) (by decide) ?_
  intro v_21 h_24 sz_22 q_23
  obtain ⟨rfl, rfl⟩ := q_23
  refine Seg.ifN d17_37 (by decide) (pc' := 40) rfl ?_
  refine Seg.aloadN d17_40 rfl rfl (pc' := 41) rfl ?_
  refine Seg.ldcS (text := "..") (vs := [(.int 46), (.int 46)]) (z := 2) (nn := 8) (wd G 118 rfl) (wS G) (by decide) (by decide +kernel) (by decide) (by decide) d17_41 (pc' := 43) rfl (by decide) (by decide) (k' := 4) (n' := 20) rfl rfl (by decide) (by decide) ?_
  intro a_25 h_34 b_26 kb_27 E_28 A_29 F_30 F_31 A_32 ne_33
  have F_l8 : Str Z h_34 a_25 [46, 46] := ⟨b_26, kb_27, 0, 2, _, A_29, F_31, F_30, A_32, (Or.inl ⟨rfl, rfl, rfl, by decide⟩), le16 (by decide), (by decide)⟩
  have F_35 := F_19.ext E_28
  have F_36 := F_20.ext E_28
  refine Seg.callV (y' := (⟨"java/lang/String", "equals", "(Ljava/lang/Object;)Z"⟩ : MethodName)) (z := (⟨"java/lang/String", "equals", "(Ljava/lang/Object;)Z"⟩ : MethodName)) (a := a) (wd G 109 rfl) (wd G 110 rfl) (nf_sel (wd G 112 rfl)) (wd G 112 rfl) (wd G 111 rfl) ⟨by decide, by decide⟩ F_36 (pays_eqF (W := 0) G h_34 F_35 F_l8 hn.2.2 (by decide) (by decide)) (argsL := [(.ref a_25)]) (rest := []) rfl (lenOf pd_3 rfl) rfl (Nat.le_of_eq rfl) rfl d17_43 (pc' := 46) rfl (k' := 4) (n' := 20) rfl rfl (by decide) (by decide) ?_
  intro v_37 h_40 sz_38 q_39
  obtain ⟨rfl, rfl⟩ := q_39
  refine Seg.ifY (pc' := 51) d17_46 (by decide) (by decide) (by decide) ?_
  refine Seg.iconst (v := 0) d17_51 (by decide) (pc' := 52) rfl ?_
  refine Seg.istoreN (L' := #[.val (.ref nr), .val (.ref a), .val (.int (0 : Int32)), .unset]) d17_52 rfl (pc' := 53) rfl ?_
  have E_41 : Ext h0 h_34 := ext_tr E_12 E_28
  have F_42 := g4.ext E_41
  have F_43 := g5.ext E_41
  exact (lp_acc G nr a al kc vs cs h0 h_34 E_41 F_35 F_42 F_43 (fun c q => ⟨hn.1.1 c q, g6 c (hn.1.1 c q)⟩) hl cs.length 0 _ (Or.inl rfl) (by omega)).mono (by decide) (by decide) all0
theorem d16_0 : decode prog_25_method_2_code 0 = .ok (.getstatic 41, 3) := by decide +kernel
theorem d16_3 : decode prog_25_method_2_code 3 = .ok (.aload_n 0, 1) := by decide +kernel
theorem d16_4 : decode prog_25_method_2_code 4 = .ok (.invokevirtual 45, 3) := by decide +kernel
theorem pd_4 : parseMethodDescriptor "(Ljava/lang/String;)Z" = some ⟨[(.object "java/lang/String")], some .boolean⟩ := by decide +kernel
theorem d16_7 : decode prog_25_method_2_code 7 = .ok (.ireturn, 1) := by decide +kernel
theorem pn_com_example_kredential_kredential_Resource : plainName "com/example/kredential/kredential/Resource" = true := by first | (simp [plainName, overriddenIn]; done) | decide +kernel
theorem ef_ct_vt (nr : Addr) (a : Addr) (cs : List Int32) (m : MethodId) : entryFrame m #[(.ref a)] 1 = mkF m 0 #[.val (.ref a)] [] := by first | (simp [entryFrame, mkF, argsToLocals, Value.category]; done) | rfl
set_option maxRecDepth 65536 in
set_option maxHeartbeats 4000000 in
theorem ct_vt {l : Launch} {Z : State} {a0 : Array Value} (G : Env1 Z a0) (nr : Addr) (a : Addr) (cs : List Int32) (h0 : Heap) (S : Sta Z Z.heap "com/example/kredential/kredential/Resource" "TYPE" "Lcom/example/kredential/kredential/NameRule;" (.ref nr)) (R : Rule Z Z.heap nr 64 0 okT) (F : Str Z h0 a cs) (hn : Nm okT cs) :
    Ct l Z EL1 [] [] (⟨"com/example/kredential/kredential/Resource", "isValidType", "(Ljava/lang/String;)Z"⟩ : MethodName) prog_25_method_2_code 1 (some .boolean) ({ frames := 5, cells := 4, slots := 20, locals := 75 } : Room) #[(.ref a)] h0 (fun v h => v = some (.int 1) ∧ Ext h0 h) := by
  refine Ct.of_seg (a0 := a0) (plainFor_of_name pn_com_example_kredential_kredential_Resource) G.2.1 (ef_ct_vt nr a cs) ?_
  refine Seg.start fun hZ0 => ?_
  have R1 := R.ext hZ0
  have Rx := R1.exa
  refine Seg.getS (wd G 82 rfl) Via.refl S d16_0 (pc' := 3) rfl ?_
  refine Seg.aloadN d16_3 rfl rfl (pc' := 4) rfl ?_
  refine Seg.callV (y' := (⟨"com/example/kredential/kredential/NameRule", "accepts", "(Ljava/lang/String;)Z"⟩ : MethodName)) (z := (⟨"com/example/kredential/kredential/NameRule", "accepts", "(Ljava/lang/String;)Z"⟩ : MethodName)) (a := nr) (wd G 84 rfl) (wd G 85 rfl) (nf_sel (wd G 87 rfl)) (wd G 87 rfl) (wd G 86 rfl) ⟨by decide, by decide⟩ Rx (Pays.of_ct (W := 0) (ct_acc0 G nr a cs h0 R1 F hn) all0 (wd G 89 rfl) (wd G 88 rfl) (by decide) (by decide) rfl rfl) (argsL := [(.ref a)]) (rest := []) rfl (lenOf pd_4 rfl) rfl (Nat.le_of_eq rfl) rfl d16_4 (pc' := 7) rfl (k' := 4) (n' := 20) rfl rfl (by decide) (by decide) ?_
  intro v_1 h_4 sz_2 q_3
  obtain ⟨rfl, E1⟩ := q_3
  exact Seg.retN (t := .boolean) (w := (1 : Int32)) rfl (by decide) (by decide) d16_7 (by decide) (by decide) ⟨rfl, E1⟩
theorem d19_0 : decode prog_25_method_3_code 0 = .ok (.getstatic 50, 3) := by decide +kernel
theorem d19_3 : decode prog_25_method_3_code 3 = .ok (.aload_n 0, 1) := by decide +kernel
theorem d19_4 : decode prog_25_method_3_code 4 = .ok (.invokevirtual 45, 3) := by decide +kernel
theorem d19_7 : decode prog_25_method_3_code 7 = .ok (.ireturn, 1) := by decide +kernel
theorem ef_ct_vi (nr : Addr) (a : Addr) (cs : List Int32) (m : MethodId) : entryFrame m #[(.ref a)] 1 = mkF m 0 #[.val (.ref a)] [] := by first | (simp [entryFrame, mkF, argsToLocals, Value.category]; done) | rfl
set_option maxRecDepth 65536 in
set_option maxHeartbeats 4000000 in
theorem ct_vi {l : Launch} {Z : State} {a0 : Array Value} (G : Env1 Z a0) (nr : Addr) (a : Addr) (cs : List Int32) (h0 : Heap) (S : Sta Z Z.heap "com/example/kredential/kredential/Resource" "ID" "Lcom/example/kredential/kredential/NameRule;" (.ref nr)) (R : Rule Z Z.heap nr 128 1 okI) (F : Str Z h0 a cs) (hn : NmI cs) :
    Ct l Z EL1 [] [] (⟨"com/example/kredential/kredential/Resource", "isValidId", "(Ljava/lang/String;)Z"⟩ : MethodName) prog_25_method_3_code 1 (some .boolean) ({ frames := 5, cells := 4, slots := 20, locals := 75 } : Room) #[(.ref a)] h0 (fun v h => v = some (.int 1) ∧ Ext h0 h) := by
  refine Ct.of_seg (a0 := a0) (plainFor_of_name pn_com_example_kredential_kredential_Resource) G.2.1 (ef_ct_vi nr a cs) ?_
  refine Seg.start fun hZ0 => ?_
  have R1 := R.ext hZ0
  have Rx := R1.exa
  refine Seg.getS (wd G 106 rfl) Via.refl S d19_0 (pc' := 3) rfl ?_
  refine Seg.aloadN d19_3 rfl rfl (pc' := 4) rfl ?_
  refine Seg.callV (y' := (⟨"com/example/kredential/kredential/NameRule", "accepts", "(Ljava/lang/String;)Z"⟩ : MethodName)) (z := (⟨"com/example/kredential/kredential/NameRule", "accepts", "(Ljava/lang/String;)Z"⟩ : MethodName)) (a := nr) (wd G 84 rfl) (wd G 85 rfl) (nf_sel (wd G 87 rfl)) (wd G 87 rfl) (wd G 86 rfl) ⟨by decide, by decide⟩ Rx (Pays.of_ct (W := 0) (ct_acc1 G nr a cs h0 R1 F hn) all0 (wd G 89 rfl) (wd G 88 rfl) (by decide) (by decide) rfl rfl) (argsL := [(.ref a)]) (rest := []) rfl (lenOf pd_4 rfl) rfl (Nat.le_of_eq rfl) rfl d19_4 (pc' := 7) rfl (k' := 4) (n' := 20) rfl rfl (by decide) (by decide) ?_
  intro v_1 h_4 sz_2 q_3
  obtain ⟨rfl, E1⟩ := q_3
  exact Seg.retN (t := .boolean) (w := (1 : Int32)) rfl (by decide) (by decide) d19_7 (by decide) (by decide) ⟨rfl, E1⟩
theorem d22_0 : decode prog_16_method_3_code 0 = .ok (.getstatic 60, 3) := by decide +kernel
theorem d22_3 : decode prog_16_method_3_code 3 = .ok (.aload_n 0, 1) := by decide +kernel
theorem d22_4 : decode prog_16_method_3_code 4 = .ok (.invokevirtual 64, 3) := by decide +kernel
theorem d22_7 : decode prog_16_method_3_code 7 = .ok (.ireturn, 1) := by decide +kernel
theorem pn_com_example_kredential_kredential_Participant : plainName "com/example/kredential/kredential/Participant" = true := by first | (simp [plainName, overriddenIn]; done) | decide +kernel
theorem ef_ct_vp (nr : Addr) (a : Addr) (cs : List Int32) (m : MethodId) : entryFrame m #[(.ref a)] 1 = mkF m 0 #[.val (.ref a)] [] := by first | (simp [entryFrame, mkF, argsToLocals, Value.category]; done) | rfl
set_option maxRecDepth 65536 in
set_option maxHeartbeats 4000000 in
theorem ct_vp {l : Launch} {Z : State} {a0 : Array Value} (G : Env1 Z a0) (nr : Addr) (a : Addr) (cs : List Int32) (h0 : Heap) (S : Sta Z Z.heap "com/example/kredential/kredential/Participant" "ID" "Lcom/example/kredential/kredential/NameRule;" (.ref nr)) (R : Rule Z Z.heap nr 128 1 okI) (F : Str Z h0 a cs) (hn : NmI cs) :
    Ct l Z EL1 [] [] (⟨"com/example/kredential/kredential/Participant", "isValidId", "(Ljava/lang/String;)Z"⟩ : MethodName) prog_16_method_3_code 1 (some .boolean) ({ frames := 5, cells := 4, slots := 20, locals := 75 } : Room) #[(.ref a)] h0 (fun v h => v = some (.int 1) ∧ Ext h0 h) := by
  refine Ct.of_seg (a0 := a0) (plainFor_of_name pn_com_example_kredential_kredential_Participant) G.2.1 (ef_ct_vp nr a cs) ?_
  refine Seg.start fun hZ0 => ?_
  have R1 := R.ext hZ0
  have Rx := R1.exa
  refine Seg.getS (wd G 123 rfl) Via.refl S d22_0 (pc' := 3) rfl ?_
  refine Seg.aloadN d22_3 rfl rfl (pc' := 4) rfl ?_
  refine Seg.callV (y' := (⟨"com/example/kredential/kredential/NameRule", "accepts", "(Ljava/lang/String;)Z"⟩ : MethodName)) (z := (⟨"com/example/kredential/kredential/NameRule", "accepts", "(Ljava/lang/String;)Z"⟩ : MethodName)) (a := nr) (wd G 125 rfl) (wd G 85 rfl) (nf_sel (wd G 87 rfl)) (wd G 87 rfl) (wd G 86 rfl) ⟨by decide, by decide⟩ Rx (Pays.of_ct (W := 0) (ct_acc1 G nr a cs h0 R1 F hn) all0 (wd G 89 rfl) (wd G 88 rfl) (by decide) (by decide) rfl rfl) (argsL := [(.ref a)]) (rest := []) rfl (lenOf pd_4 rfl) rfl (Nat.le_of_eq rfl) rfl d22_4 (pc' := 7) rfl (k' := 4) (n' := 20) rfl rfl (by decide) (by decide) ?_
  intro v_1 h_4 sz_2 q_3
  obtain ⟨rfl, E1⟩ := q_3
  exact Seg.retN (t := .boolean) (w := (1 : Int32)) rfl (by decide) (by decide) d22_7 (by decide) (by decide) ⟨rfl, E1⟩
theorem d15_0 : decode prog_25_method_1_code 0 = .ok (.aload_n 0, 1) := by decide +kernel
theorem d15_1 : decode prog_25_method_1_code 1 = .ok (.invokespecial 1, 3) := by decide +kernel
theorem d15_4 : decode prog_25_method_1_code 4 = .ok (.aload_n 1, 1) := by decide +kernel
theorem d15_5 : decode prog_25_method_1_code 5 = .ok (.invokestatic 7, 3) := by decide +kernel
theorem d15_8 : decode prog_25_method_1_code 8 = .ok (.ifCond .ne 14, 3) := by decide +kernel
theorem d15_22 : decode prog_25_method_1_code 22 = .ok (.aload_n 2, 1) := by decide +kernel
theorem d15_23 : decode prog_25_method_1_code 23 = .ok (.invokestatic 22, 3) := by decide +kernel
theorem d15_26 : decode prog_25_method_1_code 26 = .ok (.ifCond .ne 14, 3) := by decide +kernel
theorem d15_40 : decode prog_25_method_1_code 40 = .ok (.aload_n 3, 1) := by decide +kernel
theorem d15_41 : decode prog_25_method_1_code 41 = .ok (.invokestatic 28, 3) := by decide +kernel
theorem d15_44 : decode prog_25_method_1_code 44 = .ok (.ifCond .ne 14, 3) := by decide +kernel
theorem d15_58 : decode prog_25_method_1_code 58 = .ok (.aload_n 0, 1) := by decide +kernel
theorem d15_59 : decode prog_25_method_1_code 59 = .ok (.aload_n 1, 1) := by decide +kernel
theorem d15_60 : decode prog_25_method_1_code 60 = .ok (.putfield 32, 3) := by decide +kernel
theorem d15_63 : decode prog_25_method_1_code 63 = .ok (.aload_n 0, 1) := by decide +kernel
theorem d15_64 : decode prog_25_method_1_code 64 = .ok (.aload_n 2, 1) := by decide +kernel
theorem d15_65 : decode prog_25_method_1_code 65 = .ok (.putfield 35, 3) := by decide +kernel
theorem d15_68 : decode prog_25_method_1_code 68 = .ok (.aload_n 0, 1) := by decide +kernel
theorem d15_69 : decode prog_25_method_1_code 69 = .ok (.aload_n 3, 1) := by decide +kernel
theorem d15_70 : decode prog_25_method_1_code 70 = .ok (.putfield 38, 3) := by decide +kernel
theorem d15_73 : decode prog_25_method_1_code 73 = .ok (.return_, 1) := by decide +kernel
theorem ef_ct_rinit (x : Addr) (s1 : Addr) (s2 : Addr) (s3 : Addr) (c1 : List Int32) (c2 : List Int32) (c3 : List Int32) (o0 : Value) (o1 : Value) (o2 : Value) (m : MethodId) : entryFrame m #[(.ref x), (.ref s1), (.ref s2), (.ref s3)] 4 = mkF m 0 #[.val (.ref x), .val (.ref s1), .val (.ref s2), .val (.ref s3)] [] := by first | (simp [entryFrame, mkF, argsToLocals, Value.category]; done) | rfl
set_option maxRecDepth 65536 in
set_option maxHeartbeats 4000000 in
theorem ct_rinit {l : Launch} {Z : State} {a0 : Array Value} (G : Env1 Z a0) (x : Addr) (s1 : Addr) (s2 : Addr) (s3 : Addr) (c1 : List Int32) (c2 : List Int32) (c3 : List Int32) (o0 : Value) (o1 : Value) (o2 : Value) (h0 : Heap) (A : Exa Z h0 x "com/example/kredential/kredential/Resource") (F0 : Fld Z h0 x "com/example/kredential/kredential/Resource" "type" "Ljava/lang/String;" o0) (F1 : Fld Z h0 x "com/example/kredential/kredential/Resource" "id" "Ljava/lang/String;" o1) (F2 : Fld Z h0 x "com/example/kredential/kredential/Resource" "owner" "Ljava/lang/String;" o2) (T1 : Str Z h0 s1 c1) (T2 : Str Z h0 s2 c2) (T3 : Str Z h0 s3 c3) (n1 : Nm okT c1) (n2 : NmI c2) (n3 : NmI c3) :
    Ct l Z EL1 [x] [] (⟨"com/example/kredential/kredential/Resource", "<init>", "(Ljava/lang/String;Ljava/lang/String;Ljava/lang/String;)V"⟩ : MethodName) prog_25_method_1_code 4 none ({ frames := 6, cells := 12, slots := 60, locals := 87 } : Room) #[(.ref x), (.ref s1), (.ref s2), (.ref s3)] h0 (fun v h => v = none ∧ Keep h0 h [x] ∧ Fld Z h x "com/example/kredential/kredential/Resource" "type" "Ljava/lang/String;" (.ref s1) ∧ Fld Z h x "com/example/kredential/kredential/Resource" "id" "Ljava/lang/String;" (.ref s2) ∧ Fld Z h x "com/example/kredential/kredential/Resource" "owner" "Ljava/lang/String;" (.ref s3)) := by
  refine Ct.of_seg (a0 := a0) (plainFor_of_name pn_com_example_kredential_kredential_Resource) G.2.1 (ef_ct_rinit x s1 s2 s3 c1 c2 c3 o0 o1 o2) ?_
  obtain ⟨rt, ri, rp, S1, S2, S3, R1, R2, R3⟩ := G.2.2.2.2
  refine Seg.aloadN d15_0 rfl rfl (pc' := 1) rfl ?_
  refine Seg.initO (wd G 78 rfl) (wd G 60 rfl) (wd G 61 rfl) rfl d15_1 (pc' := 4) rfl (by decide) (W := 0) (Nat.le_of_eq rfl) (by decide) ?_
  refine Seg.aloadN d15_4 rfl rfl (pc' := 5) rfl ?_
  refine Seg.callS (y' := (⟨"com/example/kredential/kredential/Resource", "isValidType", "(Ljava/lang/String;)Z"⟩ : MethodName)) (wd G 79 rfl) (wd G 80 rfl) (wd G 74 rfl) (wd G 81 rfl) ⟨by decide, by decide⟩ (Pays.of_ct (W := 0) (ct_vt G rt s1 c1 h0 S1 R1 T1 n1) all0 (wd G 81 rfl) (wd G 74 rfl) (by decide) (by decide) rfl rfl) (argsL := [(.ref s1)]) (rest := []) rfl (lenOf pd_4 rfl) rfl (Nat.le_of_eq rfl) rfl d15_5 (pc' := 8) rfl (k' := 4) (n' := 20) rfl rfl (by decide) (by decide) ?_
  intro v_1 h_4 sz_2 q_3
  obtain ⟨rfl, E91⟩ := q_3
  refine Seg.ifY (pc' := 22) d15_8 (by decide) (by decide) (by decide) ?_
  refine Seg.aloadN d15_22 rfl rfl (pc' := 23) rfl ?_
  have F_5 := T2.ext E91
  refine Seg.callS (y' := (⟨"com/example/kredential/kredential/Resource", "isValidId", "(Ljava/lang/String;)Z"⟩ : MethodName)) (wd G 103 rfl) (wd G 104 rfl) (wd G 74 rfl) (wd G 105 rfl) ⟨by decide, by decide⟩ (Pays.of_ct (W := 0) (ct_vi G ri s2 c2 h_4 S2 R2 F_5 n2) all0 (wd G 105 rfl) (wd G 74 rfl) (by decide) (by decide) rfl rfl) (argsL := [(.ref s2)]) (rest := []) rfl (lenOf pd_4 rfl) rfl (Nat.le_of_eq rfl) rfl d15_23 (pc' := 26) rfl (k' := 8) (n' := 40) rfl rfl (by decide) (by decide) ?_
  intro v_6 h_9 sz_7 q_8
  obtain ⟨rfl, E92⟩ := q_8
  refine Seg.ifY (pc' := 40) d15_26 (by decide) (by decide) (by decide) ?_
  refine Seg.aloadN d15_40 rfl rfl (pc' := 41) rfl ?_
  have E_10 : Ext h0 h_9 := ext_tr E91 E92
  have F_11 := T3.ext E_10
  refine Seg.callS (y' := (⟨"com/example/kredential/kredential/Participant", "isValidId", "(Ljava/lang/String;)Z"⟩ : MethodName)) (wd G 119 rfl) (wd G 120 rfl) (wd G 121 rfl) (wd G 122 rfl) ⟨by decide, by decide⟩ (Pays.of_ct (W := 0) (ct_vp G rp s3 c3 h_9 S3 R3 F_11 n3) all0 (wd G 122 rfl) (wd G 121 rfl) (by decide) (by decide) rfl rfl) (argsL := [(.ref s3)]) (rest := []) rfl (lenOf pd_4 rfl) rfl (Nat.le_of_eq rfl) rfl d15_41 (pc' := 44) rfl (k' := 12) (n' := 60) rfl rfl (by decide) (by decide) ?_
  intro v_12 h_15 sz_13 q_14
  obtain ⟨rfl, E93⟩ := q_14
  refine Seg.ifY (pc' := 58) d15_44 (by decide) (by decide) (by decide) ?_
  refine Seg.aloadN d15_58 rfl rfl (pc' := 59) rfl ?_
  refine Seg.aloadN d15_59 rfl rfl (pc' := 60) rfl ?_
  have E_16 : Ext h0 h_15 := ext_tr E_10 E93
  have F_17 := F0.ext E_16
  have F_18 := A.ext E_16
  refine Seg.putF (host := "") (ty := (.object "java/lang/String")) (v' := (.ref s1)) (wd G 126 rfl) Via.refl F_17 F_18 (Or.inr ⟨(wd G 127 rfl), rfl, rfl⟩) (wd G 73 rfl) (by decide) rfl rfl (List.mem_of_getElem? (i := 0) rfl) d15_60 (pc' := 63) rfl ?_
  intro h_21 W_19 F_20
  refine Seg.aloadN d15_63 rfl rfl (pc' := 64) rfl ?_
  refine Seg.aloadN d15_64 rfl rfl (pc' := 65) rfl ?_
  have F_22 := ((((F1.ext E91).ext E92).ext E93).other W_19 (Or.inr (slot_ne (Or.inr (wd G 129 rfl)) (Or.inr (wd G 127 rfl)) (by decide) (t := (.object "java/lang/String")) (t' := (.object "java/lang/String")) (by decide) (by decide))))
  have F_23 := (F_18.wr W_19)
  refine Seg.putF (host := "") (ty := (.object "java/lang/String")) (v' := (.ref s2)) (wd G 128 rfl) Via.refl F_22 F_23 (Or.inr ⟨(wd G 129 rfl), rfl, rfl⟩) (wd G 73 rfl) (by decide) rfl rfl (List.mem_of_getElem? (i := 0) rfl) d15_65 (pc' := 68) rfl ?_
  intro h_26 W_24 F_25
  refine Seg.aloadN d15_68 rfl rfl (pc' := 69) rfl ?_
  refine Seg.aloadN d15_69 rfl rfl (pc' := 70) rfl ?_
  have F_27 := (((((F2.ext E91).ext E92).ext E93).other W_19 (Or.inr (slot_ne (Or.inr (wd G 131 rfl)) (Or.inr (wd G 127 rfl)) (by decide) (t := (.object "java/lang/String")) (t' := (.object "java/lang/String")) (by decide) (by decide)))).other W_24 (Or.inr (slot_ne (Or.inr (wd G 131 rfl)) (Or.inr (wd G 129 rfl)) (by decide) (t := (.object "java/lang/String")) (t' := (.object "java/lang/String")) (by decide) (by decide))))
  have F_28 := (F_23.wr W_24)
  refine Seg.putF (host := "") (ty := (.object "java/lang/String")) (v' := (.ref s3)) (wd G 130 rfl) Via.refl F_27 F_28 (Or.inr ⟨(wd G 131 rfl), rfl, rfl⟩) (wd G 73 rfl) (by decide) rfl rfl (List.mem_of_getElem? (i := 0) rfl) d15_70 (pc' := 73) rfl ?_
  intro h_31 W_29 F_30
  have F_32 := ((F_20.other W_24 (Or.inr (slot_ne (Or.inr (wd G 127 rfl)) (Or.inr (wd G 129 rfl)) (by decide) (t := (.object "java/lang/String")) (t' := (.object "java/lang/String")) (by decide) (by decide)))).other W_29 (Or.inr (slot_ne (Or.inr (wd G 127 rfl)) (Or.inr (wd G 131 rfl)) (by decide) (t := (.object "java/lang/String")) (t' := (.object "java/lang/String")) (by decide) (by decide))))
  have F_33 := (F_25.other W_29 (Or.inr (slot_ne (Or.inr (wd G 129 rfl)) (Or.inr (wd G 131 rfl)) (by decide) (t := (.object "java/lang/String")) (t' := (.object "java/lang/String")) (by decide) (by decide))))
  exact Seg.ret0 rfl d15_73 (by decide) (by decide) ⟨rfl, (((((((Keep.refl h0 [x]).ext E91).ext E92).ext E93).wr W_19 (Or.inl (List.mem_of_getElem? (i := 0) rfl))).wr W_24 (Or.inl (List.mem_of_getElem? (i := 0) rfl))).wr W_29 (Or.inl (List.mem_of_getElem? (i := 0) rfl))), F_32, F_33, F_30⟩
theorem d1_0 : decode method_2_code 0 = .ok (.iconst 1, 1) := by decide +kernel
theorem d1_1 : decode method_2_code 1 = .ok (.iload_n 2, 1) := by decide +kernel
theorem d1_2 : decode method_2_code 2 = .ok (.iconst 1, 1) := by decide +kernel
theorem d1_3 : decode method_2_code 3 = .ok (.iand, 1) := by decide +kernel
theorem d1_4 : decode method_2_code 4 = .ok (.iadd, 1) := by decide +kernel
theorem d1_5 : decode method_2_code 5 = .ok (.istore 5, 2) := by decide +kernel
theorem d1_7 : decode method_2_code 7 = .ok (.iload_n 2, 1) := by decide +kernel
theorem d1_8 : decode method_2_code 8 = .ok (.iconst 1, 1) := by decide +kernel
theorem d1_9 : decode method_2_code 9 = .ok (.iushr, 1) := by decide +kernel
theorem d1_10 : decode method_2_code 10 = .ok (.ldc 7, 2) := by decide +kernel
theorem d1_12 : decode method_2_code 12 = .ok (.iand, 1) := by decide +kernel
theorem d1_13 : decode method_2_code 13 = .ok (.aload_n 0, 1) := by decide +kernel
theorem d1_14 : decode method_2_code 14 = .ok (.invokevirtual 8, 3) := by decide +kernel
theorem d1_17 : decode method_2_code 17 = .ok (.irem, 1) := by decide +kernel
theorem d1_18 : decode method_2_code 18 = .ok (.istore 6, 2) := by decide +kernel
theorem d1_20 : decode method_2_code 20 = .ok (.iload_n 2, 1) := by decide +kernel
theorem d1_21 : decode method_2_code 21 = .ok (.bipush 17, 2) := by decide +kernel
theorem d1_23 : decode method_2_code 23 = .ok (.iushr, 1) := by decide +kernel
theorem d1_24 : decode method_2_code 24 = .ok (.aload_n 1, 1) := by decide +kernel
theorem d1_25 : decode method_2_code 25 = .ok (.invokevirtual 8, 3) := by decide +kernel
theorem d1_28 : decode method_2_code 28 = .ok (.irem, 1) := by decide +kernel
theorem d1_29 : decode method_2_code 29 = .ok (.istore 7, 2) := by decide +kernel
theorem d1_31 : decode method_2_code 31 = .ok (.iload_n 3, 1) := by decide +kernel
theorem d1_32 : decode method_2_code 32 = .ok (.ifCond .eq 28, 3) := by decide +kernel
theorem d1_60 : decode method_2_code 60 = .ok (.aload_n 0, 1) := by decide +kernel
theorem d1_61 : decode method_2_code 61 = .ok (.iload 6, 2) := by decide +kernel
theorem d1_63 : decode method_2_code 63 = .ok (.invokevirtual 14, 3) := by decide +kernel
theorem d1_66 : decode method_2_code 66 = .ok (.istore 8, 2) := by decide +kernel
theorem d1_68 : decode method_2_code 68 = .ok (.aload_n 1, 1) := by decide +kernel
theorem d1_69 : decode method_2_code 69 = .ok (.iload 7, 2) := by decide +kernel
theorem d1_71 : decode method_2_code 71 = .ok (.invokevirtual 14, 3) := by decide +kernel
theorem d1_74 : decode method_2_code 74 = .ok (.istore 9, 2) := by decide +kernel
theorem d1_76 : decode method_2_code 76 = .ok (.iload 5, 2) := by decide +kernel
theorem d1_78 : decode method_2_code 78 = .ok (.iconst 1, 1) := by decide +kernel
theorem d1_79 : decode method_2_code 79 = .ok (.if_icmp .ne 23, 3) := by decide +kernel
theorem d1_82 : decode method_2_code 82 = .ok (.iconst 1, 1) := by decide +kernel
theorem d1_83 : decode method_2_code 83 = .ok (.newarray .char, 2) := by decide +kernel
theorem d1_85 : decode method_2_code 85 = .ok (.dup, 1) := by decide +kernel
theorem d1_86 : decode method_2_code 86 = .ok (.iconst 0, 1) := by decide +kernel
theorem d1_87 : decode method_2_code 87 = .ok (.iload 8, 2) := by decide +kernel
theorem d1_89 : decode method_2_code 89 = .ok (.castore, 1) := by decide +kernel
theorem d1_90 : decode method_2_code 90 = .ok (.astore 10, 2) := by decide +kernel
theorem d1_92 : decode method_2_code 92 = .ok (.new 9, 3) := by decide +kernel
theorem d1_95 : decode method_2_code 95 = .ok (.dup, 1) := by decide +kernel
theorem d1_96 : decode method_2_code 96 = .ok (.aload 10, 2) := by decide +kernel
theorem d1_98 : decode method_2_code 98 = .ok (.invokespecial 18, 3) := by decide +kernel
theorem pd_5 : parseMethodDescriptor "([C)V" = some ⟨[(.array .char)], none⟩ := by decide +kernel
theorem d1_101 : decode method_2_code 101 = .ok (.areturn, 1) := by decide +kernel
theorem d1_35 : decode method_2_code 35 = .ok (.iload 4, 2) := by decide +kernel
theorem d1_37 : decode method_2_code 37 = .ok (.ifCond .eq 12, 3) := by decide +kernel
theorem d1_49 : decode method_2_code 49 = .ok (.iload 6, 2) := by decide +kernel
theorem d1_51 : decode method_2_code 51 = .ok (.iconst 1, 1) := by decide +kernel
theorem d1_52 : decode method_2_code 52 = .ok (.iadd, 1) := by decide +kernel
theorem d1_53 : decode method_2_code 53 = .ok (.aload_n 0, 1) := by decide +kernel
theorem d1_54 : decode method_2_code 54 = .ok (.invokevirtual 8, 3) := by decide +kernel
theorem d1_57 : decode method_2_code 57 = .ok (.irem, 1) := by decide +kernel
theorem d1_58 : decode method_2_code 58 = .ok (.istore 6, 2) := by decide +kernel
theorem d1_40 : decode method_2_code 40 = .ok (.iconst 3, 1) := by decide +kernel
theorem d1_41 : decode method_2_code 41 = .ok (.iload 5, 2) := by decide +kernel
theorem d1_43 : decode method_2_code 43 = .ok (.isub, 1) := by decide +kernel
theorem d1_44 : decode method_2_code 44 = .ok (.istore 5, 2) := by decide +kernel
theorem d1_46 : decode method_2_code 46 = .ok (.goto 14, 3) := by decide +kernel
theorem d1_102 : decode method_2_code 102 = .ok (.iconst 2, 1) := by decide +kernel
theorem d1_103 : decode method_2_code 103 = .ok (.newarray .char, 2) := by decide +kernel
theorem d1_105 : decode method_2_code 105 = .ok (.dup, 1) := by decide +kernel
theorem d1_106 : decode method_2_code 106 = .ok (.iconst 0, 1) := by decide +kernel
theorem d1_107 : decode method_2_code 107 = .ok (.iload 8, 2) := by decide +kernel
theorem d1_109 : decode method_2_code 109 = .ok (.castore, 1) := by decide +kernel
theorem d1_110 : decode method_2_code 110 = .ok (.dup, 1) := by decide +kernel
theorem d1_111 : decode method_2_code 111 = .ok (.iconst 1, 1) := by decide +kernel
theorem d1_112 : decode method_2_code 112 = .ok (.iload 9, 2) := by decide +kernel
theorem d1_114 : decode method_2_code 114 = .ok (.castore, 1) := by decide +kernel
theorem d1_115 : decode method_2_code 115 = .ok (.astore 10, 2) := by decide +kernel
theorem d1_117 : decode method_2_code 117 = .ok (.new 9, 3) := by decide +kernel
theorem d1_120 : decode method_2_code 120 = .ok (.dup, 1) := by decide +kernel
theorem d1_121 : decode method_2_code 121 = .ok (.aload 10, 2) := by decide +kernel
theorem d1_123 : decode method_2_code 123 = .ok (.invokespecial 18, 3) := by decide +kernel
theorem d1_126 : decode method_2_code 126 = .ok (.areturn, 1) := by decide +kernel
theorem pn_com_example_kredential_kredential_ResourceEqualsPinLaw : plainName "com/example/kredential/kredential/ResourceEqualsPinLaw" = true := by first | (simp [plainName, overriddenIn]; done) | decide +kernel
theorem ef_ct_field (a : Addr) (b : Addr) (fs : List Int32) (ss : List Int32) (x : Int32) (k0 : Nat) (k1 : Nat) (dd : Int32) (mm : Int32) (m : MethodId) : entryFrame m #[(.ref a), (.ref b), (.int x), (.int dd), (.int mm)] 11 = mkF m 0 #[.val (.ref a), .val (.ref b), .val (.int x), .val (.int dd), .val (.int mm), .unset, .unset, .unset, .unset, .unset, .unset] [] := by first | (simp [entryFrame, mkF, argsToLocals, Value.category]; done) | rfl
set_option maxRecDepth 65536 in
set_option maxHeartbeats 4000000 in
theorem ct_field {l : Launch} {Z : State} {a0 : Array Value} (G : Env1 Z a0) (a : Addr) (b : Addr) (fs : List Int32) (ss : List Int32) (x : Int32) (k0 : Nat) (k1 : Nat) (dd : Int32) (mm : Int32) (h0 : Heap) (F : Str Z h0 a fs) (F' : Str Z h0 b ss) (hf : ∀ c ∈ fs, ¬ c < 0 ∧ ¬ (255 : Int32) < c) (hs : ∀ c ∈ ss, ¬ c < 0 ∧ ¬ (255 : Int32) < c) (l0 : fs.length ≤ 100) (l1 : ss.length ≤ 100) (h0k : k0 < fs.length) (h1k : k1 < ss.length) (e0 : xk0 x % Int32.ofNat fs.length = Int32.ofNat k0) (e1 : xk1 x % Int32.ofNat ss.length = Int32.ofNat k1) :
    Ct l Z EL1 [] [] (⟨"com/example/kredential/kredential/ResourceEqualsPinLaw", "field", "(Ljava/lang/String;Ljava/lang/String;IZZ)Ljava/lang/String;"⟩ : MethodName) method_2_code 11 (some (.object "java/lang/String")) ({ frames := 4, cells := 3, slots := 8, locals := 66 } : Room) #[(.ref a), (.ref b), (.int x), (.int dd), (.int mm)] h0 (fun v h => ∃ r, v = some (.ref r) ∧ Ext h0 h ∧ Str Z h r (fldL fs ss (x &&& 1) k0 k1 dd mm)) := by
  refine Ct.of_seg (a0 := a0) (plainFor_of_name pn_com_example_kredential_kredential_ResourceEqualsPinLaw) G.2.1 (ef_ct_field a b fs ss x k0 k1 dd mm) ?_
  have f1 := F.exa
  have f2 := F'.exa
  refine Seg.iconst (v := 1) d1_0 (by decide) (pc' := 1) rfl ?_
  refine Seg.iloadN d1_1 rfl (pc' := 2) rfl ?_
  refine Seg.iconst (v := 1) d1_2 (by decide) (pc' := 3) rfl ?_
  refine Seg.iand (v := (x &&& (1 : Int32))) d1_3 rfl (pc' := 4) rfl ?_
  rcases and1 x with hb | hb
  · refine Seg.iadd (v := (1 : Int32)) d1_4 (by rw [hb]; decide) (pc' := 5) rfl ?_
    refine Seg.istore (L' := #[.val (.ref a), .val (.ref b), .val (.int x), .val (.int dd), .val (.int mm), .val (.int (1 : Int32)), .unset, .unset, .unset, .unset, .unset]) d1_5 rfl (pc' := 7) rfl ?_
    refine Seg.iloadN d1_7 rfl (pc' := 8) rfl ?_
    refine Seg.iconst (v := 1) d1_8 (by decide) (pc' := 9) rfl ?_
    refine Seg.iushr (v := ((x).toUInt32 >>> ((1 : Int32) &&& 31).toUInt32).toInt32) d1_9 rfl (pc' := 10) rfl ?_
    refine Seg.ldcI (wd G 14 rfl) d1_10 (pc' := 12) rfl ?_
    refine Seg.iand (v := (((x).toUInt32 >>> ((1 : Int32) &&& 31).toUInt32).toInt32 &&& (65535 : Int32))) d1_12 rfl (pc' := 13) rfl ?_
    refine Seg.aloadN d1_13 rfl rfl (pc' := 14) rfl ?_
    refine Seg.callV (y' := (⟨"java/lang/String", "length", "()I"⟩ : MethodName)) (z := (⟨"java/lang/String", "length", "()I"⟩ : MethodName)) (a := a) (wd G 15 rfl) (wd G 16 rfl) (nf_sel (wd G 18 rfl)) (wd G 18 rfl) (wd G 17 rfl) ⟨by decide, by decide⟩ f1 (pays_len (W := 1) G h0 F (by decide) (by decide)) (argsL := []) (rest := [(.int (((x).toUInt32 >>> ((1 : Int32) &&& 31).toUInt32).toInt32 &&& (65535 : Int32)))]) rfl (lenOf pd_0 rfl) rfl (Nat.le_of_eq rfl) rfl d1_14 (pc' := 17) rfl (k' := 0) (n' := 0) rfl rfl (by decide) (by decide) ?_
    intro v_1 h_4 sz_2 q_3
    obtain ⟨rfl, rfl⟩ := q_3
    refine Seg.irem (v := (Int32.ofNat k0)) d1_17 (n32ne0 (by omega) (by omega)) e0 (pc' := 18) rfl ?_
    refine Seg.istore (L' := #[.val (.ref a), .val (.ref b), .val (.int x), .val (.int dd), .val (.int mm), .val (.int (1 : Int32)), .val (.int (Int32.ofNat k0)), .unset, .unset, .unset, .unset]) d1_18 rfl (pc' := 20) rfl ?_
    refine Seg.iloadN d1_20 rfl (pc' := 21) rfl ?_
    refine Seg.bipush (v := 17) d1_21 (by decide) (pc' := 23) rfl ?_
    refine Seg.iushr (v := ((x).toUInt32 >>> ((17 : Int32) &&& 31).toUInt32).toInt32) d1_23 rfl (pc' := 24) rfl ?_
    refine Seg.aloadN d1_24 rfl rfl (pc' := 25) rfl ?_
    refine Seg.callV (y' := (⟨"java/lang/String", "length", "()I"⟩ : MethodName)) (z := (⟨"java/lang/String", "length", "()I"⟩ : MethodName)) (a := b) (wd G 15 rfl) (wd G 16 rfl) (nf_sel (wd G 18 rfl)) (wd G 18 rfl) (wd G 17 rfl) ⟨by decide, by decide⟩ f2 (pays_len (W := 1) G h0 F' (by decide) (by decide)) (argsL := []) (rest := [(.int ((x).toUInt32 >>> ((17 : Int32) &&& 31).toUInt32).toInt32)]) rfl (lenOf pd_0 rfl) rfl (Nat.le_of_eq rfl) rfl d1_25 (pc' := 28) rfl (k' := 0) (n' := 0) rfl rfl (by decide) (by decide) ?_
    intro v_5 h_8 sz_6 q_7
    obtain ⟨rfl, rfl⟩ := q_7
    refine Seg.irem (v := (Int32.ofNat k1)) d1_28 (n32ne0 (by omega) (by omega)) e1 (pc' := 29) rfl ?_
    refine Seg.istore (L' := #[.val (.ref a), .val (.ref b), .val (.int x), .val (.int dd), .val (.int mm), .val (.int (1 : Int32)), .val (.int (Int32.ofNat k0)), .val (.int (Int32.ofNat k1)), .unset, .unset, .unset]) d1_29 rfl (pc' := 31) rfl ?_
    refine Seg.iloadN d1_31 rfl (pc' := 32) rfl ?_
    by_cases h1 : dd = 0
    · refine Seg.ifY (pc' := 60) d1_32 (XT.i0_eq_t h1) (by decide) (by decide) ?_
      refine Seg.aloadN d1_60 rfl rfl (pc' := 61) rfl ?_
      refine Seg.iload d1_61 rfl (pc' := 63) rfl ?_
      refine Seg.callV (y' := (⟨"java/lang/String", "charAt", "(I)C"⟩ : MethodName)) (z := (⟨"java/lang/String", "charAt", "(I)C"⟩ : MethodName)) (a := a) (wd G 28 rfl) (wd G 29 rfl) (nf_sel (wd G 31 rfl)) (wd G 31 rfl) (wd G 30 rfl) ⟨by decide, by decide⟩ f1 (pays_chr (W := 0) G h0 k0 F (fun c q => (hf c q).2) h0k rfl (by decide) (by decide)) (argsL := [(.int (Int32.ofNat k0))]) (rest := []) rfl (lenOf pd_1 rfl) rfl (Nat.le_of_eq rfl) rfl d1_63 (pc' := 66) rfl (k' := 0) (n' := 0) rfl rfl (by decide) (by decide) ?_
      intro v_9 h_12 sz_10 q_11
      obtain ⟨rfl, rfl⟩ := q_11
      refine Seg.istore (L' := #[.val (.ref a), .val (.ref b), .val (.int x), .val (.int dd), .val (.int mm), .val (.int (1 : Int32)), .val (.int (Int32.ofNat k0)), .val (.int (Int32.ofNat k1)), .val (.int (fs.getD k0 0)), .unset, .unset]) d1_66 rfl (pc' := 68) rfl ?_
      refine Seg.aloadN d1_68 rfl rfl (pc' := 69) rfl ?_
      refine Seg.iload d1_69 rfl (pc' := 71) rfl ?_
      refine Seg.callV (y' := (⟨"java/lang/String", "charAt", "(I)C"⟩ : MethodName)) (z := (⟨"java/lang/String", "charAt", "(I)C"⟩ : MethodName)) (a := b) (wd G 28 rfl) (wd G 29 rfl) (nf_sel (wd G 31 rfl)) (wd G 31 rfl) (wd G 30 rfl) ⟨by decide, by decide⟩ f2 (pays_chr (W := 0) G h0 k1 F' (fun c q => (hs c q).2) h1k rfl (by decide) (by decide)) (argsL := [(.int (Int32.ofNat k1))]) (rest := []) rfl (lenOf pd_1 rfl) rfl (Nat.le_of_eq rfl) rfl d1_71 (pc' := 74) rfl (k' := 0) (n' := 0) rfl rfl (by decide) (by decide) ?_
      intro v_13 h_16 sz_14 q_15
      obtain ⟨rfl, rfl⟩ := q_15
      have z0 := mem_getD hf h0k
      have z1 := mem_getD hs h1k
      refine Seg.istore (L' := #[.val (.ref a), .val (.ref b), .val (.int x), .val (.int dd), .val (.int mm), .val (.int (1 : Int32)), .val (.int (Int32.ofNat k0)), .val (.int (Int32.ofNat k1)), .val (.int (fs.getD k0 0)), .val (.int (ss.getD k1 0)), .unset]) d1_74 rfl (pc' := 76) rfl ?_
      refine Seg.iload d1_76 rfl (pc' := 78) rfl ?_
      refine Seg.iconst (v := 1) d1_78 (by decide) (pc' := 79) rfl ?_
      refine Seg.icN d1_79 (by decide) (pc' := 82) rfl ?_
      refine Seg.iconst (v := 1) d1_82 (by decide) (pc' := 83) rfl ?_
      refine Seg.newP (ty := .char) (dv := (.int 0)) rfl rfl (wd G 50 rfl) d1_83 (pc' := 85) rfl (by decide) (cap := 1) (by decide) (by decide) (k' := 1) (n' := 1) rfl rfl (by decide) (by decide) ?_
      intro b_17 h_19 k_b_17 E_18 e_b_17 l_b_17 A_b_17
      replace A_b_17 : Arv Z h_19 b_17 k_b_17 .char (1 : Int32) [(.int (0 : Int32))] (.int 0) := A_b_17.pad (pad_rep [] (.int 0) 1)
      refine Seg.dup d1_85 rfl (pc' := 86) rfl ?_
      refine Seg.iconst (v := 0) d1_86 (by decide) (pc' := 87) rfl ?_
      refine Seg.iload d1_87 rfl (pc' := 89) rfl ?_
      refine Seg.castore (v' := (fs.getD k0 0)) (i := 0) A_b_17 ⟨by decide, by decide⟩ rfl (Nat.le_of_ble_eq_true rfl) (nar255 z0) (List.mem_of_getElem? (i := 0) rfl) d1_89 (pc' := 90) rfl ?_
      intro h_22 W_20 A_21
      replace A_21 : Arv Z h_22 b_17 k_b_17 .char (1 : Int32) [(.int (fs.getD k0 0))] (.int 0) := A_21
      refine Seg.astore (L' := #[.val (.ref a), .val (.ref b), .val (.int x), .val (.int dd), .val (.int mm), .val (.int (1 : Int32)), .val (.int (Int32.ofNat k0)), .val (.int (Int32.ofNat k1)), .val (.int (fs.getD k0 0)), .val (.int (ss.getD k1 0)), .val (.ref b_17)]) d1_90 rfl rfl (pc' := 92) rfl ?_
      refine Seg.newO (wd G 51 rfl) (wd G 2 rfl) (wd G 1 rfl) d1_92 (pc' := 95) rfl (k' := 2) (n' := 5) rfl rfl (by decide) (by decide) ?_
      intro b_23 h_25 E_24 e_b_23 l_b_23 A_b_23 D_b_23
      have F_value_b_23 : Fld Z h_25 b_23 "java/lang/String" "value" "[B" Value.null := D_b_23 (Or.inr (wd G 4 rfl)) (ty := (.array .byte)) (by decide)
      have F_coder_b_23 : Fld Z h_25 b_23 "java/lang/String" "coder" "B" (.int (0 : Int32)) := D_b_23 (Or.inr (wd G 5 rfl)) (ty := .byte) (by decide)
      refine Seg.dup d1_95 rfl (pc' := 96) rfl ?_
      refine Seg.aload d1_96 rfl rfl (pc' := 98) rfl ?_
      have F_26 := A_21.ext E_24
      refine Seg.callN (y' := (⟨"java/lang/String", "<init>", "([C)V"⟩ : MethodName)) (a := b_23) rfl (wd G 52 rfl) (wd G 53 rfl) (wd G 54 rfl) ⟨by decide, by decide⟩ (pays_str (W := 1) G [(fs.getD k0 0)] 1 h_25 A_b_23 F_value_b_23 F_coder_b_23 F_26 rfl rfl (by decide) (by decide) (by intro c hc; simp only [List.mem_cons, List.not_mem_nil, or_false] at hc; rcases hc with rfl <;> assumption) (List.mem_of_getElem? (i := 0) rfl) (by decide) (by decide)) (argsL := [(.ref b_17)]) (rest := [(.ref b_23)]) rfl (lenOf pd_5 rfl) rfl (Nat.le_of_eq rfl) rfl d1_98 (pc' := 101) rfl (k' := 3) (n' := 6) rfl rfl (by decide) (by decide) ?_
      intro v_27 h_30 sz_28 q_29
      obtain ⟨rfl, K8, F8⟩ := q_29
      have E_31 : Ext h0 h_22 := ext_wr E_18 W_20 (Nat.le_trans (ext_rfl _).1 (Nat.le_of_eq e_b_17))
      have E_32 : Ext h0 h_25 := ext_tr E_31 E_24
      have E_33 : Ext h0 h_30 := ext_kp E_32 K8 (allS (Nat.le_trans E_31.1 (Nat.le_of_eq e_b_23)) all0)
      exact Seg.retA rfl rfl rfl d1_101 (by decide) (by decide) ⟨b_23, rfl, E_33, (show [(fs.getD k0 0)] = fldL fs ss (x &&& 1) k0 k1 dd mm from by unfold fldL; rw [if_pos h1]; rw [if_pos hb]) ▸ F8⟩
    · refine Seg.ifN d1_32 (XT.i0_eq_f h1) (pc' := 35) rfl ?_
      refine Seg.iload d1_35 rfl (pc' := 37) rfl ?_
      by_cases h2 : mm = 0
      · refine Seg.ifY (pc' := 49) d1_37 (XT.i0_eq_t h2) (by decide) (by decide) ?_
        refine Seg.iload d1_49 rfl (pc' := 51) rfl ?_
        refine Seg.iconst (v := 1) d1_51 (by decide) (pc' := 52) rfl ?_
        refine Seg.iadd (v := (Int32.ofNat (k0 + 1))) d1_52 (n32s k0) (pc' := 53) rfl ?_
        refine Seg.aloadN d1_53 rfl rfl (pc' := 54) rfl ?_
        refine Seg.callV (y' := (⟨"java/lang/String", "length", "()I"⟩ : MethodName)) (z := (⟨"java/lang/String", "length", "()I"⟩ : MethodName)) (a := a) (wd G 15 rfl) (wd G 16 rfl) (nf_sel (wd G 18 rfl)) (wd G 18 rfl) (wd G 17 rfl) ⟨by decide, by decide⟩ f1 (pays_len (W := 1) G h0 F (by decide) (by decide)) (argsL := []) (rest := [(.int (Int32.ofNat (k0 + 1)))]) rfl (lenOf pd_0 rfl) rfl (Nat.le_of_eq rfl) rfl d1_54 (pc' := 57) rfl (k' := 0) (n' := 0) rfl rfl (by decide) (by decide) ?_
        intro v_34 h_37 sz_35 q_36
        obtain ⟨rfl, rfl⟩ := q_36
        refine Seg.irem (v := (Int32.ofNat ((k0 + 1) % fs.length))) d1_57 (n32ne0 (by omega) (by omega)) (n32mod h0k (by omega)) (pc' := 58) rfl ?_
        refine Seg.istore (L' := #[.val (.ref a), .val (.ref b), .val (.int x), .val (.int dd), .val (.int mm), .val (.int (1 : Int32)), .val (.int (Int32.ofNat ((k0 + 1) % fs.length))), .val (.int (Int32.ofNat k1)), .unset, .unset, .unset]) d1_58 rfl (pc' := 60) rfl ?_
        refine Seg.aloadN d1_60 rfl rfl (pc' := 61) rfl ?_
        refine Seg.iload d1_61 rfl (pc' := 63) rfl ?_
        refine Seg.callV (y' := (⟨"java/lang/String", "charAt", "(I)C"⟩ : MethodName)) (z := (⟨"java/lang/String", "charAt", "(I)C"⟩ : MethodName)) (a := a) (wd G 28 rfl) (wd G 29 rfl) (nf_sel (wd G 31 rfl)) (wd G 31 rfl) (wd G 30 rfl) ⟨by decide, by decide⟩ f1 (pays_chr (W := 0) G h0 ((k0 + 1) % fs.length) F (fun c q => (hf c q).2) (Nat.mod_lt (k0 + 1) (show fs.length > 0 by omega)) rfl (by decide) (by decide)) (argsL := [(.int (Int32.ofNat ((k0 + 1) % fs.length)))]) (rest := []) rfl (lenOf pd_1 rfl) rfl (Nat.le_of_eq rfl) rfl d1_63 (pc' := 66) rfl (k' := 0) (n' := 0) rfl rfl (by decide) (by decide) ?_
        intro v_38 h_41 sz_39 q_40
        obtain ⟨rfl, rfl⟩ := q_40
        refine Seg.istore (L' := #[.val (.ref a), .val (.ref b), .val (.int x), .val (.int dd), .val (.int mm), .val (.int (1 : Int32)), .val (.int (Int32.ofNat ((k0 + 1) % fs.length))), .val (.int (Int32.ofNat k1)), .val (.int (fs.getD ((k0 + 1) % fs.length) 0)), .unset, .unset]) d1_66 rfl (pc' := 68) rfl ?_
        refine Seg.aloadN d1_68 rfl rfl (pc' := 69) rfl ?_
        refine Seg.iload d1_69 rfl (pc' := 71) rfl ?_
        refine Seg.callV (y' := (⟨"java/lang/String", "charAt", "(I)C"⟩ : MethodName)) (z := (⟨"java/lang/String", "charAt", "(I)C"⟩ : MethodName)) (a := b) (wd G 28 rfl) (wd G 29 rfl) (nf_sel (wd G 31 rfl)) (wd G 31 rfl) (wd G 30 rfl) ⟨by decide, by decide⟩ f2 (pays_chr (W := 0) G h0 k1 F' (fun c q => (hs c q).2) h1k rfl (by decide) (by decide)) (argsL := [(.int (Int32.ofNat k1))]) (rest := []) rfl (lenOf pd_1 rfl) rfl (Nat.le_of_eq rfl) rfl d1_71 (pc' := 74) rfl (k' := 0) (n' := 0) rfl rfl (by decide) (by decide) ?_
        intro v_42 h_45 sz_43 q_44
        obtain ⟨rfl, rfl⟩ := q_44
        have z0 := mem_getD hf (Nat.mod_lt (k0 + 1) (show fs.length > 0 by omega))
        have z1 := mem_getD hs h1k
        refine Seg.istore (L' := #[.val (.ref a), .val (.ref b), .val (.int x), .val (.int dd), .val (.int mm), .val (.int (1 : Int32)), .val (.int (Int32.ofNat ((k0 + 1) % fs.length))), .val (.int (Int32.ofNat k1)), .val (.int (fs.getD ((k0 + 1) % fs.length) 0)), .val (.int (ss.getD k1 0)), .unset]) d1_74 rfl (pc' := 76) rfl ?_
        refine Seg.iload d1_76 rfl (pc' := 78) rfl ?_
        refine Seg.iconst (v := 1) d1_78 (by decide) (pc' := 79) rfl ?_
        refine Seg.icN d1_79 (by decide) (pc' := 82) rfl ?_
        refine Seg.iconst (v := 1) d1_82 (by decide) (pc' := 83) rfl ?_
        refine Seg.newP (ty := .char) (dv := (.int 0)) rfl rfl (wd G 50 rfl) d1_83 (pc' := 85) rfl (by decide) (cap := 1) (by decide) (by decide) (k' := 1) (n' := 1) rfl rfl (by decide) (by decide) ?_
        intro b_46 h_48 k_b_46 E_47 e_b_46 l_b_46 A_b_46
        replace A_b_46 : Arv Z h_48 b_46 k_b_46 .char (1 : Int32) [(.int (0 : Int32))] (.int 0) := A_b_46.pad (pad_rep [] (.int 0) 1)
        refine Seg.dup d1_85 rfl (pc' := 86) rfl ?_
        refine Seg.iconst (v := 0) d1_86 (by decide) (pc' := 87) rfl ?_
        refine Seg.iload d1_87 rfl (pc' := 89) rfl ?_
        refine Seg.castore (v' := (fs.getD ((k0 + 1) % fs.length) 0)) (i := 0) A_b_46 ⟨by decide, by decide⟩ rfl (Nat.le_of_ble_eq_true rfl) (nar255 z0) (List.mem_of_getElem? (i := 0) rfl) d1_89 (pc' := 90) rfl ?_
        intro h_51 W_49 A_50
        replace A_50 : Arv Z h_51 b_46 k_b_46 .char (1 : Int32) [(.int (fs.getD ((k0 + 1) % fs.length) 0))] (.int 0) := A_50
        refine Seg.astore (L' := #[.val (.ref a), .val (.ref b), .val (.int x), .val (.int dd), .val (.int mm), .val (.int (1 : Int32)), .val (.int (Int32.ofNat ((k0 + 1) % fs.length))), .val (.int (Int32.ofNat k1)), .val (.int (fs.getD ((k0 + 1) % fs.length) 0)), .val (.int (ss.getD k1 0)), .val (.ref b_46)]) d1_90 rfl rfl (pc' := 92) rfl ?_
        refine Seg.newO (wd G 51 rfl) (wd G 2 rfl) (wd G 1 rfl) d1_92 (pc' := 95) rfl (k' := 2) (n' := 5) rfl rfl (by decide) (by decide) ?_
        intro b_52 h_54 E_53 e_b_52 l_b_52 A_b_52 D_b_52
        have F_value_b_52 : Fld Z h_54 b_52 "java/lang/String" "value" "[B" Value.null := D_b_52 (Or.inr (wd G 4 rfl)) (ty := (.array .byte)) (by decide)
        have F_coder_b_52 : Fld Z h_54 b_52 "java/lang/String" "coder" "B" (.int (0 : Int32)) := D_b_52 (Or.inr (wd G 5 rfl)) (ty := .byte) (by decide)
        refine Seg.dup d1_95 rfl (pc' := 96) rfl ?_
        refine Seg.aload d1_96 rfl rfl (pc' := 98) rfl ?_
        have F_55 := A_50.ext E_53
        refine Seg.callN (y' := (⟨"java/lang/String", "<init>", "([C)V"⟩ : MethodName)) (a := b_52) rfl (wd G 52 rfl) (wd G 53 rfl) (wd G 54 rfl) ⟨by decide, by decide⟩ (pays_str (W := 1) G [(fs.getD ((k0 + 1) % fs.length) 0)] 1 h_54 A_b_52 F_value_b_52 F_coder_b_52 F_55 rfl rfl (by decide) (by decide) (by intro c hc; simp only [List.mem_cons, List.not_mem_nil, or_false] at hc; rcases hc with rfl <;> assumption) (List.mem_of_getElem? (i := 0) rfl) (by decide) (by decide)) (argsL := [(.ref b_46)]) (rest := [(.ref b_52)]) rfl (lenOf pd_5 rfl) rfl (Nat.le_of_eq rfl) rfl d1_98 (pc' := 101) rfl (k' := 3) (n' := 6) rfl rfl (by decide) (by decide) ?_
        intro v_56 h_59 sz_57 q_58
        obtain ⟨rfl, K8, F8⟩ := q_58
        have E_60 : Ext h0 h_51 := ext_wr E_47 W_49 (Nat.le_trans (ext_rfl _).1 (Nat.le_of_eq e_b_46))
        have E_61 : Ext h0 h_54 := ext_tr E_60 E_53
        have E_62 : Ext h0 h_59 := ext_kp E_61 K8 (allS (Nat.le_trans E_60.1 (Nat.le_of_eq e_b_52)) all0)
        exact Seg.retA rfl rfl rfl d1_101 (by decide) (by decide) ⟨b_52, rfl, E_62, (show [(fs.getD ((k0 + 1) % fs.length) 0)] = fldL fs ss (x &&& 1) k0 k1 dd mm from by unfold fldL; rw [if_neg h1, if_pos h2]; rw [if_pos hb]) ▸ F8⟩
      · refine Seg.ifN d1_37 (XT.i0_eq_f h2) (pc' := 40) rfl ?_
        refine Seg.iconst (v := 3) d1_40 (by decide) (pc' := 41) rfl ?_
        refine Seg.iload d1_41 rfl (pc' := 43) rfl ?_
        refine Seg.isub (v := (2 : Int32)) d1_43 (by decide) (pc' := 44) rfl ?_
        refine Seg.istore (L' := #[.val (.ref a), .val (.ref b), .val (.int x), .val (.int dd), .val (.int mm), .val (.int (2 : Int32)), .val (.int (Int32.ofNat k0)), .val (.int (Int32.ofNat k1)), .unset, .unset, .unset]) d1_44 rfl (pc' := 46) rfl ?_
        refine Seg.goto (pc' := 60) d1_46 (by decide) (by decide) ?_
        refine Seg.aloadN d1_60 rfl rfl (pc' := 61) rfl ?_
        refine Seg.iload d1_61 rfl (pc' := 63) rfl ?_
        refine Seg.callV (y' := (⟨"java/lang/String", "charAt", "(I)C"⟩ : MethodName)) (z := (⟨"java/lang/String", "charAt", "(I)C"⟩ : MethodName)) (a := a) (wd G 28 rfl) (wd G 29 rfl) (nf_sel (wd G 31 rfl)) (wd G 31 rfl) (wd G 30 rfl) ⟨by decide, by decide⟩ f1 (pays_chr (W := 0) G h0 k0 F (fun c q => (hf c q).2) h0k rfl (by decide) (by decide)) (argsL := [(.int (Int32.ofNat k0))]) (rest := []) rfl (lenOf pd_1 rfl) rfl (Nat.le_of_eq rfl) rfl d1_63 (pc' := 66) rfl (k' := 0) (n' := 0) rfl rfl (by decide) (by decide) ?_
        intro v_63 h_66 sz_64 q_65
        obtain ⟨rfl, rfl⟩ := q_65
        refine Seg.istore (L' := #[.val (.ref a), .val (.ref b), .val (.int x), .val (.int dd), .val (.int mm), .val (.int (2 : Int32)), .val (.int (Int32.ofNat k0)), .val (.int (Int32.ofNat k1)), .val (.int (fs.getD k0 0)), .unset, .unset]) d1_66 rfl (pc' := 68) rfl ?_
        refine Seg.aloadN d1_68 rfl rfl (pc' := 69) rfl ?_
        refine Seg.iload d1_69 rfl (pc' := 71) rfl ?_
        refine Seg.callV (y' := (⟨"java/lang/String", "charAt", "(I)C"⟩ : MethodName)) (z := (⟨"java/lang/String", "charAt", "(I)C"⟩ : MethodName)) (a := b) (wd G 28 rfl) (wd G 29 rfl) (nf_sel (wd G 31 rfl)) (wd G 31 rfl) (wd G 30 rfl) ⟨by decide, by decide⟩ f2 (pays_chr (W := 0) G h0 k1 F' (fun c q => (hs c q).2) h1k rfl (by decide) (by decide)) (argsL := [(.int (Int32.ofNat k1))]) (rest := []) rfl (lenOf pd_1 rfl) rfl (Nat.le_of_eq rfl) rfl d1_71 (pc' := 74) rfl (k' := 0) (n' := 0) rfl rfl (by decide) (by decide) ?_
        intro v_67 h_70 sz_68 q_69
        obtain ⟨rfl, rfl⟩ := q_69
        have z0 := mem_getD hf h0k
        have z1 := mem_getD hs h1k
        refine Seg.istore (L' := #[.val (.ref a), .val (.ref b), .val (.int x), .val (.int dd), .val (.int mm), .val (.int (2 : Int32)), .val (.int (Int32.ofNat k0)), .val (.int (Int32.ofNat k1)), .val (.int (fs.getD k0 0)), .val (.int (ss.getD k1 0)), .unset]) d1_74 rfl (pc' := 76) rfl ?_
        refine Seg.iload d1_76 rfl (pc' := 78) rfl ?_
        refine Seg.iconst (v := 1) d1_78 (by decide) (pc' := 79) rfl ?_
        refine Seg.icY (pc' := 102) d1_79 (by decide) (by decide) (by decide) ?_
        refine Seg.iconst (v := 2) d1_102 (by decide) (pc' := 103) rfl ?_
        refine Seg.newP (ty := .char) (dv := (.int 0)) rfl rfl (wd G 50 rfl) d1_103 (pc' := 105) rfl (by decide) (cap := 2) (by decide) (by decide) (k' := 1) (n' := 2) rfl rfl (by decide) (by decide) ?_
        intro b_71 h_73 k_b_71 E_72 e_b_71 l_b_71 A_b_71
        replace A_b_71 : Arv Z h_73 b_71 k_b_71 .char (2 : Int32) [(.int (0 : Int32)), (.int (0 : Int32))] (.int 0) := A_b_71.pad (pad_rep [] (.int 0) 2)
        refine Seg.dup d1_105 rfl (pc' := 106) rfl ?_
        refine Seg.iconst (v := 0) d1_106 (by decide) (pc' := 107) rfl ?_
        refine Seg.iload d1_107 rfl (pc' := 109) rfl ?_
        refine Seg.castore (v' := (fs.getD k0 0)) (i := 0) A_b_71 ⟨by decide, by decide⟩ rfl (Nat.le_of_ble_eq_true rfl) (nar255 z0) (List.mem_of_getElem? (i := 0) rfl) d1_109 (pc' := 110) rfl ?_
        intro h_76 W_74 A_75
        replace A_75 : Arv Z h_76 b_71 k_b_71 .char (2 : Int32) [(.int (fs.getD k0 0)), (.int (0 : Int32))] (.int 0) := A_75
        refine Seg.dup d1_110 rfl (pc' := 111) rfl ?_
        refine Seg.iconst (v := 1) d1_111 (by decide) (pc' := 112) rfl ?_
        refine Seg.iload d1_112 rfl (pc' := 114) rfl ?_
        refine Seg.castore (v' := (ss.getD k1 0)) (i := 1) A_75 ⟨by decide, by decide⟩ rfl (Nat.le_of_ble_eq_true rfl) (nar255 z1) (List.mem_of_getElem? (i := 0) rfl) d1_114 (pc' := 115) rfl ?_
        intro h_79 W_77 A_78
        replace A_78 : Arv Z h_79 b_71 k_b_71 .char (2 : Int32) [(.int (fs.getD k0 0)), (.int (ss.getD k1 0))] (.int 0) := A_78
        refine Seg.astore (L' := #[.val (.ref a), .val (.ref b), .val (.int x), .val (.int dd), .val (.int mm), .val (.int (2 : Int32)), .val (.int (Int32.ofNat k0)), .val (.int (Int32.ofNat k1)), .val (.int (fs.getD k0 0)), .val (.int (ss.getD k1 0)), .val (.ref b_71)]) d1_115 rfl rfl (pc' := 117) rfl ?_
        refine Seg.newO (wd G 51 rfl) (wd G 2 rfl) (wd G 1 rfl) d1_117 (pc' := 120) rfl (k' := 2) (n' := 6) rfl rfl (by decide) (by decide) ?_
        intro b_80 h_82 E_81 e_b_80 l_b_80 A_b_80 D_b_80
        have F_value_b_80 : Fld Z h_82 b_80 "java/lang/String" "value" "[B" Value.null := D_b_80 (Or.inr (wd G 4 rfl)) (ty := (.array .byte)) (by decide)
        have F_coder_b_80 : Fld Z h_82 b_80 "java/lang/String" "coder" "B" (.int (0 : Int32)) := D_b_80 (Or.inr (wd G 5 rfl)) (ty := .byte) (by decide)
        refine Seg.dup d1_120 rfl (pc' := 121) rfl ?_
        refine Seg.aload d1_121 rfl rfl (pc' := 123) rfl ?_
        have F_83 := A_78.ext E_81
        refine Seg.callN (y' := (⟨"java/lang/String", "<init>", "([C)V"⟩ : MethodName)) (a := b_80) rfl (wd G 52 rfl) (wd G 53 rfl) (wd G 54 rfl) ⟨by decide, by decide⟩ (pays_str (W := 1) G [(fs.getD k0 0), (ss.getD k1 0)] 2 h_82 A_b_80 F_value_b_80 F_coder_b_80 F_83 rfl rfl (by decide) (by decide) (by intro c hc; simp only [List.mem_cons, List.not_mem_nil, or_false] at hc; rcases hc with rfl | rfl <;> assumption) (List.mem_of_getElem? (i := 0) rfl) (by decide) (by decide)) (argsL := [(.ref b_71)]) (rest := [(.ref b_80)]) rfl (lenOf pd_5 rfl) rfl (Nat.le_of_eq rfl) rfl d1_123 (pc' := 126) rfl (k' := 3) (n' := 8) rfl rfl (by decide) (by decide) ?_
        intro v_84 h_87 sz_85 q_86
        obtain ⟨rfl, K8, F8⟩ := q_86
        have E_88 : Ext h0 h_76 := ext_wr E_72 W_74 (Nat.le_trans (ext_rfl _).1 (Nat.le_of_eq e_b_71))
        have E_89 : Ext h0 h_79 := ext_wr E_88 W_77 (Nat.le_trans (ext_rfl _).1 (Nat.le_of_eq e_b_71))
        have E_90 : Ext h0 h_82 := ext_tr E_89 E_81
        have E_91 : Ext h0 h_87 := ext_kp E_90 K8 (allS (Nat.le_trans E_89.1 (Nat.le_of_eq e_b_80)) all0)
        exact Seg.retA rfl rfl rfl d1_126 (by decide) (by decide) ⟨b_80, rfl, E_91, (show [(fs.getD k0 0), (ss.getD k1 0)] = fldL fs ss (x &&& 1) k0 k1 dd mm from by unfold fldL; rw [if_neg h1, if_neg h2]; rw [if_pos hb]) ▸ F8⟩
  · refine Seg.iadd (v := (2 : Int32)) d1_4 (by rw [hb]; decide) (pc' := 5) rfl ?_
    refine Seg.istore (L' := #[.val (.ref a), .val (.ref b), .val (.int x), .val (.int dd), .val (.int mm), .val (.int (2 : Int32)), .unset, .unset, .unset, .unset, .unset]) d1_5 rfl (pc' := 7) rfl ?_
    refine Seg.iloadN d1_7 rfl (pc' := 8) rfl ?_
    refine Seg.iconst (v := 1) d1_8 (by decide) (pc' := 9) rfl ?_
    refine Seg.iushr (v := ((x).toUInt32 >>> ((1 : Int32) &&& 31).toUInt32).toInt32) d1_9 rfl (pc' := 10) rfl ?_
    refine Seg.ldcI (wd G 14 rfl) d1_10 (pc' := 12) rfl ?_
    refine Seg.iand (v := (((x).toUInt32 >>> ((1 : Int32) &&& 31).toUInt32).toInt32 &&& (65535 : Int32))) d1_12 rfl (pc' := 13) rfl ?_
    refine Seg.aloadN d1_13 rfl rfl (pc' := 14) rfl ?_
    refine Seg.callV (y' := (⟨"java/lang/String", "length", "()I"⟩ : MethodName)) (z := (⟨"java/lang/String", "length", "()I"⟩ : MethodName)) (a := a) (wd G 15 rfl) (wd G 16 rfl) (nf_sel (wd G 18 rfl)) (wd G 18 rfl) (wd G 17 rfl) ⟨by decide, by decide⟩ f1 (pays_len (W := 1) G h0 F (by decide) (by decide)) (argsL := []) (rest := [(.int (((x).toUInt32 >>> ((1 : Int32) &&& 31).toUInt32).toInt32 &&& (65535 : Int32)))]) rfl (lenOf pd_0 rfl) rfl (Nat.le_of_eq rfl) rfl d1_14 (pc' := 17) rfl (k' := 0) (n' := 0) rfl rfl (by decide) (by decide) ?_
    intro v_92 h_95 sz_93 q_94
    obtain ⟨rfl, rfl⟩ := q_94
    refine Seg.irem (v := (Int32.ofNat k0)) d1_17 (n32ne0 (by omega) (by omega)) e0 (pc' := 18) rfl ?_
    refine Seg.istore (L' := #[.val (.ref a), .val (.ref b), .val (.int x), .val (.int dd), .val (.int mm), .val (.int (2 : Int32)), .val (.int (Int32.ofNat k0)), .unset, .unset, .unset, .unset]) d1_18 rfl (pc' := 20) rfl ?_
    refine Seg.iloadN d1_20 rfl (pc' := 21) rfl ?_
    refine Seg.bipush (v := 17) d1_21 (by decide) (pc' := 23) rfl ?_
    refine Seg.iushr (v := ((x).toUInt32 >>> ((17 : Int32) &&& 31).toUInt32).toInt32) d1_23 rfl (pc' := 24) rfl ?_
    refine Seg.aloadN d1_24 rfl rfl (pc' := 25) rfl ?_
    refine Seg.callV (y' := (⟨"java/lang/String", "length", "()I"⟩ : MethodName)) (z := (⟨"java/lang/String", "length", "()I"⟩ : MethodName)) (a := b) (wd G 15 rfl) (wd G 16 rfl) (nf_sel (wd G 18 rfl)) (wd G 18 rfl) (wd G 17 rfl) ⟨by decide, by decide⟩ f2 (pays_len (W := 1) G h0 F' (by decide) (by decide)) (argsL := []) (rest := [(.int ((x).toUInt32 >>> ((17 : Int32) &&& 31).toUInt32).toInt32)]) rfl (lenOf pd_0 rfl) rfl (Nat.le_of_eq rfl) rfl d1_25 (pc' := 28) rfl (k' := 0) (n' := 0) rfl rfl (by decide) (by decide) ?_
    intro v_96 h_99 sz_97 q_98
    obtain ⟨rfl, rfl⟩ := q_98
    refine Seg.irem (v := (Int32.ofNat k1)) d1_28 (n32ne0 (by omega) (by omega)) e1 (pc' := 29) rfl ?_
    refine Seg.istore (L' := #[.val (.ref a), .val (.ref b), .val (.int x), .val (.int dd), .val (.int mm), .val (.int (2 : Int32)), .val (.int (Int32.ofNat k0)), .val (.int (Int32.ofNat k1)), .unset, .unset, .unset]) d1_29 rfl (pc' := 31) rfl ?_
    refine Seg.iloadN d1_31 rfl (pc' := 32) rfl ?_
    by_cases h1 : dd = 0
    · refine Seg.ifY (pc' := 60) d1_32 (XT.i0_eq_t h1) (by decide) (by decide) ?_
      refine Seg.aloadN d1_60 rfl rfl (pc' := 61) rfl ?_
      refine Seg.iload d1_61 rfl (pc' := 63) rfl ?_
      refine Seg.callV (y' := (⟨"java/lang/String", "charAt", "(I)C"⟩ : MethodName)) (z := (⟨"java/lang/String", "charAt", "(I)C"⟩ : MethodName)) (a := a) (wd G 28 rfl) (wd G 29 rfl) (nf_sel (wd G 31 rfl)) (wd G 31 rfl) (wd G 30 rfl) ⟨by decide, by decide⟩ f1 (pays_chr (W := 0) G h0 k0 F (fun c q => (hf c q).2) h0k rfl (by decide) (by decide)) (argsL := [(.int (Int32.ofNat k0))]) (rest := []) rfl (lenOf pd_1 rfl) rfl (Nat.le_of_eq rfl) rfl d1_63 (pc' := 66) rfl (k' := 0) (n' := 0) rfl rfl (by decide) (by decide) ?_
      intro v_100 h_103 sz_101 q_102
      obtain ⟨rfl, rfl⟩ := q_102
      refine Seg.istore (L' := #[.val (.ref a), .val (.ref b), .val (.int x), .val (.int dd), .val (.int mm), .val (.int (2 : Int32)), .val (.int (Int32.ofNat k0)), .val (.int (Int32.ofNat k1)), .val (.int (fs.getD k0 0)), .unset, .unset]) d1_66 rfl (pc' := 68) rfl ?_
      refine Seg.aloadN d1_68 rfl rfl (pc' := 69) rfl ?_
      refine Seg.iload d1_69 rfl (pc' := 71) rfl ?_
      refine Seg.callV (y' := (⟨"java/lang/String", "charAt", "(I)C"⟩ : MethodName)) (z := (⟨"java/lang/String", "charAt", "(I)C"⟩ : MethodName)) (a := b) (wd G 28 rfl) (wd G 29 rfl) (nf_sel (wd G 31 rfl)) (wd G 31 rfl) (wd G 30 rfl) ⟨by decide, by decide⟩ f2 (pays_chr (W := 0) G h0 k1 F' (fun c q => (hs c q).2) h1k rfl (by decide) (by decide)) (argsL := [(.int (Int32.ofNat k1))]) (rest := []) rfl (lenOf pd_1 rfl) rfl (Nat.le_of_eq rfl) rfl d1_71 (pc' := 74) rfl (k' := 0) (n' := 0) rfl rfl (by decide) (by decide) ?_
      intro v_104 h_107 sz_105 q_106
      obtain ⟨rfl, rfl⟩ := q_106
      have z0 := mem_getD hf h0k
      have z1 := mem_getD hs h1k
      refine Seg.istore (L' := #[.val (.ref a), .val (.ref b), .val (.int x), .val (.int dd), .val (.int mm), .val (.int (2 : Int32)), .val (.int (Int32.ofNat k0)), .val (.int (Int32.ofNat k1)), .val (.int (fs.getD k0 0)), .val (.int (ss.getD k1 0)), .unset]) d1_74 rfl (pc' := 76) rfl ?_
      refine Seg.iload d1_76 rfl (pc' := 78) rfl ?_
      refine Seg.iconst (v := 1) d1_78 (by decide) (pc' := 79) rfl ?_
      refine Seg.icY (pc' := 102) d1_79 (by decide) (by decide) (by decide) ?_
      refine Seg.iconst (v := 2) d1_102 (by decide) (pc' := 103) rfl ?_
      refine Seg.newP (ty := .char) (dv := (.int 0)) rfl rfl (wd G 50 rfl) d1_103 (pc' := 105) rfl (by decide) (cap := 2) (by decide) (by decide) (k' := 1) (n' := 2) rfl rfl (by decide) (by decide) ?_
      intro b_108 h_110 k_b_108 E_109 e_b_108 l_b_108 A_b_108
      replace A_b_108 : Arv Z h_110 b_108 k_b_108 .char (2 : Int32) [(.int (0 : Int32)), (.int (0 : Int32))] (.int 0) := A_b_108.pad (pad_rep [] (.int 0) 2)
      refine Seg.dup d1_105 rfl (pc' := 106) rfl ?_
      refine Seg.iconst (v := 0) d1_106 (by decide) (pc' := 107) rfl ?_
      refine Seg.iload d1_107 rfl (pc' := 109) rfl ?_
      refine Seg.castore (v' := (fs.getD k0 0)) (i := 0) A_b_108 ⟨by decide, by decide⟩ rfl (Nat.le_of_ble_eq_true rfl) (nar255 z0) (List.mem_of_getElem? (i := 0) rfl) d1_109 (pc' := 110) rfl ?_
      intro h_113 W_111 A_112
      replace A_112 : Arv Z h_113 b_108 k_b_108 .char (2 : Int32) [(.int (fs.getD k0 0)), (.int (0 : Int32))] (.int 0) := A_112
      refine Seg.dup d1_110 rfl (pc' := 111) rfl ?_
      refine Seg.iconst (v := 1) d1_111 (by decide) (pc' := 112) rfl ?_
      refine Seg.iload d1_112 rfl (pc' := 114) rfl ?_
      refine Seg.castore (v' := (ss.getD k1 0)) (i := 1) A_112 ⟨by decide, by decide⟩ rfl (Nat.le_of_ble_eq_true rfl) (nar255 z1) (List.mem_of_getElem? (i := 0) rfl) d1_114 (pc' := 115) rfl ?_
      intro h_116 W_114 A_115
      replace A_115 : Arv Z h_116 b_108 k_b_108 .char (2 : Int32) [(.int (fs.getD k0 0)), (.int (ss.getD k1 0))] (.int 0) := A_115
      refine Seg.astore (L' := #[.val (.ref a), .val (.ref b), .val (.int x), .val (.int dd), .val (.int mm), .val (.int (2 : Int32)), .val (.int (Int32.ofNat k0)), .val (.int (Int32.ofNat k1)), .val (.int (fs.getD k0 0)), .val (.int (ss.getD k1 0)), .val (.ref b_108)]) d1_115 rfl rfl (pc' := 117) rfl ?_
      refine Seg.newO (wd G 51 rfl) (wd G 2 rfl) (wd G 1 rfl) d1_117 (pc' := 120) rfl (k' := 2) (n' := 6) rfl rfl (by decide) (by decide) ?_
      intro b_117 h_119 E_118 e_b_117 l_b_117 A_b_117 D_b_117
      have F_value_b_117 : Fld Z h_119 b_117 "java/lang/String" "value" "[B" Value.null := D_b_117 (Or.inr (wd G 4 rfl)) (ty := (.array .byte)) (by decide)
      have F_coder_b_117 : Fld Z h_119 b_117 "java/lang/String" "coder" "B" (.int (0 : Int32)) := D_b_117 (Or.inr (wd G 5 rfl)) (ty := .byte) (by decide)
      refine Seg.dup d1_120 rfl (pc' := 121) rfl ?_
      refine Seg.aload d1_121 rfl rfl (pc' := 123) rfl ?_
      have F_120 := A_115.ext E_118
      refine Seg.callN (y' := (⟨"java/lang/String", "<init>", "([C)V"⟩ : MethodName)) (a := b_117) rfl (wd G 52 rfl) (wd G 53 rfl) (wd G 54 rfl) ⟨by decide, by decide⟩ (pays_str (W := 1) G [(fs.getD k0 0), (ss.getD k1 0)] 2 h_119 A_b_117 F_value_b_117 F_coder_b_117 F_120 rfl rfl (by decide) (by decide) (by intro c hc; simp only [List.mem_cons, List.not_mem_nil, or_false] at hc; rcases hc with rfl | rfl <;> assumption) (List.mem_of_getElem? (i := 0) rfl) (by decide) (by decide)) (argsL := [(.ref b_108)]) (rest := [(.ref b_117)]) rfl (lenOf pd_5 rfl) rfl (Nat.le_of_eq rfl) rfl d1_123 (pc' := 126) rfl (k' := 3) (n' := 8) rfl rfl (by decide) (by decide) ?_
      intro v_121 h_124 sz_122 q_123
      obtain ⟨rfl, K8, F8⟩ := q_123
      have E_125 : Ext h0 h_113 := ext_wr E_109 W_111 (Nat.le_trans (ext_rfl _).1 (Nat.le_of_eq e_b_108))
      have E_126 : Ext h0 h_116 := ext_wr E_125 W_114 (Nat.le_trans (ext_rfl _).1 (Nat.le_of_eq e_b_108))
      have E_127 : Ext h0 h_119 := ext_tr E_126 E_118
      have E_128 : Ext h0 h_124 := ext_kp E_127 K8 (allS (Nat.le_trans E_126.1 (Nat.le_of_eq e_b_117)) all0)
      exact Seg.retA rfl rfl rfl d1_126 (by decide) (by decide) ⟨b_117, rfl, E_128, (show [(fs.getD k0 0), (ss.getD k1 0)] = fldL fs ss (x &&& 1) k0 k1 dd mm from by unfold fldL; rw [if_pos h1]; rw [if_neg (by rw [hb]; decide)]) ▸ F8⟩
    · refine Seg.ifN d1_32 (XT.i0_eq_f h1) (pc' := 35) rfl ?_
      refine Seg.iload d1_35 rfl (pc' := 37) rfl ?_
      by_cases h2 : mm = 0
      · refine Seg.ifY (pc' := 49) d1_37 (XT.i0_eq_t h2) (by decide) (by decide) ?_
        refine Seg.iload d1_49 rfl (pc' := 51) rfl ?_
        refine Seg.iconst (v := 1) d1_51 (by decide) (pc' := 52) rfl ?_
        refine Seg.iadd (v := (Int32.ofNat (k0 + 1))) d1_52 (n32s k0) (pc' := 53) rfl ?_
        refine Seg.aloadN d1_53 rfl rfl (pc' := 54) rfl ?_
        refine Seg.callV (y' := (⟨"java/lang/String", "length", "()I"⟩ : MethodName)) (z := (⟨"java/lang/String", "length", "()I"⟩ : MethodName)) (a := a) (wd G 15 rfl) (wd G 16 rfl) (nf_sel (wd G 18 rfl)) (wd G 18 rfl) (wd G 17 rfl) ⟨by decide, by decide⟩ f1 (pays_len (W := 1) G h0 F (by decide) (by decide)) (argsL := []) (rest := [(.int (Int32.ofNat (k0 + 1)))]) rfl (lenOf pd_0 rfl) rfl (Nat.le_of_eq rfl) rfl d1_54 (pc' := 57) rfl (k' := 0) (n' := 0) rfl rfl (by decide) (by decide) ?_
        intro v_129 h_132 sz_130 q_131
        obtain ⟨rfl, rfl⟩ := q_131
        refine Seg.irem (v := (Int32.ofNat ((k0 + 1) % fs.length))) d1_57 (n32ne0 (by omega) (by omega)) (n32mod h0k (by omega)) (pc' := 58) rfl ?_
        refine Seg.istore (L' := #[.val (.ref a), .val (.ref b), .val (.int x), .val (.int dd), .val (.int mm), .val (.int (2 : Int32)), .val (.int (Int32.ofNat ((k0 + 1) % fs.length))), .val (.int (Int32.ofNat k1)), .unset, .unset, .unset]) d1_58 rfl (pc' := 60) rfl ?_
        refine Seg.aloadN d1_60 rfl rfl (pc' := 61) rfl ?_
        refine Seg.iload d1_61 rfl (pc' := 63) rfl ?_
        refine Seg.callV (y' := (⟨"java/lang/String", "charAt", "(I)C"⟩ : MethodName)) (z := (⟨"java/lang/String", "charAt", "(I)C"⟩ : MethodName)) (a := a) (wd G 28 rfl) (wd G 29 rfl) (nf_sel (wd G 31 rfl)) (wd G 31 rfl) (wd G 30 rfl) ⟨by decide, by decide⟩ f1 (pays_chr (W := 0) G h0 ((k0 + 1) % fs.length) F (fun c q => (hf c q).2) (Nat.mod_lt (k0 + 1) (show fs.length > 0 by omega)) rfl (by decide) (by decide)) (argsL := [(.int (Int32.ofNat ((k0 + 1) % fs.length)))]) (rest := []) rfl (lenOf pd_1 rfl) rfl (Nat.le_of_eq rfl) rfl d1_63 (pc' := 66) rfl (k' := 0) (n' := 0) rfl rfl (by decide) (by decide) ?_
        intro v_133 h_136 sz_134 q_135
        obtain ⟨rfl, rfl⟩ := q_135
        refine Seg.istore (L' := #[.val (.ref a), .val (.ref b), .val (.int x), .val (.int dd), .val (.int mm), .val (.int (2 : Int32)), .val (.int (Int32.ofNat ((k0 + 1) % fs.length))), .val (.int (Int32.ofNat k1)), .val (.int (fs.getD ((k0 + 1) % fs.length) 0)), .unset, .unset]) d1_66 rfl (pc' := 68) rfl ?_
        refine Seg.aloadN d1_68 rfl rfl (pc' := 69) rfl ?_
        refine Seg.iload d1_69 rfl (pc' := 71) rfl ?_
        refine Seg.callV (y' := (⟨"java/lang/String", "charAt", "(I)C"⟩ : MethodName)) (z := (⟨"java/lang/String", "charAt", "(I)C"⟩ : MethodName)) (a := b) (wd G 28 rfl) (wd G 29 rfl) (nf_sel (wd G 31 rfl)) (wd G 31 rfl) (wd G 30 rfl) ⟨by decide, by decide⟩ f2 (pays_chr (W := 0) G h0 k1 F' (fun c q => (hs c q).2) h1k rfl (by decide) (by decide)) (argsL := [(.int (Int32.ofNat k1))]) (rest := []) rfl (lenOf pd_1 rfl) rfl (Nat.le_of_eq rfl) rfl d1_71 (pc' := 74) rfl (k' := 0) (n' := 0) rfl rfl (by decide) (by decide) ?_
        intro v_137 h_140 sz_138 q_139
        obtain ⟨rfl, rfl⟩ := q_139
        have z0 := mem_getD hf (Nat.mod_lt (k0 + 1) (show fs.length > 0 by omega))
        have z1 := mem_getD hs h1k
        refine Seg.istore (L' := #[.val (.ref a), .val (.ref b), .val (.int x), .val (.int dd), .val (.int mm), .val (.int (2 : Int32)), .val (.int (Int32.ofNat ((k0 + 1) % fs.length))), .val (.int (Int32.ofNat k1)), .val (.int (fs.getD ((k0 + 1) % fs.length) 0)), .val (.int (ss.getD k1 0)), .unset]) d1_74 rfl (pc' := 76) rfl ?_
        refine Seg.iload d1_76 rfl (pc' := 78) rfl ?_
        refine Seg.iconst (v := 1) d1_78 (by decide) (pc' := 79) rfl ?_
        refine Seg.icY (pc' := 102) d1_79 (by decide) (by decide) (by decide) ?_
        refine Seg.iconst (v := 2) d1_102 (by decide) (pc' := 103) rfl ?_
        refine Seg.newP (ty := .char) (dv := (.int 0)) rfl rfl (wd G 50 rfl) d1_103 (pc' := 105) rfl (by decide) (cap := 2) (by decide) (by decide) (k' := 1) (n' := 2) rfl rfl (by decide) (by decide) ?_
        intro b_141 h_143 k_b_141 E_142 e_b_141 l_b_141 A_b_141
        replace A_b_141 : Arv Z h_143 b_141 k_b_141 .char (2 : Int32) [(.int (0 : Int32)), (.int (0 : Int32))] (.int 0) := A_b_141.pad (pad_rep [] (.int 0) 2)
        refine Seg.dup d1_105 rfl (pc' := 106) rfl ?_
        refine Seg.iconst (v := 0) d1_106 (by decide) (pc' := 107) rfl ?_
        refine Seg.iload d1_107 rfl (pc' := 109) rfl ?_
        refine Seg.castore (v' := (fs.getD ((k0 + 1) % fs.length) 0)) (i := 0) A_b_141 ⟨by decide, by decide⟩ rfl (Nat.le_of_ble_eq_true rfl) (nar255 z0) (List.mem_of_getElem? (i := 0) rfl) d1_109 (pc' := 110) rfl ?_
        intro h_146 W_144 A_145
        replace A_145 : Arv Z h_146 b_141 k_b_141 .char (2 : Int32) [(.int (fs.getD ((k0 + 1) % fs.length) 0)), (.int (0 : Int32))] (.int 0) := A_145
        refine Seg.dup d1_110 rfl (pc' := 111) rfl ?_
        refine Seg.iconst (v := 1) d1_111 (by decide) (pc' := 112) rfl ?_
        refine Seg.iload d1_112 rfl (pc' := 114) rfl ?_
        refine Seg.castore (v' := (ss.getD k1 0)) (i := 1) A_145 ⟨by decide, by decide⟩ rfl (Nat.le_of_ble_eq_true rfl) (nar255 z1) (List.mem_of_getElem? (i := 0) rfl) d1_114 (pc' := 115) rfl ?_
        intro h_149 W_147 A_148
        replace A_148 : Arv Z h_149 b_141 k_b_141 .char (2 : Int32) [(.int (fs.getD ((k0 + 1) % fs.length) 0)), (.int (ss.getD k1 0))] (.int 0) := A_148
        refine Seg.astore (L' := #[.val (.ref a), .val (.ref b), .val (.int x), .val (.int dd), .val (.int mm), .val (.int (2 : Int32)), .val (.int (Int32.ofNat ((k0 + 1) % fs.length))), .val (.int (Int32.ofNat k1)), .val (.int (fs.getD ((k0 + 1) % fs.length) 0)), .val (.int (ss.getD k1 0)), .val (.ref b_141)]) d1_115 rfl rfl (pc' := 117) rfl ?_
        refine Seg.newO (wd G 51 rfl) (wd G 2 rfl) (wd G 1 rfl) d1_117 (pc' := 120) rfl (k' := 2) (n' := 6) rfl rfl (by decide) (by decide) ?_
        intro b_150 h_152 E_151 e_b_150 l_b_150 A_b_150 D_b_150
        have F_value_b_150 : Fld Z h_152 b_150 "java/lang/String" "value" "[B" Value.null := D_b_150 (Or.inr (wd G 4 rfl)) (ty := (.array .byte)) (by decide)
        have F_coder_b_150 : Fld Z h_152 b_150 "java/lang/String" "coder" "B" (.int (0 : Int32)) := D_b_150 (Or.inr (wd G 5 rfl)) (ty := .byte) (by decide)
        refine Seg.dup d1_120 rfl (pc' := 121) rfl ?_
        refine Seg.aload d1_121 rfl rfl (pc' := 123) rfl ?_
        have F_153 := A_148.ext E_151
        refine Seg.callN (y' := (⟨"java/lang/String", "<init>", "([C)V"⟩ : MethodName)) (a := b_150) rfl (wd G 52 rfl) (wd G 53 rfl) (wd G 54 rfl) ⟨by decide, by decide⟩ (pays_str (W := 1) G [(fs.getD ((k0 + 1) % fs.length) 0), (ss.getD k1 0)] 2 h_152 A_b_150 F_value_b_150 F_coder_b_150 F_153 rfl rfl (by decide) (by decide) (by intro c hc; simp only [List.mem_cons, List.not_mem_nil, or_false] at hc; rcases hc with rfl | rfl <;> assumption) (List.mem_of_getElem? (i := 0) rfl) (by decide) (by decide)) (argsL := [(.ref b_141)]) (rest := [(.ref b_150)]) rfl (lenOf pd_5 rfl) rfl (Nat.le_of_eq rfl) rfl d1_123 (pc' := 126) rfl (k' := 3) (n' := 8) rfl rfl (by decide) (by decide) ?_
        intro v_154 h_157 sz_155 q_156
        obtain ⟨rfl, K8, F8⟩ := q_156
        have E_158 : Ext h0 h_146 := ext_wr E_142 W_144 (Nat.le_trans (ext_rfl _).1 (Nat.le_of_eq e_b_141))
        have E_159 : Ext h0 h_149 := ext_wr E_158 W_147 (Nat.le_trans (ext_rfl _).1 (Nat.le_of_eq e_b_141))
        have E_160 : Ext h0 h_152 := ext_tr E_159 E_151
        have E_161 : Ext h0 h_157 := ext_kp E_160 K8 (allS (Nat.le_trans E_159.1 (Nat.le_of_eq e_b_150)) all0)
        exact Seg.retA rfl rfl rfl d1_126 (by decide) (by decide) ⟨b_150, rfl, E_161, (show [(fs.getD ((k0 + 1) % fs.length) 0), (ss.getD k1 0)] = fldL fs ss (x &&& 1) k0 k1 dd mm from by unfold fldL; rw [if_neg h1, if_pos h2]; rw [if_neg (by rw [hb]; decide)]) ▸ F8⟩
      · refine Seg.ifN d1_37 (XT.i0_eq_f h2) (pc' := 40) rfl ?_
        refine Seg.iconst (v := 3) d1_40 (by decide) (pc' := 41) rfl ?_
        refine Seg.iload d1_41 rfl (pc' := 43) rfl ?_
        refine Seg.isub (v := (1 : Int32)) d1_43 (by decide) (pc' := 44) rfl ?_
        refine Seg.istore (L' := #[.val (.ref a), .val (.ref b), .val (.int x), .val (.int dd), .val (.int mm), .val (.int (1 : Int32)), .val (.int (Int32.ofNat k0)), .val (.int (Int32.ofNat k1)), .unset, .unset, .unset]) d1_44 rfl (pc' := 46) rfl ?_
        refine Seg.goto (pc' := 60) d1_46 (by decide) (by decide) ?_
        refine Seg.aloadN d1_60 rfl rfl (pc' := 61) rfl ?_
        refine Seg.iload d1_61 rfl (pc' := 63) rfl ?_
        refine Seg.callV (y' := (⟨"java/lang/String", "charAt", "(I)C"⟩ : MethodName)) (z := (⟨"java/lang/String", "charAt", "(I)C"⟩ : MethodName)) (a := a) (wd G 28 rfl) (wd G 29 rfl) (nf_sel (wd G 31 rfl)) (wd G 31 rfl) (wd G 30 rfl) ⟨by decide, by decide⟩ f1 (pays_chr (W := 0) G h0 k0 F (fun c q => (hf c q).2) h0k rfl (by decide) (by decide)) (argsL := [(.int (Int32.ofNat k0))]) (rest := []) rfl (lenOf pd_1 rfl) rfl (Nat.le_of_eq rfl) rfl d1_63 (pc' := 66) rfl (k' := 0) (n' := 0) rfl rfl (by decide) (by decide) ?_
        intro v_162 h_165 sz_163 q_164
        obtain ⟨rfl, rfl⟩ := q_164
        refine Seg.istore (L' := #[.val (.ref a), .val (.ref b), .val (.int x), .val (.int dd), .val (.int mm), .val (.int (1 : Int32)), .val (.int (Int32.ofNat k0)), .val (.int (Int32.ofNat k1)), .val (.int (fs.getD k0 0)), .unset, .unset]) d1_66 rfl (pc' := 68) rfl ?_
        refine Seg.aloadN d1_68 rfl rfl (pc' := 69) rfl ?_
        refine Seg.iload d1_69 rfl (pc' := 71) rfl ?_
        refine Seg.callV (y' := (⟨"java/lang/String", "charAt", "(I)C"⟩ : MethodName)) (z := (⟨"java/lang/String", "charAt", "(I)C"⟩ : MethodName)) (a := b) (wd G 28 rfl) (wd G 29 rfl) (nf_sel (wd G 31 rfl)) (wd G 31 rfl) (wd G 30 rfl) ⟨by decide, by decide⟩ f2 (pays_chr (W := 0) G h0 k1 F' (fun c q => (hs c q).2) h1k rfl (by decide) (by decide)) (argsL := [(.int (Int32.ofNat k1))]) (rest := []) rfl (lenOf pd_1 rfl) rfl (Nat.le_of_eq rfl) rfl d1_71 (pc' := 74) rfl (k' := 0) (n' := 0) rfl rfl (by decide) (by decide) ?_
        intro v_166 h_169 sz_167 q_168
        obtain ⟨rfl, rfl⟩ := q_168
        have z0 := mem_getD hf h0k
        have z1 := mem_getD hs h1k
        refine Seg.istore (L' := #[.val (.ref a), .val (.ref b), .val (.int x), .val (.int dd), .val (.int mm), .val (.int (1 : Int32)), .val (.int (Int32.ofNat k0)), .val (.int (Int32.ofNat k1)), .val (.int (fs.getD k0 0)), .val (.int (ss.getD k1 0)), .unset]) d1_74 rfl (pc' := 76) rfl ?_
        refine Seg.iload d1_76 rfl (pc' := 78) rfl ?_
        refine Seg.iconst (v := 1) d1_78 (by decide) (pc' := 79) rfl ?_
        refine Seg.icN d1_79 (by decide) (pc' := 82) rfl ?_
        refine Seg.iconst (v := 1) d1_82 (by decide) (pc' := 83) rfl ?_
        refine Seg.newP (ty := .char) (dv := (.int 0)) rfl rfl (wd G 50 rfl) d1_83 (pc' := 85) rfl (by decide) (cap := 1) (by decide) (by decide) (k' := 1) (n' := 1) rfl rfl (by decide) (by decide) ?_
        intro b_170 h_172 k_b_170 E_171 e_b_170 l_b_170 A_b_170
        replace A_b_170 : Arv Z h_172 b_170 k_b_170 .char (1 : Int32) [(.int (0 : Int32))] (.int 0) := A_b_170.pad (pad_rep [] (.int 0) 1)
        refine Seg.dup d1_85 rfl (pc' := 86) rfl ?_
        refine Seg.iconst (v := 0) d1_86 (by decide) (pc' := 87) rfl ?_
        refine Seg.iload d1_87 rfl (pc' := 89) rfl ?_
        refine Seg.castore (v' := (fs.getD k0 0)) (i := 0) A_b_170 ⟨by decide, by decide⟩ rfl (Nat.le_of_ble_eq_true rfl) (nar255 z0) (List.mem_of_getElem? (i := 0) rfl) d1_89 (pc' := 90) rfl ?_
        intro h_175 W_173 A_174
        replace A_174 : Arv Z h_175 b_170 k_b_170 .char (1 : Int32) [(.int (fs.getD k0 0))] (.int 0) := A_174
        refine Seg.astore (L' := #[.val (.ref a), .val (.ref b), .val (.int x), .val (.int dd), .val (.int mm), .val (.int (1 : Int32)), .val (.int (Int32.ofNat k0)), .val (.int (Int32.ofNat k1)), .val (.int (fs.getD k0 0)), .val (.int (ss.getD k1 0)), .val (.ref b_170)]) d1_90 rfl rfl (pc' := 92) rfl ?_
        refine Seg.newO (wd G 51 rfl) (wd G 2 rfl) (wd G 1 rfl) d1_92 (pc' := 95) rfl (k' := 2) (n' := 5) rfl rfl (by decide) (by decide) ?_
        intro b_176 h_178 E_177 e_b_176 l_b_176 A_b_176 D_b_176
        have F_value_b_176 : Fld Z h_178 b_176 "java/lang/String" "value" "[B" Value.null := D_b_176 (Or.inr (wd G 4 rfl)) (ty := (.array .byte)) (by decide)
        have F_coder_b_176 : Fld Z h_178 b_176 "java/lang/String" "coder" "B" (.int (0 : Int32)) := D_b_176 (Or.inr (wd G 5 rfl)) (ty := .byte) (by decide)
        refine Seg.dup d1_95 rfl (pc' := 96) rfl ?_
        refine Seg.aload d1_96 rfl rfl (pc' := 98) rfl ?_
        have F_179 := A_174.ext E_177
        refine Seg.callN (y' := (⟨"java/lang/String", "<init>", "([C)V"⟩ : MethodName)) (a := b_176) rfl (wd G 52 rfl) (wd G 53 rfl) (wd G 54 rfl) ⟨by decide, by decide⟩ (pays_str (W := 1) G [(fs.getD k0 0)] 1 h_178 A_b_176 F_value_b_176 F_coder_b_176 F_179 rfl rfl (by decide) (by decide) (by intro c hc; simp only [List.mem_cons, List.not_mem_nil, or_false] at hc; rcases hc with rfl <;> assumption) (List.mem_of_getElem? (i := 0) rfl) (by decide) (by decide)) (argsL := [(.ref b_170)]) (rest := [(.ref b_176)]) rfl (lenOf pd_5 rfl) rfl (Nat.le_of_eq rfl) rfl d1_98 (pc' := 101) rfl (k' := 3) (n' := 6) rfl rfl (by decide) (by decide) ?_
        intro v_180 h_183 sz_181 q_182
        obtain ⟨rfl, K8, F8⟩ := q_182
        have E_184 : Ext h0 h_175 := ext_wr E_171 W_173 (Nat.le_trans (ext_rfl _).1 (Nat.le_of_eq e_b_170))
        have E_185 : Ext h0 h_178 := ext_tr E_184 E_177
        have E_186 : Ext h0 h_183 := ext_kp E_185 K8 (allS (Nat.le_trans E_184.1 (Nat.le_of_eq e_b_176)) all0)
        exact Seg.retA rfl rfl rfl d1_101 (by decide) (by decide) ⟨b_176, rfl, E_186, (show [(fs.getD k0 0)] = fldL fs ss (x &&& 1) k0 k1 dd mm from by unfold fldL; rw [if_neg h1, if_neg h2]; rw [if_neg (by rw [hb]; decide)]) ▸ F8⟩
theorem d23_0 : decode prog_25_method_7_code 0 = .ok (.aload_n 1, 1) := by decide +kernel
theorem d23_1 : decode prog_25_method_7_code 1 = .ok (.instanceof 8, 3) := by decide +kernel
theorem d23_4 : decode prog_25_method_7_code 4 = .ok (.ifCond .eq 54, 3) := by decide +kernel
theorem d23_7 : decode prog_25_method_7_code 7 = .ok (.aload_n 1, 1) := by decide +kernel
theorem d23_8 : decode prog_25_method_7_code 8 = .ok (.checkcast 8, 3) := by decide +kernel
theorem d23_11 : decode prog_25_method_7_code 11 = .ok (.astore_n 2, 1) := by decide +kernel
theorem d23_12 : decode prog_25_method_7_code 12 = .ok (.aload_n 0, 1) := by decide +kernel
theorem d23_13 : decode prog_25_method_7_code 13 = .ok (.getfield 32, 3) := by decide +kernel
theorem d23_16 : decode prog_25_method_7_code 16 = .ok (.aload_n 2, 1) := by decide +kernel
theorem d23_17 : decode prog_25_method_7_code 17 = .ok (.getfield 32, 3) := by decide +kernel
theorem d23_20 : decode prog_25_method_7_code 20 = .ok (.invokevirtual 53, 3) := by decide +kernel
theorem d23_23 : decode prog_25_method_7_code 23 = .ok (.ifCond .eq 35, 3) := by decide +kernel
theorem d23_26 : decode prog_25_method_7_code 26 = .ok (.aload_n 0, 1) := by decide +kernel
theorem d23_27 : decode prog_25_method_7_code 27 = .ok (.getfield 35, 3) := by decide +kernel
theorem d23_30 : decode prog_25_method_7_code 30 = .ok (.aload_n 2, 1) := by decide +kernel
theorem d23_31 : decode prog_25_method_7_code 31 = .ok (.getfield 35, 3) := by decide +kernel
theorem d23_34 : decode prog_25_method_7_code 34 = .ok (.invokevirtual 53, 3) := by decide +kernel
theorem d23_37 : decode prog_25_method_7_code 37 = .ok (.ifCond .eq 21, 3) := by decide +kernel
theorem d23_40 : decode prog_25_method_7_code 40 = .ok (.aload_n 0, 1) := by decide +kernel
theorem d23_41 : decode prog_25_method_7_code 41 = .ok (.getfield 38, 3) := by decide +kernel
theorem d23_44 : decode prog_25_method_7_code 44 = .ok (.aload_n 2, 1) := by decide +kernel
theorem d23_45 : decode prog_25_method_7_code 45 = .ok (.getfield 38, 3) := by decide +kernel
theorem d23_48 : decode prog_25_method_7_code 48 = .ok (.invokevirtual 53, 3) := by decide +kernel
theorem d23_51 : decode prog_25_method_7_code 51 = .ok (.ifCond .eq 7, 3) := by decide +kernel
theorem d23_54 : decode prog_25_method_7_code 54 = .ok (.iconst 1, 1) := by decide +kernel
theorem d23_55 : decode prog_25_method_7_code 55 = .ok (.goto 4, 3) := by decide +kernel
theorem d23_59 : decode prog_25_method_7_code 59 = .ok (.ireturn, 1) := by decide +kernel
theorem d23_58 : decode prog_25_method_7_code 58 = .ok (.iconst 0, 1) := by decide +kernel
theorem ef_ct_req (a : Addr) (b : Addr) (s1 : Addr) (s2 : Addr) (s3 : Addr) (s4 : Addr) (s5 : Addr) (s6 : Addr) (c1 : List Int32) (c2 : List Int32) (c3 : List Int32) (c4 : List Int32) (c5 : List Int32) (c6 : List Int32) (m : MethodId) : entryFrame m #[(.ref a), (.ref b)] 3 = mkF m 0 #[.val (.ref a), .val (.ref b), .unset] [] := by first | (simp [entryFrame, mkF, argsToLocals, Value.category]; done) | rfl
set_option maxRecDepth 65536 in
set_option maxHeartbeats 4000000 in
theorem ct_req {l : Launch} {Z : State} {a0 : Array Value} (G : Env1 Z a0) (a : Addr) (b : Addr) (s1 : Addr) (s2 : Addr) (s3 : Addr) (s4 : Addr) (s5 : Addr) (s6 : Addr) (c1 : List Int32) (c2 : List Int32) (c3 : List Int32) (c4 : List Int32) (c5 : List Int32) (c6 : List Int32) (h0 : Heap) (B : Exa Z h0 b "com/example/kredential/kredential/Resource") (Fa0 : Fld Z h0 a "com/example/kredential/kredential/Resource" "type" "Ljava/lang/String;" (.ref s1)) (Fa1 : Fld Z h0 a "com/example/kredential/kredential/Resource" "id" "Ljava/lang/String;" (.ref s2)) (Fa2 : Fld Z h0 a "com/example/kredential/kredential/Resource" "owner" "Ljava/lang/String;" (.ref s3)) (Fb0 : Fld Z h0 b "com/example/kredential/kredential/Resource" "type" "Ljava/lang/String;" (.ref s4)) (Fb1 : Fld Z h0 b "com/example/kredential/kredential/Resource" "id" "Ljava/lang/String;" (.ref s5)) (Fb2 : Fld Z h0 b "com/example/kredential/kredential/Resource" "owner" "Ljava/lang/String;" (.ref s6)) (T1 : Str Z h0 s1 c1) (T2 : Str Z h0 s2 c2) (T3 : Str Z h0 s3 c3) (T4 : Str Z h0 s4 c4) (T5 : Str Z h0 s5 c5) (T6 : Str Z h0 s6 c6) :
    Ct l Z EL1 [] [] (⟨"com/example/kredential/kredential/Resource", "equals", "(Ljava/lang/Object;)Z"⟩ : MethodName) prog_25_method_7_code 3 (some .boolean) ({ frames := 2, cells := 0, slots := 0, locals := 28 } : Room) #[(.ref a), (.ref b)] h0 (fun v h => v = some (.int (if c1 = c4 ∧ c2 = c5 ∧ c3 = c6 then 1 else 0)) ∧ h0 = h) := by
  refine Ct.of_seg (a0 := a0) (plainFor_of_name pn_com_example_kredential_kredential_Resource) G.2.1 (ef_ct_req a b s1 s2 s3 s4 s5 s6 c1 c2 c3 c4 c5 c6) ?_
  have x1 := T1.exa
  have x2 := T2.exa
  have x3 := T3.exa
  have x4 := T4.exa
  have x5 := T5.exa
  have x6 := T6.exa
  refine Seg.aloadN d23_0 rfl rfl (pc' := 1) rfl ?_
  refine Seg.instY (wd G 137 rfl) (Ins.self B) d23_1 (pc' := 4) rfl ?_
  refine Seg.ifN d23_4 (by decide) (pc' := 7) rfl ?_
  refine Seg.aloadN d23_7 rfl rfl (pc' := 8) rfl ?_
  refine Seg.castY (wd G 137 rfl) (Ins.self B) d23_8 (pc' := 11) rfl ?_
  refine Seg.astoreN (L' := #[.val (.ref a), .val (.ref b), .val (.ref b)]) d23_11 rfl rfl (pc' := 12) rfl ?_
  refine Seg.aloadN d23_12 rfl rfl (pc' := 13) rfl ?_
  refine Seg.getF (host := "") (Or.inl (wd G 126 rfl)) Via.refl Fa0 d23_13 (pc' := 16) rfl ?_
  refine Seg.aloadN d23_16 rfl rfl (pc' := 17) rfl ?_
  refine Seg.getF (host := "") (Or.inl (wd G 126 rfl)) Via.refl Fb0 d23_17 (pc' := 20) rfl ?_
  by_cases j0 : c1 = c4
  · refine Seg.callV (y' := (⟨"java/lang/String", "equals", "(Ljava/lang/Object;)Z"⟩ : MethodName)) (z := (⟨"java/lang/String", "equals", "(Ljava/lang/Object;)Z"⟩ : MethodName)) (a := s1) (wd G 139 rfl) (wd G 110 rfl) (nf_sel (wd G 112 rfl)) (wd G 112 rfl) (wd G 111 rfl) ⟨by decide, by decide⟩ x1 (pays_eqT (W := 0) G h0 T1 T4 j0 (by decide) (by decide)) (argsL := [(.ref s4)]) (rest := []) rfl (lenOf pd_3 rfl) rfl (Nat.le_of_eq rfl) rfl d23_20 (pc' := 23) rfl (k' := 0) (n' := 0) rfl rfl (by decide) (by decide) ?_
    intro v_1 h_4 sz_2 q_3
    obtain ⟨rfl, rfl⟩ := q_3
    skip
    refine Seg.ifN d23_23 (by decide) (pc' := 26) rfl ?_
    refine Seg.aloadN d23_26 rfl rfl (pc' := 27) rfl ?_
    refine Seg.getF (host := "") (Or.inl (wd G 128 rfl)) Via.refl Fa1 d23_27 (pc' := 30) rfl ?_
    refine Seg.aloadN d23_30 rfl rfl (pc' := 31) rfl ?_
    refine Seg.getF (host := "") (Or.inl (wd G 128 rfl)) Via.refl Fb1 d23_31 (pc' := 34) rfl ?_
    by_cases j1 : c2 = c5
    · refine Seg.callV (y' := (⟨"java/lang/String", "equals", "(Ljava/lang/Object;)Z"⟩ : MethodName)) (z := (⟨"java/lang/String", "equals", "(Ljava/lang/Object;)Z"⟩ : MethodName)) (a := s2) (wd G 139 rfl) (wd G 110 rfl) (nf_sel (wd G 112 rfl)) (wd G 112 rfl) (wd G 111 rfl) ⟨by decide, by decide⟩ x2 (pays_eqT (W := 0) G h0 T2 T5 j1 (by decide) (by decide)) (argsL := [(.ref s5)]) (rest := []) rfl (lenOf pd_3 rfl) rfl (Nat.le_of_eq rfl) rfl d23_34 (pc' := 37) rfl (k' := 0) (n' := 0) rfl rfl (by decide) (by decide) ?_
      intro v_5 h_8 sz_6 q_7
      obtain ⟨rfl, rfl⟩ := q_7
      skip
      refine Seg.ifN d23_37 (by decide) (pc' := 40) rfl ?_
      refine Seg.aloadN d23_40 rfl rfl (pc' := 41) rfl ?_
      refine Seg.getF (host := "") (Or.inl (wd G 130 rfl)) Via.refl Fa2 d23_41 (pc' := 44) rfl ?_
      refine Seg.aloadN d23_44 rfl rfl (pc' := 45) rfl ?_
      refine Seg.getF (host := "") (Or.inl (wd G 130 rfl)) Via.refl Fb2 d23_45 (pc' := 48) rfl ?_
      by_cases j2 : c3 = c6
      · refine Seg.callV (y' := (⟨"java/lang/String", "equals", "(Ljava/lang/Object;)Z"⟩ : MethodName)) (z := (⟨"java/lang/String", "equals", "(Ljava/lang/Object;)Z"⟩ : MethodName)) (a := s3) (wd G 139 rfl) (wd G 110 rfl) (nf_sel (wd G 112 rfl)) (wd G 112 rfl) (wd G 111 rfl) ⟨by decide, by decide⟩ x3 (pays_eqT (W := 0) G h0 T3 T6 j2 (by decide) (by decide)) (argsL := [(.ref s6)]) (rest := []) rfl (lenOf pd_3 rfl) rfl (Nat.le_of_eq rfl) rfl d23_48 (pc' := 51) rfl (k' := 0) (n' := 0) rfl rfl (by decide) (by decide) ?_
        intro v_9 h_12 sz_10 q_11
        obtain ⟨rfl, rfl⟩ := q_11
        refine Seg.ifN d23_51 (by decide) (pc' := 54) rfl ?_
        refine Seg.iconst (v := 1) d23_54 (by decide) (pc' := 55) rfl ?_
        refine Seg.goto (pc' := 59) d23_55 (by decide) (by decide) ?_
        exact Seg.retN (t := .boolean) (w := (1 : Int32)) rfl (by decide) (by decide) d23_59 (by decide) (by decide) ⟨by rw [if_pos ⟨j0, j1, j2⟩], rfl⟩
      · refine Seg.callV (y' := (⟨"java/lang/String", "equals", "(Ljava/lang/Object;)Z"⟩ : MethodName)) (z := (⟨"java/lang/String", "equals", "(Ljava/lang/Object;)Z"⟩ : MethodName)) (a := s3) (wd G 139 rfl) (wd G 110 rfl) (nf_sel (wd G 112 rfl)) (wd G 112 rfl) (wd G 111 rfl) ⟨by decide, by decide⟩ x3 (pays_eqF (W := 0) G h0 T3 T6 j2 (by decide) (by decide)) (argsL := [(.ref s6)]) (rest := []) rfl (lenOf pd_3 rfl) rfl (Nat.le_of_eq rfl) rfl d23_48 (pc' := 51) rfl (k' := 0) (n' := 0) rfl rfl (by decide) (by decide) ?_
        intro v_13 h_16 sz_14 q_15
        obtain ⟨rfl, rfl⟩ := q_15
        refine Seg.ifY (pc' := 58) d23_51 (by decide) (by decide) (by decide) ?_
        refine Seg.iconst (v := 0) d23_58 (by decide) (pc' := 59) rfl ?_
        exact Seg.retN (t := .boolean) (w := (0 : Int32)) rfl (by decide) (by decide) d23_59 (by decide) (by decide) ⟨by rw [if_neg (fun q => j2 q.2.2)], rfl⟩
    · refine Seg.callV (y' := (⟨"java/lang/String", "equals", "(Ljava/lang/Object;)Z"⟩ : MethodName)) (z := (⟨"java/lang/String", "equals", "(Ljava/lang/Object;)Z"⟩ : MethodName)) (a := s2) (wd G 139 rfl) (wd G 110 rfl) (nf_sel (wd G 112 rfl)) (wd G 112 rfl) (wd G 111 rfl) ⟨by decide, by decide⟩ x2 (pays_eqF (W := 0) G h0 T2 T5 j1 (by decide) (by decide)) (argsL := [(.ref s5)]) (rest := []) rfl (lenOf pd_3 rfl) rfl (Nat.le_of_eq rfl) rfl d23_34 (pc' := 37) rfl (k' := 0) (n' := 0) rfl rfl (by decide) (by decide) ?_
      intro v_17 h_20 sz_18 q_19
      obtain ⟨rfl, rfl⟩ := q_19
      refine Seg.ifY (pc' := 58) d23_37 (by decide) (by decide) (by decide) ?_
      refine Seg.iconst (v := 0) d23_58 (by decide) (pc' := 59) rfl ?_
      exact Seg.retN (t := .boolean) (w := (0 : Int32)) rfl (by decide) (by decide) d23_59 (by decide) (by decide) ⟨by rw [if_neg (fun q => j1 q.2.1)], rfl⟩
  · refine Seg.callV (y' := (⟨"java/lang/String", "equals", "(Ljava/lang/Object;)Z"⟩ : MethodName)) (z := (⟨"java/lang/String", "equals", "(Ljava/lang/Object;)Z"⟩ : MethodName)) (a := s1) (wd G 139 rfl) (wd G 110 rfl) (nf_sel (wd G 112 rfl)) (wd G 112 rfl) (wd G 111 rfl) ⟨by decide, by decide⟩ x1 (pays_eqF (W := 0) G h0 T1 T4 j0 (by decide) (by decide)) (argsL := [(.ref s4)]) (rest := []) rfl (lenOf pd_3 rfl) rfl (Nat.le_of_eq rfl) rfl d23_20 (pc' := 23) rfl (k' := 0) (n' := 0) rfl rfl (by decide) (by decide) ?_
    intro v_21 h_24 sz_22 q_23
    obtain ⟨rfl, rfl⟩ := q_23
    refine Seg.ifY (pc' := 58) d23_23 (by decide) (by decide) (by decide) ?_
    refine Seg.iconst (v := 0) d23_58 (by decide) (pc' := 59) rfl ?_
    exact Seg.retN (t := .boolean) (w := (0 : Int32)) rfl (by decide) (by decide) d23_59 (by decide) (by decide) ⟨by rw [if_neg (fun q => j0 q.1)], rfl⟩
theorem ef_ct_reqN (a : Addr) (m : MethodId) : entryFrame m #[(.ref a), Value.null] 3 = mkF m 0 #[.val (.ref a), .val Value.null, .unset] [] := by first | (simp [entryFrame, mkF, argsToLocals, Value.category]; done) | rfl
set_option maxRecDepth 65536 in
set_option maxHeartbeats 4000000 in
theorem ct_reqN {l : Launch} {Z : State} {a0 : Array Value} (G : Env1 Z a0) (a : Addr) (h0 : Heap) :
    Ct l Z EL1 [] [] (⟨"com/example/kredential/kredential/Resource", "equals", "(Ljava/lang/Object;)Z"⟩ : MethodName) prog_25_method_7_code 3 (some .boolean) ({ frames := 0, cells := 0, slots := 0, locals := 0 } : Room) #[(.ref a), Value.null] h0 (fun v h => v = some (.int 0) ∧ h0 = h) := by
  refine Ct.of_seg (a0 := a0) (plainFor_of_name pn_com_example_kredential_kredential_Resource) G.2.1 (ef_ct_reqN a) ?_
  refine Seg.aloadN d23_0 rfl rfl (pc' := 1) rfl ?_
  refine Seg.instNull d23_1 (pc' := 4) rfl ?_
  refine Seg.ifY (pc' := 58) d23_4 (by decide) (by decide) (by decide) ?_
  refine Seg.iconst (v := 0) d23_58 (by decide) (pc' := 59) rfl ?_
  exact Seg.retN (t := .boolean) (w := (0 : Int32)) rfl (by decide) (by decide) d23_59 (by decide) (by decide) ⟨rfl, rfl⟩
theorem ef_ct_reqS (a : Addr) (b : Addr) (m : MethodId) : entryFrame m #[(.ref a), (.ref b)] 3 = mkF m 0 #[.val (.ref a), .val (.ref b), .unset] [] := by first | (simp [entryFrame, mkF, argsToLocals, Value.category]; done) | rfl
set_option maxRecDepth 65536 in
set_option maxHeartbeats 4000000 in
theorem ct_reqS {l : Launch} {Z : State} {a0 : Array Value} (G : Env1 Z a0) (a : Addr) (b : Addr) (h0 : Heap) (B : Exa Z h0 b STN) :
    Ct l Z EL1 [] [] (⟨"com/example/kredential/kredential/Resource", "equals", "(Ljava/lang/Object;)Z"⟩ : MethodName) prog_25_method_7_code 3 (some .boolean) ({ frames := 0, cells := 0, slots := 0, locals := 0 } : Room) #[(.ref a), (.ref b)] h0 (fun v h => v = some (.int 0) ∧ h0 = h) := by
  refine Ct.of_seg (a0 := a0) (plainFor_of_name pn_com_example_kredential_kredential_Resource) G.2.1 (ef_ct_reqS a b) ?_
  refine Seg.aloadN d23_0 rfl rfl (pc' := 1) rfl ?_
  refine Seg.instNo (wd G 137 rfl) B (no_inst (wd G 140 rfl) (wd G 141 rfl) (wd G 73 rfl) (by decide) (by decide)) d23_1 (pc' := 4) rfl ?_
  refine Seg.ifY (pc' := 58) d23_4 (by decide) (by decide) (by decide) ?_
  refine Seg.iconst (v := 0) d23_58 (by decide) (pc' := 59) rfl ?_
  exact Seg.retN (t := .boolean) (w := (0 : Int32)) rfl (by decide) (by decide) d23_59 (by decide) (by decide) ⟨rfl, rfl⟩
set_option maxRecDepth 65536 in
set_option maxHeartbeats 4000000 in
theorem sg201 {l : Launch} {Z : State} {a0 : Array Value} (G : Env1 Z a0) (p1 : Int32) (p2 : Int32) (p3 : Int32) (p4 : Int32) (l1 : Addr) (l2 : Addr) (l3 : Addr) (dt : Int32) (mt : Int32) (di : Int32) (mi : Int32) (dO : Int32) (mO : Int32) (t1 : Addr) (t2 : Addr) (i1 : Addr) (i2 : Addr) (o1 : Addr) (o2 : Addr) (r1 : Addr) (r2 : Addr) (a1 : List Int32) (a2 : List Int32) (b1 : List Int32) (b2 : List Int32) (g1 : List Int32) (g2 : List Int32) (h : Heap) (R1 : Exa Z h r1 "com/example/kredential/kredential/Resource") (R2 : Exa Z h r2 "com/example/kredential/kredential/Resource") (F10 : Fld Z h r1 "com/example/kredential/kredential/Resource" "type" "Ljava/lang/String;" (.ref t1)) (F11 : Fld Z h r1 "com/example/kredential/kredential/Resource" "id" "Ljava/lang/String;" (.ref i1)) (F12 : Fld Z h r1 "com/example/kredential/kredential/Resource" "owner" "Ljava/lang/String;" (.ref o1)) (F20 : Fld Z h r2 "com/example/kredential/kredential/Resource" "type" "Ljava/lang/String;" (.ref t2)) (F21 : Fld Z h r2 "com/example/kredential/kredential/Resource" "id" "Ljava/lang/String;" (.ref i2)) (F22 : Fld Z h r2 "com/example/kredential/kredential/Resource" "owner" "Ljava/lang/String;" (.ref o2)) (T0 : Str Z h t1 a1) (T1 : Str Z h t2 a2) (T2 : Str Z h i1 b1) (T3 : Str Z h i2 b2) (T4 : Str Z h o1 g1) (T5 : Str Z h o2 g2) (z1 : dt = 0 → a1 = a2) (y1 : ¬ dt = 0 → ¬ a1 = a2) (z2 : di = 0 → b1 = b2) (y2 : ¬ di = 0 → ¬ b1 = b2) (z3 : dO = 0 → g1 = g2) (y3 : ¬ dO = 0 → ¬ g1 = g2) :
    Seg l Z a0 EL1 x code maxLocals ret room_1 (fun v h => v = some (.int 1)) h 50 3000 [] 201 #[.val (.int p1), .val (.int p2), .val (.int p3), .val (.int p4), .val (.ref l1), .val (.ref l2), .val (.ref l3), .val (.int dt), .val (.int mt), .val (.int di), .val (.int mi), .val (.int dO), .val (.int mO), .val (.ref t1), .val (.ref t2), .val (.ref i1), .val (.ref i2), .val (.ref o1), .val (.ref o2), .val (.ref r1), .val (.ref r2), .unset, .unset] [] := by
  refine Seg.iloadN at_201 rfl (pc' := 202) rfl ?_
  refine Seg.bipush (v := 6) at_202 (by decide) (pc' := 204) rfl ?_
  refine Seg.iushr (v := ((p4).toUInt32 >>> ((6 : Int32) &&& 31).toUInt32).toInt32) at_204 rfl (pc' := 205) rfl ?_
  refine Seg.bipush (v := 7) at_205 (by decide) (pc' := 207) rfl ?_
  refine Seg.iand (v := (((p4).toUInt32 >>> ((6 : Int32) &&& 31).toUInt32).toInt32 &&& (7 : Int32))) at_207 rfl (pc' := 208) rfl ?_
  refine Seg.istore (L' := #[.val (.int p1), .val (.int p2), .val (.int p3), .val (.int p4), .val (.ref l1), .val (.ref l2), .val (.ref l3), .val (.int dt), .val (.int mt), .val (.int di), .val (.int mi), .val (.int dO), .val (.int mO), .val (.ref t1), .val (.ref t2), .val (.ref i1), .val (.ref i2), .val (.ref o1), .val (.ref o2), .val (.ref r1), .val (.ref r2), .val (.int (((p4).toUInt32 >>> ((6 : Int32) &&& 31).toUInt32).toInt32 &&& (7 : Int32))), .unset]) at_208 rfl (pc' := 210) rfl ?_
  refine Seg.iload at_210 rfl (pc' := 212) rfl ?_
  refine Seg.iconst (v := 5) at_212 (by decide) (pc' := 213) rfl ?_
  by_cases k5 : (((p4).toUInt32 >>> ((6 : Int32) &&& 31).toUInt32).toInt32 &&& (7 : Int32)) < 5
  · refine Seg.icN at_213 (XT.ii_ge_f k5) (pc' := 216) rfl ?_
    refine Seg.iload at_216 rfl (pc' := 218) rfl ?_
    by_cases d1 : dt = 0
    · refine Seg.ifN at_218 (XT.i0_ne_f d1) (pc' := 221) rfl ?_
      refine Seg.iload at_221 rfl (pc' := 223) rfl ?_
      by_cases d2 : di = 0
      · refine Seg.ifN at_223 (XT.i0_ne_f d2) (pc' := 226) rfl ?_
        refine Seg.iload at_226 rfl (pc' := 228) rfl ?_
        by_cases d3 : dO = 0
        · refine Seg.ifN at_228 (XT.i0_ne_f d3) (pc' := 231) rfl ?_
          refine Seg.iconst (v := 1) at_231 (by decide) (pc' := 232) rfl ?_
          refine Seg.goto (pc' := 236) at_232 (by decide) (by decide) ?_
          refine Seg.istore (L' := #[.val (.int p1), .val (.int p2), .val (.int p3), .val (.int p4), .val (.ref l1), .val (.ref l2), .val (.ref l3), .val (.int dt), .val (.int mt), .val (.int di), .val (.int mi), .val (.int dO), .val (.int mO), .val (.ref t1), .val (.ref t2), .val (.ref i1), .val (.ref i2), .val (.ref o1), .val (.ref o2), .val (.ref r1), .val (.ref r2), .val (.int (((p4).toUInt32 >>> ((6 : Int32) &&& 31).toUInt32).toInt32 &&& (7 : Int32))), .val (.int (1 : Int32))]) at_236 rfl (pc' := 238) rfl ?_
          refine Seg.aload at_238 rfl rfl (pc' := 240) rfl ?_
          refine Seg.aload at_240 rfl rfl (pc' := 242) rfl ?_
          refine Seg.callV (y' := (⟨"com/example/kredential/kredential/Resource", "equals", "(Ljava/lang/Object;)Z"⟩ : MethodName)) (z := (⟨"com/example/kredential/kredential/Resource", "equals", "(Ljava/lang/Object;)Z"⟩ : MethodName)) (a := r1) (wd G 132 rfl) (wd G 133 rfl) (nf_sel (wd G 135 rfl)) (wd G 135 rfl) (wd G 134 rfl) ⟨by decide, by decide⟩ R1 (Pays.of_ct (W := 0) (ct_req G r1 r2 t1 i1 o1 t2 i2 o2 a1 b1 g1 a2 b2 g2 h R2 F10 F11 F12 F20 F21 F22 T0 T2 T4 T1 T3 T5) all0 (wd G 136 rfl) (wd G 74 rfl) (by decide) (by decide) rfl rfl) (argsL := [(.ref r2)]) (rest := []) rfl (lenOf pd_3 rfl) rfl (Nat.le_of_eq rfl) rfl at_242 (pc' := 245) rfl (k' := 50) (n' := 3000) rfl rfl (by decide) (by decide) ?_
          intro v_1 h_4 sz_2 q_3
          obtain ⟨rfl, rfl⟩ := q_3
          refine Seg.iload at_245 rfl (pc' := 247) rfl ?_
          refine Seg.icN at_247 (XT.ii_ne_f (if_pos ⟨z1 d1, z2 d2, z3 d3⟩)) (pc' := 250) rfl ?_
          refine Seg.aload at_250 rfl rfl (pc' := 252) rfl ?_
          refine Seg.aload at_252 rfl rfl (pc' := 254) rfl ?_
          refine Seg.callV (y' := (⟨"com/example/kredential/kredential/Resource", "equals", "(Ljava/lang/Object;)Z"⟩ : MethodName)) (z := (⟨"com/example/kredential/kredential/Resource", "equals", "(Ljava/lang/Object;)Z"⟩ : MethodName)) (a := r2) (wd G 132 rfl) (wd G 133 rfl) (nf_sel (wd G 135 rfl)) (wd G 135 rfl) (wd G 134 rfl) ⟨by decide, by decide⟩ R2 (Pays.of_ct (W := 0) (ct_req G r2 r1 t2 i2 o2 t1 i1 o1 a2 b2 g2 a1 b1 g1 h R1 F20 F21 F22 F10 F11 F12 T1 T3 T5 T0 T2 T4) all0 (wd G 136 rfl) (wd G 74 rfl) (by decide) (by decide) rfl rfl) (argsL := [(.ref r1)]) (rest := []) rfl (lenOf pd_3 rfl) rfl (Nat.le_of_eq rfl) rfl at_254 (pc' := 257) rfl (k' := 50) (n' := 3000) rfl rfl (by decide) (by decide) ?_
          intro v_5 h_8 sz_6 q_7
          obtain ⟨rfl, rfl⟩ := q_7
          refine Seg.iload at_257 rfl (pc' := 259) rfl ?_
          refine Seg.icN at_259 (XT.ii_ne_f (if_pos ⟨(z1 d1).symm, (z2 d2).symm, (z3 d3).symm⟩)) (pc' := 262) rfl ?_
          refine Seg.iconst (v := 1) at_262 (by decide) (pc' := 263) rfl ?_
          refine Seg.goto (pc' := 267) at_263 (by decide) (by decide) ?_
          exact Seg.retN (t := .boolean) (w := (1 : Int32)) rfl (by decide) (by decide) at_267 (by decide) (by decide) rfl
        · refine Seg.ifY (pc' := 235) at_228 (XT.i0_ne_t d3) (by decide) (by decide) ?_
          refine Seg.iconst (v := 0) at_235 (by decide) (pc' := 236) rfl ?_
          refine Seg.istore (L' := #[.val (.int p1), .val (.int p2), .val (.int p3), .val (.int p4), .val (.ref l1), .val (.ref l2), .val (.ref l3), .val (.int dt), .val (.int mt), .val (.int di), .val (.int mi), .val (.int dO), .val (.int mO), .val (.ref t1), .val (.ref t2), .val (.ref i1), .val (.ref i2), .val (.ref o1), .val (.ref o2), .val (.ref r1), .val (.ref r2), .val (.int (((p4).toUInt32 >>> ((6 : Int32) &&& 31).toUInt32).toInt32 &&& (7 : Int32))), .val (.int (0 : Int32))]) at_236 rfl (pc' := 238) rfl ?_
          refine Seg.aload at_238 rfl rfl (pc' := 240) rfl ?_
          refine Seg.aload at_240 rfl rfl (pc' := 242) rfl ?_
          refine Seg.callV (y' := (⟨"com/example/kredential/kredential/Resource", "equals", "(Ljava/lang/Object;)Z"⟩ : MethodName)) (z := (⟨"com/example/kredential/kredential/Resource", "equals", "(Ljava/lang/Object;)Z"⟩ : MethodName)) (a := r1) (wd G 132 rfl) (wd G 133 rfl) (nf_sel (wd G 135 rfl)) (wd G 135 rfl) (wd G 134 rfl) ⟨by decide, by decide⟩ R1 (Pays.of_ct (W := 0) (ct_req G r1 r2 t1 i1 o1 t2 i2 o2 a1 b1 g1 a2 b2 g2 h R2 F10 F11 F12 F20 F21 F22 T0 T2 T4 T1 T3 T5) all0 (wd G 136 rfl) (wd G 74 rfl) (by decide) (by decide) rfl rfl) (argsL := [(.ref r2)]) (rest := []) rfl (lenOf pd_3 rfl) rfl (Nat.le_of_eq rfl) rfl at_242 (pc' := 245) rfl (k' := 50) (n' := 3000) rfl rfl (by decide) (by decide) ?_
          intro v_9 h_12 sz_10 q_11
          obtain ⟨rfl, rfl⟩ := q_11
          refine Seg.iload at_245 rfl (pc' := 247) rfl ?_
          refine Seg.icN at_247 (XT.ii_ne_f (if_neg fun q => y3 d3 q.2.2)) (pc' := 250) rfl ?_
          refine Seg.aload at_250 rfl rfl (pc' := 252) rfl ?_
          refine Seg.aload at_252 rfl rfl (pc' := 254) rfl ?_
          refine Seg.callV (y' := (⟨"com/example/kredential/kredential/Resource", "equals", "(Ljava/lang/Object;)Z"⟩ : MethodName)) (z := (⟨"com/example/kredential/kredential/Resource", "equals", "(Ljava/lang/Object;)Z"⟩ : MethodName)) (a := r2) (wd G 132 rfl) (wd G 133 rfl) (nf_sel (wd G 135 rfl)) (wd G 135 rfl) (wd G 134 rfl) ⟨by decide, by decide⟩ R2 (Pays.of_ct (W := 0) (ct_req G r2 r1 t2 i2 o2 t1 i1 o1 a2 b2 g2 a1 b1 g1 h R1 F20 F21 F22 F10 F11 F12 T1 T3 T5 T0 T2 T4) all0 (wd G 136 rfl) (wd G 74 rfl) (by decide) (by decide) rfl rfl) (argsL := [(.ref r1)]) (rest := []) rfl (lenOf pd_3 rfl) rfl (Nat.le_of_eq rfl) rfl at_254 (pc' := 257) rfl (k' := 50) (n' := 3000) rfl rfl (by decide) (by decide) ?_
          intro v_13 h_16 sz_14 q_15
          obtain ⟨rfl, rfl⟩ := q_15
          refine Seg.iload at_257 rfl (pc' := 259) rfl ?_
          refine Seg.icN at_259 (XT.ii_ne_f (if_neg fun q => y3 d3 (q.2.2).symm)) (pc' := 262) rfl ?_
          refine Seg.iconst (v := 1) at_262 (by decide) (pc' := 263) rfl ?_
          refine Seg.goto (pc' := 267) at_263 (by decide) (by decide) ?_
          exact Seg.retN (t := .boolean) (w := (1 : Int32)) rfl (by decide) (by decide) at_267 (by decide) (by decide) rfl
      · refine Seg.ifY (pc' := 235) at_223 (XT.i0_ne_t d2) (by decide) (by decide) ?_
        refine Seg.iconst (v := 0) at_235 (by decide) (pc' := 236) rfl ?_
        refine Seg.istore (L' := #[.val (.int p1), .val (.int p2), .val (.int p3), .val (.int p4), .val (.ref l1), .val (.ref l2), .val (.ref l3), .val (.int dt), .val (.int mt), .val (.int di), .val (.int mi), .val (.int dO), .val (.int mO), .val (.ref t1), .val (.ref t2), .val (.ref i1), .val (.ref i2), .val (.ref o1), .val (.ref o2), .val (.ref r1), .val (.ref r2), .val (.int (((p4).toUInt32 >>> ((6 : Int32) &&& 31).toUInt32).toInt32 &&& (7 : Int32))), .val (.int (0 : Int32))]) at_236 rfl (pc' := 238) rfl ?_
        refine Seg.aload at_238 rfl rfl (pc' := 240) rfl ?_
        refine Seg.aload at_240 rfl rfl (pc' := 242) rfl ?_
        refine Seg.callV (y' := (⟨"com/example/kredential/kredential/Resource", "equals", "(Ljava/lang/Object;)Z"⟩ : MethodName)) (z := (⟨"com/example/kredential/kredential/Resource", "equals", "(Ljava/lang/Object;)Z"⟩ : MethodName)) (a := r1) (wd G 132 rfl) (wd G 133 rfl) (nf_sel (wd G 135 rfl)) (wd G 135 rfl) (wd G 134 rfl) ⟨by decide, by decide⟩ R1 (Pays.of_ct (W := 0) (ct_req G r1 r2 t1 i1 o1 t2 i2 o2 a1 b1 g1 a2 b2 g2 h R2 F10 F11 F12 F20 F21 F22 T0 T2 T4 T1 T3 T5) all0 (wd G 136 rfl) (wd G 74 rfl) (by decide) (by decide) rfl rfl) (argsL := [(.ref r2)]) (rest := []) rfl (lenOf pd_3 rfl) rfl (Nat.le_of_eq rfl) rfl at_242 (pc' := 245) rfl (k' := 50) (n' := 3000) rfl rfl (by decide) (by decide) ?_
        intro v_17 h_20 sz_18 q_19
        obtain ⟨rfl, rfl⟩ := q_19
        refine Seg.iload at_245 rfl (pc' := 247) rfl ?_
        refine Seg.icN at_247 (XT.ii_ne_f (if_neg fun q => y2 d2 q.2.1)) (pc' := 250) rfl ?_
        refine Seg.aload at_250 rfl rfl (pc' := 252) rfl ?_
        refine Seg.aload at_252 rfl rfl (pc' := 254) rfl ?_
        refine Seg.callV (y' := (⟨"com/example/kredential/kredential/Resource", "equals", "(Ljava/lang/Object;)Z"⟩ : MethodName)) (z := (⟨"com/example/kredential/kredential/Resource", "equals", "(Ljava/lang/Object;)Z"⟩ : MethodName)) (a := r2) (wd G 132 rfl) (wd G 133 rfl) (nf_sel (wd G 135 rfl)) (wd G 135 rfl) (wd G 134 rfl) ⟨by decide, by decide⟩ R2 (Pays.of_ct (W := 0) (ct_req G r2 r1 t2 i2 o2 t1 i1 o1 a2 b2 g2 a1 b1 g1 h R1 F20 F21 F22 F10 F11 F12 T1 T3 T5 T0 T2 T4) all0 (wd G 136 rfl) (wd G 74 rfl) (by decide) (by decide) rfl rfl) (argsL := [(.ref r1)]) (rest := []) rfl (lenOf pd_3 rfl) rfl (Nat.le_of_eq rfl) rfl at_254 (pc' := 257) rfl (k' := 50) (n' := 3000) rfl rfl (by decide) (by decide) ?_
        intro v_21 h_24 sz_22 q_23
        obtain ⟨rfl, rfl⟩ := q_23
        refine Seg.iload at_257 rfl (pc' := 259) rfl ?_
        refine Seg.icN at_259 (XT.ii_ne_f (if_neg fun q => y2 d2 (q.2.1).symm)) (pc' := 262) rfl ?_
        refine Seg.iconst (v := 1) at_262 (by decide) (pc' := 263) rfl ?_
        refine Seg.goto (pc' := 267) at_263 (by decide) (by decide) ?_
        exact Seg.retN (t := .boolean) (w := (1 : Int32)) rfl (by decide) (by decide) at_267 (by decide) (by decide) rfl
    · refine Seg.ifY (pc' := 235) at_218 (XT.i0_ne_t d1) (by decide) (by decide) ?_
      refine Seg.iconst (v := 0) at_235 (by decide) (pc' := 236) rfl ?_
      refine Seg.istore (L' := #[.val (.int p1), .val (.int p2), .val (.int p3), .val (.int p4), .val (.ref l1), .val (.ref l2), .val (.ref l3), .val (.int dt), .val (.int mt), .val (.int di), .val (.int mi), .val (.int dO), .val (.int mO), .val (.ref t1), .val (.ref t2), .val (.ref i1), .val (.ref i2), .val (.ref o1), .val (.ref o2), .val (.ref r1), .val (.ref r2), .val (.int (((p4).toUInt32 >>> ((6 : Int32) &&& 31).toUInt32).toInt32 &&& (7 : Int32))), .val (.int (0 : Int32))]) at_236 rfl (pc' := 238) rfl ?_
      refine Seg.aload at_238 rfl rfl (pc' := 240) rfl ?_
      refine Seg.aload at_240 rfl rfl (pc' := 242) rfl ?_
      refine Seg.callV (y' := (⟨"com/example/kredential/kredential/Resource", "equals", "(Ljava/lang/Object;)Z"⟩ : MethodName)) (z := (⟨"com/example/kredential/kredential/Resource", "equals", "(Ljava/lang/Object;)Z"⟩ : MethodName)) (a := r1) (wd G 132 rfl) (wd G 133 rfl) (nf_sel (wd G 135 rfl)) (wd G 135 rfl) (wd G 134 rfl) ⟨by decide, by decide⟩ R1 (Pays.of_ct (W := 0) (ct_req G r1 r2 t1 i1 o1 t2 i2 o2 a1 b1 g1 a2 b2 g2 h R2 F10 F11 F12 F20 F21 F22 T0 T2 T4 T1 T3 T5) all0 (wd G 136 rfl) (wd G 74 rfl) (by decide) (by decide) rfl rfl) (argsL := [(.ref r2)]) (rest := []) rfl (lenOf pd_3 rfl) rfl (Nat.le_of_eq rfl) rfl at_242 (pc' := 245) rfl (k' := 50) (n' := 3000) rfl rfl (by decide) (by decide) ?_
      intro v_25 h_28 sz_26 q_27
      obtain ⟨rfl, rfl⟩ := q_27
      refine Seg.iload at_245 rfl (pc' := 247) rfl ?_
      refine Seg.icN at_247 (XT.ii_ne_f (if_neg fun q => y1 d1 q.1)) (pc' := 250) rfl ?_
      refine Seg.aload at_250 rfl rfl (pc' := 252) rfl ?_
      refine Seg.aload at_252 rfl rfl (pc' := 254) rfl ?_
      refine Seg.callV (y' := (⟨"com/example/kredential/kredential/Resource", "equals", "(Ljava/lang/Object;)Z"⟩ : MethodName)) (z := (⟨"com/example/kredential/kredential/Resource", "equals", "(Ljava/lang/Object;)Z"⟩ : MethodName)) (a := r2) (wd G 132 rfl) (wd G 133 rfl) (nf_sel (wd G 135 rfl)) (wd G 135 rfl) (wd G 134 rfl) ⟨by decide, by decide⟩ R2 (Pays.of_ct (W := 0) (ct_req G r2 r1 t2 i2 o2 t1 i1 o1 a2 b2 g2 a1 b1 g1 h R1 F20 F21 F22 F10 F11 F12 T1 T3 T5 T0 T2 T4) all0 (wd G 136 rfl) (wd G 74 rfl) (by decide) (by decide) rfl rfl) (argsL := [(.ref r1)]) (rest := []) rfl (lenOf pd_3 rfl) rfl (Nat.le_of_eq rfl) rfl at_254 (pc' := 257) rfl (k' := 50) (n' := 3000) rfl rfl (by decide) (by decide) ?_
      intro v_29 h_32 sz_30 q_31
      obtain ⟨rfl, rfl⟩ := q_31
      refine Seg.iload at_257 rfl (pc' := 259) rfl ?_
      refine Seg.icN at_259 (XT.ii_ne_f (if_neg fun q => y1 d1 (q.1).symm)) (pc' := 262) rfl ?_
      refine Seg.iconst (v := 1) at_262 (by decide) (pc' := 263) rfl ?_
      refine Seg.goto (pc' := 267) at_263 (by decide) (by decide) ?_
      exact Seg.retN (t := .boolean) (w := (1 : Int32)) rfl (by decide) (by decide) at_267 (by decide) (by decide) rfl
  · refine Seg.icY (pc' := 268) at_213 (XT.ii_ge_t k5) (by decide) (by decide) ?_
    refine Seg.iload at_268 rfl (pc' := 270) rfl ?_
    refine Seg.iconst (v := 5) at_270 (by decide) (pc' := 271) rfl ?_
    by_cases k6 : (((p4).toUInt32 >>> ((6 : Int32) &&& 31).toUInt32).toInt32 &&& (7 : Int32)) = 5
    · refine Seg.icN at_271 (XT.ii_ne_f k6) (pc' := 274) rfl ?_
      refine Seg.aload at_274 rfl rfl (pc' := 276) rfl ?_
      refine Seg.aload at_276 rfl rfl (pc' := 278) rfl ?_
      refine Seg.callV (y' := (⟨"com/example/kredential/kredential/Resource", "equals", "(Ljava/lang/Object;)Z"⟩ : MethodName)) (z := (⟨"com/example/kredential/kredential/Resource", "equals", "(Ljava/lang/Object;)Z"⟩ : MethodName)) (a := r1) (wd G 132 rfl) (wd G 133 rfl) (nf_sel (wd G 135 rfl)) (wd G 135 rfl) (wd G 134 rfl) ⟨by decide, by decide⟩ R1 (Pays.of_ct (W := 0) (ct_req G r1 r1 t1 i1 o1 t1 i1 o1 a1 b1 g1 a1 b1 g1 h R1 F10 F11 F12 F10 F11 F12 T0 T2 T4 T0 T2 T4) all0 (wd G 136 rfl) (wd G 74 rfl) (by decide) (by decide) rfl rfl) (argsL := [(.ref r1)]) (rest := []) rfl (lenOf pd_3 rfl) rfl (Nat.le_of_eq rfl) rfl at_278 (pc' := 281) rfl (k' := 50) (n' := 3000) rfl rfl (by decide) (by decide) ?_
      intro v_33 h_36 sz_34 q_35
      obtain ⟨rfl, rfl⟩ := q_35
      exact Seg.retN (t := .boolean) (w := (if a1 = a1 ∧ b1 = b1 ∧ g1 = g1 then (1 : Int32) else 0)) rfl (by decide) (by rw [if_pos ⟨rfl, rfl, rfl⟩]; decide) at_281 (by decide) (by decide) (by rw [if_pos ⟨rfl, rfl, rfl⟩])
    · refine Seg.icY (pc' := 282) at_271 (XT.ii_ne_t k6) (by decide) (by decide) ?_
      refine Seg.iload at_282 rfl (pc' := 284) rfl ?_
      refine Seg.bipush (v := 6) at_284 (by decide) (pc' := 286) rfl ?_
      by_cases k7 : (((p4).toUInt32 >>> ((6 : Int32) &&& 31).toUInt32).toInt32 &&& (7 : Int32)) = 6
      · refine Seg.icN at_286 (XT.ii_ne_f k7) (pc' := 289) rfl ?_
        refine Seg.aload at_289 rfl rfl (pc' := 291) rfl ?_
        refine Seg.anull at_291 (pc' := 292) rfl ?_
        refine Seg.callV (y' := (⟨"com/example/kredential/kredential/Resource", "equals", "(Ljava/lang/Object;)Z"⟩ : MethodName)) (z := (⟨"com/example/kredential/kredential/Resource", "equals", "(Ljava/lang/Object;)Z"⟩ : MethodName)) (a := r1) (wd G 132 rfl) (wd G 133 rfl) (nf_sel (wd G 135 rfl)) (wd G 135 rfl) (wd G 134 rfl) ⟨by decide, by decide⟩ R1 (Pays.of_ct (W := 0) (ct_reqN G r1 h) all0 (wd G 136 rfl) (wd G 74 rfl) (by decide) (by decide) rfl rfl) (argsL := [Value.null]) (rest := []) rfl (lenOf pd_3 rfl) rfl (Nat.le_of_eq rfl) rfl at_292 (pc' := 295) rfl (k' := 50) (n' := 3000) rfl rfl (by decide) (by decide) ?_
        intro v_37 h_40 sz_38 q_39
        obtain ⟨rfl, rfl⟩ := q_39
        refine Seg.ifN at_295 (by decide) (pc' := 298) rfl ?_
        refine Seg.iconst (v := 1) at_298 (by decide) (pc' := 299) rfl ?_
        refine Seg.goto (pc' := 303) at_299 (by decide) (by decide) ?_
        exact Seg.retN (t := .boolean) (w := (1 : Int32)) rfl (by decide) (by decide) at_303 (by decide) (by decide) rfl
      · refine Seg.icY (pc' := 304) at_286 (XT.ii_ne_t k7) (by decide) (by decide) ?_
        refine Seg.aload at_304 rfl rfl (pc' := 306) rfl ?_
        refine Seg.aload at_306 rfl rfl (pc' := 308) rfl ?_
        refine Seg.callV (y' := (⟨"com/example/kredential/kredential/Resource", "equals", "(Ljava/lang/Object;)Z"⟩ : MethodName)) (z := (⟨"com/example/kredential/kredential/Resource", "equals", "(Ljava/lang/Object;)Z"⟩ : MethodName)) (a := r1) (wd G 132 rfl) (wd G 133 rfl) (nf_sel (wd G 135 rfl)) (wd G 135 rfl) (wd G 134 rfl) ⟨by decide, by decide⟩ R1 (Pays.of_ct (W := 0) (ct_reqS G r1 t1 h T0.exa) all0 (wd G 136 rfl) (wd G 74 rfl) (by decide) (by decide) rfl rfl) (argsL := [(.ref t1)]) (rest := []) rfl (lenOf pd_3 rfl) rfl (Nat.le_of_eq rfl) rfl at_308 (pc' := 311) rfl (k' := 50) (n' := 3000) rfl rfl (by decide) (by decide) ?_
        intro v_41 h_44 sz_42 q_43
        obtain ⟨rfl, rfl⟩ := q_43
        refine Seg.ifN at_311 (by decide) (pc' := 314) rfl ?_
        refine Seg.iconst (v := 1) at_314 (by decide) (pc' := 315) rfl ?_
        refine Seg.goto (pc' := 319) at_315 (by decide) (by decide) ?_
        exact Seg.retN (t := .boolean) (w := (1 : Int32)) rfl (by decide) (by decide) at_319 (by decide) (by decide) rfl
theorem pd_6 : parseMethodDescriptor "(Ljava/lang/String;Ljava/lang/String;IZZ)Ljava/lang/String;" = some ⟨[(.object "java/lang/String"), (.object "java/lang/String"), .int, .boolean, .boolean], some (.object "java/lang/String")⟩ := by decide +kernel
theorem pd_7 : parseMethodDescriptor "(Ljava/lang/String;Ljava/lang/String;Ljava/lang/String;)V" = some ⟨[(.object "java/lang/String"), (.object "java/lang/String"), (.object "java/lang/String")], none⟩ := by decide +kernel
set_option maxRecDepth 65536 in
set_option maxHeartbeats 4000000 in
theorem sg93 {l : Launch} {Z : State} {a0 : Array Value} (G : Env1 Z a0) (p1 : Int32) (p2 : Int32) (p3 : Int32) (p4 : Int32) (l1 : Addr) (l2 : Addr) (l3 : Addr) (dt : Int32) (mt : Int32) (di : Int32) (mi : Int32) (dO : Int32) (mO : Int32) (h : Heap) (S1 : Str Z h l1 TYL) (S2 : Str Z h l2 IFL) (S3 : Str Z h l3 ISL) :
    Seg l Z a0 EL1 x code maxLocals ret room_1 (fun v h => v = some (.int 1)) h 6 700 [] 93 #[.val (.int p1), .val (.int p2), .val (.int p3), .val (.int p4), .val (.ref l1), .val (.ref l2), .val (.ref l3), .val (.int dt), .val (.int mt), .val (.int di), .val (.int mi), .val (.int dO), .val (.int mO), .unset, .unset, .unset, .unset, .unset, .unset, .unset, .unset, .unset, .unset] [] := by
  obtain ⟨m0, hm0, em0⟩ := xk0_rem p1 TYL.length (by decide) (by decide)
  obtain ⟨u0, hu0, eu0⟩ := xk1_rem p1 TYL.length (by decide) (by decide)
  refine Seg.aload at_93 rfl rfl (pc' := 95) rfl ?_
  refine Seg.aload at_95 rfl rfl (pc' := 97) rfl ?_
  refine Seg.iloadN at_97 rfl (pc' := 98) rfl ?_
  refine Seg.iconst (v := 0) at_98 (by decide) (pc' := 99) rfl ?_
  refine Seg.iconst (v := 0) at_99 (by decide) (pc' := 100) rfl ?_
  refine Seg.callS (y' := (⟨"com/example/kredential/kredential/ResourceEqualsPinLaw", "field", "(Ljava/lang/String;Ljava/lang/String;IZZ)Ljava/lang/String;"⟩ : MethodName)) (wd G 10 rfl) (wd G 11 rfl) (wd G 12 rfl) (wd G 13 rfl) ⟨by decide, by decide⟩ (Pays.of_ct (W := 0) (ct_field G l1 l1 TYL TYL p1 m0 u0 0 0 h S1 S1 all_TYL all_TYL (by decide) (by decide) hm0 hu0 em0 eu0) all0 (wd G 13 rfl) (wd G 12 rfl) (by decide) (by decide) rfl rfl) (argsL := [(.ref l1), (.ref l1), (.int p1), (.int (0 : Int32)), (.int (0 : Int32))]) (rest := []) rfl (lenOf pd_6 rfl) rfl (Nat.le_of_eq rfl) rfl at_100 (pc' := 103) rfl (k' := 9) (n' := 708) rfl rfl (by decide) (by decide) ?_
  intro v_1 h_4 sz_2 q_3
  obtain ⟨t1, rfl, Et1, Tt1⟩ := q_3
  refine Seg.astore (L' := #[.val (.int p1), .val (.int p2), .val (.int p3), .val (.int p4), .val (.ref l1), .val (.ref l2), .val (.ref l3), .val (.int dt), .val (.int mt), .val (.int di), .val (.int mi), .val (.int dO), .val (.int mO), .val (.ref t1), .unset, .unset, .unset, .unset, .unset, .unset, .unset, .unset, .unset]) at_103 rfl rfl (pc' := 105) rfl ?_
  refine Seg.aload at_105 rfl rfl (pc' := 107) rfl ?_
  refine Seg.aload at_107 rfl rfl (pc' := 109) rfl ?_
  refine Seg.iloadN at_109 rfl (pc' := 110) rfl ?_
  refine Seg.iload at_110 rfl (pc' := 112) rfl ?_
  refine Seg.iload at_112 rfl (pc' := 114) rfl ?_
  have F_5 := S1.ext Et1
  refine Seg.callS (y' := (⟨"com/example/kredential/kredential/ResourceEqualsPinLaw", "field", "(Ljava/lang/String;Ljava/lang/String;IZZ)Ljava/lang/String;"⟩ : MethodName)) (wd G 10 rfl) (wd G 11 rfl) (wd G 12 rfl) (wd G 13 rfl) ⟨by decide, by decide⟩ (Pays.of_ct (W := 0) (ct_field G l1 l1 TYL TYL p1 m0 u0 dt mt h_4 F_5 F_5 all_TYL all_TYL (by decide) (by decide) hm0 hu0 em0 eu0) all0 (wd G 13 rfl) (wd G 12 rfl) (by decide) (by decide) rfl rfl) (argsL := [(.ref l1), (.ref l1), (.int p1), (.int dt), (.int mt)]) (rest := []) rfl (lenOf pd_6 rfl) rfl (Nat.le_of_eq rfl) rfl at_114 (pc' := 117) rfl (k' := 12) (n' := 716) rfl rfl (by decide) (by decide) ?_
  intro v_6 h_9 sz_7 q_8
  obtain ⟨t2, rfl, Et2, Tt2⟩ := q_8
  obtain ⟨m1, hm1, em1⟩ := xk0_rem p2 IFL.length (by decide) (by decide)
  obtain ⟨u1, hu1, eu1⟩ := xk1_rem p2 ISL.length (by decide) (by decide)
  refine Seg.astore (L' := #[.val (.int p1), .val (.int p2), .val (.int p3), .val (.int p4), .val (.ref l1), .val (.ref l2), .val (.ref l3), .val (.int dt), .val (.int mt), .val (.int di), .val (.int mi), .val (.int dO), .val (.int mO), .val (.ref t1), .val (.ref t2), .unset, .unset, .unset, .unset, .unset, .unset, .unset, .unset]) at_117 rfl rfl (pc' := 119) rfl ?_
  refine Seg.aload at_119 rfl rfl (pc' := 121) rfl ?_
  refine Seg.aload at_121 rfl rfl (pc' := 123) rfl ?_
  refine Seg.iloadN at_123 rfl (pc' := 124) rfl ?_
  refine Seg.iconst (v := 0) at_124 (by decide) (pc' := 125) rfl ?_
  refine Seg.iconst (v := 0) at_125 (by decide) (pc' := 126) rfl ?_
  have E_10 : Ext h h_9 := ext_tr Et1 Et2
  have F_11 := S2.ext E_10
  have F_12 := S3.ext E_10
  refine Seg.callS (y' := (⟨"com/example/kredential/kredential/ResourceEqualsPinLaw", "field", "(Ljava/lang/String;Ljava/lang/String;IZZ)Ljava/lang/String;"⟩ : MethodName)) (wd G 10 rfl) (wd G 11 rfl) (wd G 12 rfl) (wd G 13 rfl) ⟨by decide, by decide⟩ (Pays.of_ct (W := 0) (ct_field G l2 l3 IFL ISL p2 m1 u1 0 0 h_9 F_11 F_12 all_IFL all_ISL (by decide) (by decide) hm1 hu1 em1 eu1) all0 (wd G 13 rfl) (wd G 12 rfl) (by decide) (by decide) rfl rfl) (argsL := [(.ref l2), (.ref l3), (.int p2), (.int (0 : Int32)), (.int (0 : Int32))]) (rest := []) rfl (lenOf pd_6 rfl) rfl (Nat.le_of_eq rfl) rfl at_126 (pc' := 129) rfl (k' := 15) (n' := 724) rfl rfl (by decide) (by decide) ?_
  intro v_13 h_16 sz_14 q_15
  obtain ⟨i1, rfl, Ei1, Ti1⟩ := q_15
  refine Seg.astore (L' := #[.val (.int p1), .val (.int p2), .val (.int p3), .val (.int p4), .val (.ref l1), .val (.ref l2), .val (.ref l3), .val (.int dt), .val (.int mt), .val (.int di), .val (.int mi), .val (.int dO), .val (.int mO), .val (.ref t1), .val (.ref t2), .val (.ref i1), .unset, .unset, .unset, .unset, .unset, .unset, .unset]) at_129 rfl rfl (pc' := 131) rfl ?_
  refine Seg.aload at_131 rfl rfl (pc' := 133) rfl ?_
  refine Seg.aload at_133 rfl rfl (pc' := 135) rfl ?_
  refine Seg.iloadN at_135 rfl (pc' := 136) rfl ?_
  refine Seg.iload at_136 rfl (pc' := 138) rfl ?_
  refine Seg.iload at_138 rfl (pc' := 140) rfl ?_
  have F_17 := F_11.ext Ei1
  have F_18 := F_12.ext Ei1
  refine Seg.callS (y' := (⟨"com/example/kredential/kredential/ResourceEqualsPinLaw", "field", "(Ljava/lang/String;Ljava/lang/String;IZZ)Ljava/lang/String;"⟩ : MethodName)) (wd G 10 rfl) (wd G 11 rfl) (wd G 12 rfl) (wd G 13 rfl) ⟨by decide, by decide⟩ (Pays.of_ct (W := 0) (ct_field G l2 l3 IFL ISL p2 m1 u1 di mi h_16 F_17 F_18 all_IFL all_ISL (by decide) (by decide) hm1 hu1 em1 eu1) all0 (wd G 13 rfl) (wd G 12 rfl) (by decide) (by decide) rfl rfl) (argsL := [(.ref l2), (.ref l3), (.int p2), (.int di), (.int mi)]) (rest := []) rfl (lenOf pd_6 rfl) rfl (Nat.le_of_eq rfl) rfl at_140 (pc' := 143) rfl (k' := 18) (n' := 732) rfl rfl (by decide) (by decide) ?_
  intro v_19 h_22 sz_20 q_21
  obtain ⟨i2, rfl, Ei2, Ti2⟩ := q_21
  obtain ⟨m2, hm2, em2⟩ := xk0_rem p3 IFL.length (by decide) (by decide)
  obtain ⟨u2, hu2, eu2⟩ := xk1_rem p3 ISL.length (by decide) (by decide)
  refine Seg.astore (L' := #[.val (.int p1), .val (.int p2), .val (.int p3), .val (.int p4), .val (.ref l1), .val (.ref l2), .val (.ref l3), .val (.int dt), .val (.int mt), .val (.int di), .val (.int mi), .val (.int dO), .val (.int mO), .val (.ref t1), .val (.ref t2), .val (.ref i1), .val (.ref i2), .unset, .unset, .unset, .unset, .unset, .unset]) at_143 rfl rfl (pc' := 145) rfl ?_
  refine Seg.aload at_145 rfl rfl (pc' := 147) rfl ?_
  refine Seg.aload at_147 rfl rfl (pc' := 149) rfl ?_
  refine Seg.iloadN at_149 rfl (pc' := 150) rfl ?_
  refine Seg.iconst (v := 0) at_150 (by decide) (pc' := 151) rfl ?_
  refine Seg.iconst (v := 0) at_151 (by decide) (pc' := 152) rfl ?_
  have F_23 := F_17.ext Ei2
  have F_24 := F_18.ext Ei2
  refine Seg.callS (y' := (⟨"com/example/kredential/kredential/ResourceEqualsPinLaw", "field", "(Ljava/lang/String;Ljava/lang/String;IZZ)Ljava/lang/String;"⟩ : MethodName)) (wd G 10 rfl) (wd G 11 rfl) (wd G 12 rfl) (wd G 13 rfl) ⟨by decide, by decide⟩ (Pays.of_ct (W := 0) (ct_field G l2 l3 IFL ISL p3 m2 u2 0 0 h_22 F_23 F_24 all_IFL all_ISL (by decide) (by decide) hm2 hu2 em2 eu2) all0 (wd G 13 rfl) (wd G 12 rfl) (by decide) (by decide) rfl rfl) (argsL := [(.ref l2), (.ref l3), (.int p3), (.int (0 : Int32)), (.int (0 : Int32))]) (rest := []) rfl (lenOf pd_6 rfl) rfl (Nat.le_of_eq rfl) rfl at_152 (pc' := 155) rfl (k' := 21) (n' := 740) rfl rfl (by decide) (by decide) ?_
  intro v_25 h_28 sz_26 q_27
  obtain ⟨o1, rfl, Eo1, To1⟩ := q_27
  refine Seg.astore (L' := #[.val (.int p1), .val (.int p2), .val (.int p3), .val (.int p4), .val (.ref l1), .val (.ref l2), .val (.ref l3), .val (.int dt), .val (.int mt), .val (.int di), .val (.int mi), .val (.int dO), .val (.int mO), .val (.ref t1), .val (.ref t2), .val (.ref i1), .val (.ref i2), .val (.ref o1), .unset, .unset, .unset, .unset, .unset]) at_155 rfl rfl (pc' := 157) rfl ?_
  refine Seg.aload at_157 rfl rfl (pc' := 159) rfl ?_
  refine Seg.aload at_159 rfl rfl (pc' := 161) rfl ?_
  refine Seg.iloadN at_161 rfl (pc' := 162) rfl ?_
  refine Seg.iload at_162 rfl (pc' := 164) rfl ?_
  refine Seg.iload at_164 rfl (pc' := 166) rfl ?_
  have F_29 := F_23.ext Eo1
  have F_30 := F_24.ext Eo1
  refine Seg.callS (y' := (⟨"com/example/kredential/kredential/ResourceEqualsPinLaw", "field", "(Ljava/lang/String;Ljava/lang/String;IZZ)Ljava/lang/String;"⟩ : MethodName)) (wd G 10 rfl) (wd G 11 rfl) (wd G 12 rfl) (wd G 13 rfl) ⟨by decide, by decide⟩ (Pays.of_ct (W := 0) (ct_field G l2 l3 IFL ISL p3 m2 u2 dO mO h_28 F_29 F_30 all_IFL all_ISL (by decide) (by decide) hm2 hu2 em2 eu2) all0 (wd G 13 rfl) (wd G 12 rfl) (by decide) (by decide) rfl rfl) (argsL := [(.ref l2), (.ref l3), (.int p3), (.int dO), (.int mO)]) (rest := []) rfl (lenOf pd_6 rfl) rfl (Nat.le_of_eq rfl) rfl at_166 (pc' := 169) rfl (k' := 24) (n' := 748) rfl rfl (by decide) (by decide) ?_
  intro v_31 h_34 sz_32 q_33
  obtain ⟨o2, rfl, Eo2, To2⟩ := q_33
  refine Seg.astore (L' := #[.val (.int p1), .val (.int p2), .val (.int p3), .val (.int p4), .val (.ref l1), .val (.ref l2), .val (.ref l3), .val (.int dt), .val (.int mt), .val (.int di), .val (.int mi), .val (.int dO), .val (.int mO), .val (.ref t1), .val (.ref t2), .val (.ref i1), .val (.ref i2), .val (.ref o1), .val (.ref o2), .unset, .unset, .unset, .unset]) at_169 rfl rfl (pc' := 171) rfl ?_
  refine Seg.newO (wd G 72 rfl) (wd G 73 rfl) (wd G 74 rfl) at_171 (pc' := 174) rfl (k' := 25) (n' := 751) rfl rfl (by decide) (by decide) ?_
  intro b_35 h_37 E_36 e_b_35 l_b_35 A_b_35 D_b_35
  have F_type_b_35 : Fld Z h_37 b_35 "com/example/kredential/kredential/Resource" "type" "Ljava/lang/String;" Value.null := D_b_35 (Or.inr (wd G 127 rfl)) (ty := (.object "java/lang/String")) (by decide)
  have F_id_b_35 : Fld Z h_37 b_35 "com/example/kredential/kredential/Resource" "id" "Ljava/lang/String;" Value.null := D_b_35 (Or.inr (wd G 129 rfl)) (ty := (.object "java/lang/String")) (by decide)
  have F_owner_b_35 : Fld Z h_37 b_35 "com/example/kredential/kredential/Resource" "owner" "Ljava/lang/String;" Value.null := D_b_35 (Or.inr (wd G 131 rfl)) (ty := (.object "java/lang/String")) (by decide)
  refine Seg.dup at_174 rfl (pc' := 175) rfl ?_
  refine Seg.aload at_175 rfl rfl (pc' := 177) rfl ?_
  refine Seg.aload at_177 rfl rfl (pc' := 179) rfl ?_
  refine Seg.aload at_179 rfl rfl (pc' := 181) rfl ?_
  have E_38 : Ext h_4 h_16 := ext_tr Et2 Ei1
  have E_39 : Ext h_4 h_22 := ext_tr E_38 Ei2
  have E_40 : Ext h_4 h_28 := ext_tr E_39 Eo1
  have E_41 : Ext h_4 h_34 := ext_tr E_40 Eo2
  have E_42 : Ext h_4 h_37 := ext_tr E_41 E_36
  have F_43 := Tt1.ext E_42
  have E_44 : Ext h_16 h_28 := ext_tr Ei2 Eo1
  have E_45 : Ext h_16 h_34 := ext_tr E_44 Eo2
  have E_46 : Ext h_16 h_37 := ext_tr E_45 E_36
  have F_47 := Ti1.ext E_46
  have E_48 : Ext h_28 h_37 := ext_tr Eo2 E_36
  have F_49 := To1.ext E_48
  refine Seg.callN (y' := (⟨"com/example/kredential/kredential/Resource", "<init>", "(Ljava/lang/String;Ljava/lang/String;Ljava/lang/String;)V"⟩ : MethodName)) (a := b_35) rfl (wd G 75 rfl) (wd G 76 rfl) (wd G 77 rfl) ⟨by decide, by decide⟩ (Pays.of_ct (W := 1) (ct_rinit G b_35 t1 i1 o1 (fldL TYL TYL (p1 &&& 1) m0 u0 0 0) (fldL IFL ISL (p2 &&& 1) m1 u1 0 0) (fldL IFL ISL (p3 &&& 1) m2 u2 0 0) .null .null .null h_37 A_b_35 F_type_b_35 F_id_b_35 F_owner_b_35 F_43 F_47 F_49 (fld_mem t_TYL t_TYL hm0 hu0) ⟨fld_mem i_IFL i_ISL hm1 hu1, fld_head d_IFL hm1⟩ ⟨fld_mem i_IFL i_ISL hm2 hu2, fld_head d_IFL hm2⟩) (allS (List.mem_of_getElem? (i := 0) rfl) all0) (wd G 77 rfl) (wd G 74 rfl) (by decide) (by decide) rfl rfl) (argsL := [(.ref t1), (.ref i1), (.ref o1)]) (rest := [(.ref b_35)]) rfl (lenOf pd_7 rfl) rfl (Nat.le_of_eq rfl) rfl at_181 (pc' := 184) rfl (k' := 37) (n' := 811) rfl rfl (by decide) (by decide) ?_
  intro v_50 h_53 sz_51 q_52
  obtain ⟨rfl, K0, G00, G01, G02⟩ := q_52
  refine Seg.astore (L' := #[.val (.int p1), .val (.int p2), .val (.int p3), .val (.int p4), .val (.ref l1), .val (.ref l2), .val (.ref l3), .val (.int dt), .val (.int mt), .val (.int di), .val (.int mi), .val (.int dO), .val (.int mO), .val (.ref t1), .val (.ref t2), .val (.ref i1), .val (.ref i2), .val (.ref o1), .val (.ref o2), .val (.ref b_35), .unset, .unset, .unset]) at_184 rfl rfl (pc' := 186) rfl ?_
  refine Seg.newO (wd G 72 rfl) (wd G 73 rfl) (wd G 74 rfl) at_186 (pc' := 189) rfl (k' := 38) (n' := 814) rfl rfl (by decide) (by decide) ?_
  intro b_54 h_56 E_55 e_b_54 l_b_54 A_b_54 D_b_54
  have F_type_b_54 : Fld Z h_56 b_54 "com/example/kredential/kredential/Resource" "type" "Ljava/lang/String;" Value.null := D_b_54 (Or.inr (wd G 127 rfl)) (ty := (.object "java/lang/String")) (by decide)
  have F_id_b_54 : Fld Z h_56 b_54 "com/example/kredential/kredential/Resource" "id" "Ljava/lang/String;" Value.null := D_b_54 (Or.inr (wd G 129 rfl)) (ty := (.object "java/lang/String")) (by decide)
  have F_owner_b_54 : Fld Z h_56 b_54 "com/example/kredential/kredential/Resource" "owner" "Ljava/lang/String;" Value.null := D_b_54 (Or.inr (wd G 131 rfl)) (ty := (.object "java/lang/String")) (by decide)
  refine Seg.dup at_189 rfl (pc' := 190) rfl ?_
  refine Seg.aload at_190 rfl rfl (pc' := 192) rfl ?_
  refine Seg.aload at_192 rfl rfl (pc' := 194) rfl ?_
  refine Seg.aload at_194 rfl rfl (pc' := 196) rfl ?_
  have E_57 : Ext h_9 h_22 := ext_tr Ei1 Ei2
  have E_58 : Ext h_9 h_28 := ext_tr E_57 Eo1
  have E_59 : Ext h_9 h_34 := ext_tr E_58 Eo2
  have E_60 : Ext h_9 h_37 := ext_tr E_59 E_36
  have E_61 : Ext h_9 h_53 := ext_kp E_60 K0 (allS (Nat.le_trans E_59.1 (Nat.le_of_eq e_b_35)) all0)
  have E_62 : Ext h_9 h_56 := ext_tr E_61 E_55
  have F_63 := Tt2.ext E_62
  have E_64 : Ext h_22 h_34 := ext_tr Eo1 Eo2
  have E_65 : Ext h_22 h_37 := ext_tr E_64 E_36
  have E_66 : Ext h_22 h_53 := ext_kp E_65 K0 (allS (Nat.le_trans E_64.1 (Nat.le_of_eq e_b_35)) all0)
  have E_67 : Ext h_22 h_56 := ext_tr E_66 E_55
  have F_68 := Ti2.ext E_67
  have E_69 : Ext h_34 h_53 := ext_kp E_36 K0 (allS (Nat.le_trans (ext_rfl _).1 (Nat.le_of_eq e_b_35)) all0)
  have E_70 : Ext h_34 h_56 := ext_tr E_69 E_55
  have F_71 := To2.ext E_70
  refine Seg.callN (y' := (⟨"com/example/kredential/kredential/Resource", "<init>", "(Ljava/lang/String;Ljava/lang/String;Ljava/lang/String;)V"⟩ : MethodName)) (a := b_54) rfl (wd G 75 rfl) (wd G 76 rfl) (wd G 77 rfl) ⟨by decide, by decide⟩ (Pays.of_ct (W := 1) (ct_rinit G b_54 t2 i2 o2 (fldL TYL TYL (p1 &&& 1) m0 u0 dt mt) (fldL IFL ISL (p2 &&& 1) m1 u1 di mi) (fldL IFL ISL (p3 &&& 1) m2 u2 dO mO) .null .null .null h_56 A_b_54 F_type_b_54 F_id_b_54 F_owner_b_54 F_63 F_68 F_71 (fld_mem t_TYL t_TYL hm0 hu0) ⟨fld_mem i_IFL i_ISL hm1 hu1, fld_head d_IFL hm1⟩ ⟨fld_mem i_IFL i_ISL hm2 hu2, fld_head d_IFL hm2⟩) (allS (List.mem_of_getElem? (i := 0) rfl) all0) (wd G 77 rfl) (wd G 74 rfl) (by decide) (by decide) rfl rfl) (argsL := [(.ref t2), (.ref i2), (.ref o2)]) (rest := [(.ref b_54)]) rfl (lenOf pd_7 rfl) rfl (Nat.le_of_eq rfl) rfl at_196 (pc' := 199) rfl (k' := 50) (n' := 874) rfl rfl (by decide) (by decide) ?_
  intro v_72 h_75 sz_73 q_74
  obtain ⟨rfl, K1, G10, G11, G12⟩ := q_74
  refine Seg.astore (L' := #[.val (.int p1), .val (.int p2), .val (.int p3), .val (.int p4), .val (.ref l1), .val (.ref l2), .val (.ref l3), .val (.int dt), .val (.int mt), .val (.int di), .val (.int mi), .val (.int dO), .val (.int mO), .val (.ref t1), .val (.ref t2), .val (.ref i1), .val (.ref i2), .val (.ref o1), .val (.ref o2), .val (.ref b_35), .val (.ref b_54), .unset, .unset]) at_199 rfl rfl (pc' := 201) rfl ?_
  have F_76 := (((A_b_35.keep K0).ext E_55).keep K1)
  have F_77 := (A_b_54.keep K1)
  have E_78 : Ext h_53 h_75 := ext_kp E_55 K1 (allS (Nat.le_trans (ext_rfl _).1 (Nat.le_of_eq e_b_54)) all0)
  have F_79 := G00.ext E_78
  have F_80 := G01.ext E_78
  have F_81 := G02.ext E_78
  have E_82 : Ext h_4 h_53 := ext_kp E_42 K0 (allS (Nat.le_trans E_41.1 (Nat.le_of_eq e_b_35)) all0)
  have E_83 : Ext h_4 h_56 := ext_tr E_82 E_55
  have E_84 : Ext h_4 h_75 := ext_kp E_83 K1 (allS (Nat.le_trans E_82.1 (Nat.le_of_eq e_b_54)) all0)
  have F_85 := Tt1.ext E_84
  have E_86 : Ext h_9 h_75 := ext_kp E_62 K1 (allS (Nat.le_trans E_61.1 (Nat.le_of_eq e_b_54)) all0)
  have F_87 := Tt2.ext E_86
  have E_88 : Ext h_16 h_53 := ext_kp E_46 K0 (allS (Nat.le_trans E_45.1 (Nat.le_of_eq e_b_35)) all0)
  have E_89 : Ext h_16 h_56 := ext_tr E_88 E_55
  have E_90 : Ext h_16 h_75 := ext_kp E_89 K1 (allS (Nat.le_trans E_88.1 (Nat.le_of_eq e_b_54)) all0)
  have F_91 := Ti1.ext E_90
  have E_92 : Ext h_22 h_75 := ext_kp E_67 K1 (allS (Nat.le_trans E_66.1 (Nat.le_of_eq e_b_54)) all0)
  have F_93 := Ti2.ext E_92
  have E_94 : Ext h_28 h_53 := ext_kp E_48 K0 (allS (Nat.le_trans Eo2.1 (Nat.le_of_eq e_b_35)) all0)
  have E_95 : Ext h_28 h_56 := ext_tr E_94 E_55
  have E_96 : Ext h_28 h_75 := ext_kp E_95 K1 (allS (Nat.le_trans E_94.1 (Nat.le_of_eq e_b_54)) all0)
  have F_97 := To1.ext E_96
  have E_98 : Ext h_34 h_75 := ext_kp E_70 K1 (allS (Nat.le_trans E_69.1 (Nat.le_of_eq e_b_54)) all0)
  have F_99 := To2.ext E_98
  exact (sg201 G p1 p2 p3 p4 l1 l2 l3 dt mt di mi dO mO t1 t2 i1 i2 o1 o2 b_35 b_54 (fldL TYL TYL (p1 &&& 1) m0 u0 0 0) (fldL TYL TYL (p1 &&& 1) m0 u0 dt mt) (fldL IFL ISL (p2 &&& 1) m1 u1 0 0) (fldL IFL ISL (p2 &&& 1) m1 u1 di mi) (fldL IFL ISL (p3 &&& 1) m2 u2 0 0) (fldL IFL ISL (p3 &&& 1) m2 u2 dO mO) h_75 F_76 F_77 F_79 F_80 F_81 G10 G11 G12 F_85 F_87 F_91 F_93 F_97 F_99 fld_eq (fun q => fld_ne (and1 _) q nx_TYL hm0) fld_eq (fun q => fld_ne (and1 _) q nx_IFL hm1) fld_eq (fun q => fld_ne (and1 _) q nx_IFL hm2)).mono (by decide) (by decide) all0
set_option maxRecDepth 65536 in
set_option maxHeartbeats 4000000 in
theorem sg79 {l : Launch} {Z : State} {a0 : Array Value} (G : Env1 Z a0) (p1 : Int32) (p2 : Int32) (p3 : Int32) (p4 : Int32) (l1 : Addr) (l2 : Addr) (l3 : Addr) (dt : Int32) (mt : Int32) (di : Int32) (mi : Int32) (dO : Int32) (h : Heap) (S1 : Str Z h l1 TYL) (S2 : Str Z h l2 IFL) (S3 : Str Z h l3 ISL) :
    Seg l Z a0 EL1 x code maxLocals ret room_1 (fun v h => v = some (.int 1)) h 6 700 [] 79 #[.val (.int p1), .val (.int p2), .val (.int p3), .val (.int p4), .val (.ref l1), .val (.ref l2), .val (.ref l3), .val (.int dt), .val (.int mt), .val (.int di), .val (.int mi), .val (.int dO), .unset, .unset, .unset, .unset, .unset, .unset, .unset, .unset, .unset, .unset, .unset] [] := by
  refine Seg.iloadN at_79 rfl (pc' := 80) rfl ?_
  refine Seg.bipush (v := 32) at_80 (by decide) (pc' := 82) rfl ?_
  refine Seg.iand (v := (p4 &&& (32 : Int32))) at_82 rfl (pc' := 83) rfl ?_
  by_cases h1 : (p4 &&& (32 : Int32)) = 0
  · refine Seg.ifY (pc' := 90) at_83 (XT.i0_eq_t h1) (by decide) (by decide) ?_
    refine Seg.iconst (v := 0) at_90 (by decide) (pc' := 91) rfl ?_
    refine Seg.istore (L' := #[.val (.int p1), .val (.int p2), .val (.int p3), .val (.int p4), .val (.ref l1), .val (.ref l2), .val (.ref l3), .val (.int dt), .val (.int mt), .val (.int di), .val (.int mi), .val (.int dO), .val (.int (0 : Int32)), .unset, .unset, .unset, .unset, .unset, .unset, .unset, .unset, .unset, .unset]) at_91 rfl (pc' := 93) rfl ?_
    exact sg93 G p1 p2 p3 p4 l1 l2 l3 dt mt di mi dO 0 h S1 S2 S3
  · refine Seg.ifN at_83 (XT.i0_eq_f h1) (pc' := 86) rfl ?_
    refine Seg.iconst (v := 1) at_86 (by decide) (pc' := 87) rfl ?_
    refine Seg.goto (pc' := 91) at_87 (by decide) (by decide) ?_
    refine Seg.istore (L' := #[.val (.int p1), .val (.int p2), .val (.int p3), .val (.int p4), .val (.ref l1), .val (.ref l2), .val (.ref l3), .val (.int dt), .val (.int mt), .val (.int di), .val (.int mi), .val (.int dO), .val (.int (1 : Int32)), .unset, .unset, .unset, .unset, .unset, .unset, .unset, .unset, .unset, .unset]) at_91 rfl (pc' := 93) rfl ?_
    exact sg93 G p1 p2 p3 p4 l1 l2 l3 dt mt di mi dO 1 h S1 S2 S3
set_option maxRecDepth 65536 in
set_option maxHeartbeats 4000000 in
theorem sg65 {l : Launch} {Z : State} {a0 : Array Value} (G : Env1 Z a0) (p1 : Int32) (p2 : Int32) (p3 : Int32) (p4 : Int32) (l1 : Addr) (l2 : Addr) (l3 : Addr) (dt : Int32) (mt : Int32) (di : Int32) (mi : Int32) (h : Heap) (S1 : Str Z h l1 TYL) (S2 : Str Z h l2 IFL) (S3 : Str Z h l3 ISL) :
    Seg l Z a0 EL1 x code maxLocals ret room_1 (fun v h => v = some (.int 1)) h 6 700 [] 65 #[.val (.int p1), .val (.int p2), .val (.int p3), .val (.int p4), .val (.ref l1), .val (.ref l2), .val (.ref l3), .val (.int dt), .val (.int mt), .val (.int di), .val (.int mi), .unset, .unset, .unset, .unset, .unset, .unset, .unset, .unset, .unset, .unset, .unset, .unset] [] := by
  refine Seg.iloadN at_65 rfl (pc' := 66) rfl ?_
  refine Seg.bipush (v := 16) at_66 (by decide) (pc' := 68) rfl ?_
  refine Seg.iand (v := (p4 &&& (16 : Int32))) at_68 rfl (pc' := 69) rfl ?_
  by_cases h1 : (p4 &&& (16 : Int32)) = 0
  · refine Seg.ifY (pc' := 76) at_69 (XT.i0_eq_t h1) (by decide) (by decide) ?_
    refine Seg.iconst (v := 0) at_76 (by decide) (pc' := 77) rfl ?_
    refine Seg.istore (L' := #[.val (.int p1), .val (.int p2), .val (.int p3), .val (.int p4), .val (.ref l1), .val (.ref l2), .val (.ref l3), .val (.int dt), .val (.int mt), .val (.int di), .val (.int mi), .val (.int (0 : Int32)), .unset, .unset, .unset, .unset, .unset, .unset, .unset, .unset, .unset, .unset, .unset]) at_77 rfl (pc' := 79) rfl ?_
    exact sg79 G p1 p2 p3 p4 l1 l2 l3 dt mt di mi 0 h S1 S2 S3
  · refine Seg.ifN at_69 (XT.i0_eq_f h1) (pc' := 72) rfl ?_
    refine Seg.iconst (v := 1) at_72 (by decide) (pc' := 73) rfl ?_
    refine Seg.goto (pc' := 77) at_73 (by decide) (by decide) ?_
    refine Seg.istore (L' := #[.val (.int p1), .val (.int p2), .val (.int p3), .val (.int p4), .val (.ref l1), .val (.ref l2), .val (.ref l3), .val (.int dt), .val (.int mt), .val (.int di), .val (.int mi), .val (.int (1 : Int32)), .unset, .unset, .unset, .unset, .unset, .unset, .unset, .unset, .unset, .unset, .unset]) at_77 rfl (pc' := 79) rfl ?_
    exact sg79 G p1 p2 p3 p4 l1 l2 l3 dt mt di mi 1 h S1 S2 S3
set_option maxRecDepth 65536 in
set_option maxHeartbeats 4000000 in
theorem sg51 {l : Launch} {Z : State} {a0 : Array Value} (G : Env1 Z a0) (p1 : Int32) (p2 : Int32) (p3 : Int32) (p4 : Int32) (l1 : Addr) (l2 : Addr) (l3 : Addr) (dt : Int32) (mt : Int32) (di : Int32) (h : Heap) (S1 : Str Z h l1 TYL) (S2 : Str Z h l2 IFL) (S3 : Str Z h l3 ISL) :
    Seg l Z a0 EL1 x code maxLocals ret room_1 (fun v h => v = some (.int 1)) h 6 700 [] 51 #[.val (.int p1), .val (.int p2), .val (.int p3), .val (.int p4), .val (.ref l1), .val (.ref l2), .val (.ref l3), .val (.int dt), .val (.int mt), .val (.int di), .unset, .unset, .unset, .unset, .unset, .unset, .unset, .unset, .unset, .unset, .unset, .unset, .unset] [] := by
  refine Seg.iloadN at_51 rfl (pc' := 52) rfl ?_
  refine Seg.bipush (v := 8) at_52 (by decide) (pc' := 54) rfl ?_
  refine Seg.iand (v := (p4 &&& (8 : Int32))) at_54 rfl (pc' := 55) rfl ?_
  by_cases h1 : (p4 &&& (8 : Int32)) = 0
  · refine Seg.ifY (pc' := 62) at_55 (XT.i0_eq_t h1) (by decide) (by decide) ?_
    refine Seg.iconst (v := 0) at_62 (by decide) (pc' := 63) rfl ?_
    refine Seg.istore (L' := #[.val (.int p1), .val (.int p2), .val (.int p3), .val (.int p4), .val (.ref l1), .val (.ref l2), .val (.ref l3), .val (.int dt), .val (.int mt), .val (.int di), .val (.int (0 : Int32)), .unset, .unset, .unset, .unset, .unset, .unset, .unset, .unset, .unset, .unset, .unset, .unset]) at_63 rfl (pc' := 65) rfl ?_
    exact sg65 G p1 p2 p3 p4 l1 l2 l3 dt mt di 0 h S1 S2 S3
  · refine Seg.ifN at_55 (XT.i0_eq_f h1) (pc' := 58) rfl ?_
    refine Seg.iconst (v := 1) at_58 (by decide) (pc' := 59) rfl ?_
    refine Seg.goto (pc' := 63) at_59 (by decide) (by decide) ?_
    refine Seg.istore (L' := #[.val (.int p1), .val (.int p2), .val (.int p3), .val (.int p4), .val (.ref l1), .val (.ref l2), .val (.ref l3), .val (.int dt), .val (.int mt), .val (.int di), .val (.int (1 : Int32)), .unset, .unset, .unset, .unset, .unset, .unset, .unset, .unset, .unset, .unset, .unset, .unset]) at_63 rfl (pc' := 65) rfl ?_
    exact sg65 G p1 p2 p3 p4 l1 l2 l3 dt mt di 1 h S1 S2 S3
set_option maxRecDepth 65536 in
set_option maxHeartbeats 4000000 in
theorem sg38 {l : Launch} {Z : State} {a0 : Array Value} (G : Env1 Z a0) (p1 : Int32) (p2 : Int32) (p3 : Int32) (p4 : Int32) (l1 : Addr) (l2 : Addr) (l3 : Addr) (dt : Int32) (mt : Int32) (h : Heap) (S1 : Str Z h l1 TYL) (S2 : Str Z h l2 IFL) (S3 : Str Z h l3 ISL) :
    Seg l Z a0 EL1 x code maxLocals ret room_1 (fun v h => v = some (.int 1)) h 6 700 [] 38 #[.val (.int p1), .val (.int p2), .val (.int p3), .val (.int p4), .val (.ref l1), .val (.ref l2), .val (.ref l3), .val (.int dt), .val (.int mt), .unset, .unset, .unset, .unset, .unset, .unset, .unset, .unset, .unset, .unset, .unset, .unset, .unset, .unset] [] := by
  refine Seg.iloadN at_38 rfl (pc' := 39) rfl ?_
  refine Seg.iconst (v := 4) at_39 (by decide) (pc' := 40) rfl ?_
  refine Seg.iand (v := (p4 &&& (4 : Int32))) at_40 rfl (pc' := 41) rfl ?_
  by_cases h1 : (p4 &&& (4 : Int32)) = 0
  · refine Seg.ifY (pc' := 48) at_41 (XT.i0_eq_t h1) (by decide) (by decide) ?_
    refine Seg.iconst (v := 0) at_48 (by decide) (pc' := 49) rfl ?_
    refine Seg.istore (L' := #[.val (.int p1), .val (.int p2), .val (.int p3), .val (.int p4), .val (.ref l1), .val (.ref l2), .val (.ref l3), .val (.int dt), .val (.int mt), .val (.int (0 : Int32)), .unset, .unset, .unset, .unset, .unset, .unset, .unset, .unset, .unset, .unset, .unset, .unset, .unset]) at_49 rfl (pc' := 51) rfl ?_
    exact sg51 G p1 p2 p3 p4 l1 l2 l3 dt mt 0 h S1 S2 S3
  · refine Seg.ifN at_41 (XT.i0_eq_f h1) (pc' := 44) rfl ?_
    refine Seg.iconst (v := 1) at_44 (by decide) (pc' := 45) rfl ?_
    refine Seg.goto (pc' := 49) at_45 (by decide) (by decide) ?_
    refine Seg.istore (L' := #[.val (.int p1), .val (.int p2), .val (.int p3), .val (.int p4), .val (.ref l1), .val (.ref l2), .val (.ref l3), .val (.int dt), .val (.int mt), .val (.int (1 : Int32)), .unset, .unset, .unset, .unset, .unset, .unset, .unset, .unset, .unset, .unset, .unset, .unset, .unset]) at_49 rfl (pc' := 51) rfl ?_
    exact sg51 G p1 p2 p3 p4 l1 l2 l3 dt mt 1 h S1 S2 S3
set_option maxRecDepth 65536 in
set_option maxHeartbeats 4000000 in
theorem sg25 {l : Launch} {Z : State} {a0 : Array Value} (G : Env1 Z a0) (p1 : Int32) (p2 : Int32) (p3 : Int32) (p4 : Int32) (l1 : Addr) (l2 : Addr) (l3 : Addr) (dt : Int32) (h : Heap) (S1 : Str Z h l1 TYL) (S2 : Str Z h l2 IFL) (S3 : Str Z h l3 ISL) :
    Seg l Z a0 EL1 x code maxLocals ret room_1 (fun v h => v = some (.int 1)) h 6 700 [] 25 #[.val (.int p1), .val (.int p2), .val (.int p3), .val (.int p4), .val (.ref l1), .val (.ref l2), .val (.ref l3), .val (.int dt), .unset, .unset, .unset, .unset, .unset, .unset, .unset, .unset, .unset, .unset, .unset, .unset, .unset, .unset, .unset] [] := by
  refine Seg.iloadN at_25 rfl (pc' := 26) rfl ?_
  refine Seg.iconst (v := 2) at_26 (by decide) (pc' := 27) rfl ?_
  refine Seg.iand (v := (p4 &&& (2 : Int32))) at_27 rfl (pc' := 28) rfl ?_
  by_cases h1 : (p4 &&& (2 : Int32)) = 0
  · refine Seg.ifY (pc' := 35) at_28 (XT.i0_eq_t h1) (by decide) (by decide) ?_
    refine Seg.iconst (v := 0) at_35 (by decide) (pc' := 36) rfl ?_
    refine Seg.istore (L' := #[.val (.int p1), .val (.int p2), .val (.int p3), .val (.int p4), .val (.ref l1), .val (.ref l2), .val (.ref l3), .val (.int dt), .val (.int (0 : Int32)), .unset, .unset, .unset, .unset, .unset, .unset, .unset, .unset, .unset, .unset, .unset, .unset, .unset, .unset]) at_36 rfl (pc' := 38) rfl ?_
    exact sg38 G p1 p2 p3 p4 l1 l2 l3 dt 0 h S1 S2 S3
  · refine Seg.ifN at_28 (XT.i0_eq_f h1) (pc' := 31) rfl ?_
    refine Seg.iconst (v := 1) at_31 (by decide) (pc' := 32) rfl ?_
    refine Seg.goto (pc' := 36) at_32 (by decide) (by decide) ?_
    refine Seg.istore (L' := #[.val (.int p1), .val (.int p2), .val (.int p3), .val (.int p4), .val (.ref l1), .val (.ref l2), .val (.ref l3), .val (.int dt), .val (.int (1 : Int32)), .unset, .unset, .unset, .unset, .unset, .unset, .unset, .unset, .unset, .unset, .unset, .unset, .unset, .unset]) at_36 rfl (pc' := 38) rfl ?_
    exact sg38 G p1 p2 p3 p4 l1 l2 l3 dt 1 h S1 S2 S3
set_option maxRecDepth 65536 in
set_option maxHeartbeats 4000000 in
theorem sg12 {l : Launch} {Z : State} {a0 : Array Value} (G : Env1 Z a0) (p1 : Int32) (p2 : Int32) (p3 : Int32) (p4 : Int32) (l1 : Addr) (l2 : Addr) (l3 : Addr) (h : Heap) (S1 : Str Z h l1 TYL) (S2 : Str Z h l2 IFL) (S3 : Str Z h l3 ISL) :
    Seg l Z a0 EL1 x code maxLocals ret room_1 (fun v h => v = some (.int 1)) h 6 700 [] 12 #[.val (.int p1), .val (.int p2), .val (.int p3), .val (.int p4), .val (.ref l1), .val (.ref l2), .val (.ref l3), .unset, .unset, .unset, .unset, .unset, .unset, .unset, .unset, .unset, .unset, .unset, .unset, .unset, .unset, .unset, .unset] [] := by
  refine Seg.iloadN at_12 rfl (pc' := 13) rfl ?_
  refine Seg.iconst (v := 1) at_13 (by decide) (pc' := 14) rfl ?_
  refine Seg.iand (v := (p4 &&& (1 : Int32))) at_14 rfl (pc' := 15) rfl ?_
  by_cases h1 : (p4 &&& (1 : Int32)) = 0
  · refine Seg.ifY (pc' := 22) at_15 (XT.i0_eq_t h1) (by decide) (by decide) ?_
    refine Seg.iconst (v := 0) at_22 (by decide) (pc' := 23) rfl ?_
    refine Seg.istore (L' := #[.val (.int p1), .val (.int p2), .val (.int p3), .val (.int p4), .val (.ref l1), .val (.ref l2), .val (.ref l3), .val (.int (0 : Int32)), .unset, .unset, .unset, .unset, .unset, .unset, .unset, .unset, .unset, .unset, .unset, .unset, .unset, .unset, .unset]) at_23 rfl (pc' := 25) rfl ?_
    exact sg25 G p1 p2 p3 p4 l1 l2 l3 0 h S1 S2 S3
  · refine Seg.ifN at_15 (XT.i0_eq_f h1) (pc' := 18) rfl ?_
    refine Seg.iconst (v := 1) at_18 (by decide) (pc' := 19) rfl ?_
    refine Seg.goto (pc' := 23) at_19 (by decide) (by decide) ?_
    refine Seg.istore (L' := #[.val (.int p1), .val (.int p2), .val (.int p3), .val (.int p4), .val (.ref l1), .val (.ref l2), .val (.ref l3), .val (.int (1 : Int32)), .unset, .unset, .unset, .unset, .unset, .unset, .unset, .unset, .unset, .unset, .unset, .unset, .unset, .unset, .unset]) at_23 rfl (pc' := 25) rfl ?_
    exact sg25 G p1 p2 p3 p4 l1 l2 l3 1 h S1 S2 S3
set_option maxRecDepth 65536 in
set_option maxHeartbeats 4000000 in
theorem sg0 {l : Launch} {Z : State} {a0 : Array Value} (G : Env1 Z a0) (p1 : Int32) (p2 : Int32) (p3 : Int32) (p4 : Int32) (h0 : Heap) :
    Seg l Z a0 EL1 x code maxLocals ret room_1 (fun v h => v = some (.int 1)) h0 0 0 [] 0 #[.val (.int p1), .val (.int p2), .val (.int p3), .val (.int p4), .unset, .unset, .unset, .unset, .unset, .unset, .unset, .unset, .unset, .unset, .unset, .unset, .unset, .unset, .unset, .unset, .unset, .unset, .unset] [] := by
  refine Seg.ldcS (text := "abcdefghijklmnopqrstuvwxyz0123456789-") (vs := [(.int 97), (.int 98), (.int 99), (.int 100), (.int 101), (.int 102), (.int 103), (.int 104), (.int 105), (.int 106), (.int 107), (.int 108), (.int 109), (.int 110), (.int 111), (.int 112), (.int 113), (.int 114), (.int 115), (.int 116), (.int 117), (.int 118), (.int 119), (.int 120), (.int 121), (.int 122), (.int 48), (.int 49), (.int 50), (.int 51), (.int 52), (.int 53), (.int 54), (.int 55), (.int 56), (.int 57), (.int 45)]) (z := 37) (nn := 148) (wd G 0 rfl) (wS G) (by decide) (by decide +kernel) (by decide) (by decide) at_0 (pc' := 2) rfl (by decide) (by decide) (k' := 2) (n' := 152) rfl rfl (by decide) (by decide) ?_
  intro a_1 h_10 b_2 kb_3 E_4 A_5 F_6 F_7 A_8 ne_9
  have F_TYL : Str Z h_10 a_1 TYL := ⟨b_2, kb_3, 0, 37, _, A_5, F_7, F_6, A_8, cod_TYL, le16 all_TYL, (by decide)⟩
  refine Seg.astore (L' := #[.val (.int p1), .val (.int p2), .val (.int p3), .val (.int p4), .val (.ref a_1), .unset, .unset, .unset, .unset, .unset, .unset, .unset, .unset, .unset, .unset, .unset, .unset, .unset, .unset, .unset, .unset, .unset, .unset]) at_2 rfl rfl (pc' := 4) rfl ?_
  refine Seg.ldcS (text := "ABCDEFGHIJKLMNOPQRSTUVWXYZabcdefghijklmnopqrstuvwxyz0123456789_-:") (vs := [(.int 65), (.int 66), (.int 67), (.int 68), (.int 69), (.int 70), (.int 71), (.int 72), (.int 73), (.int 74), (.int 75), (.int 76), (.int 77), (.int 78), (.int 79), (.int 80), (.int 81), (.int 82), (.int 83), (.int 84), (.int 85), (.int 86), (.int 87), (.int 88), (.int 89), (.int 90), (.int 97), (.int 98), (.int 99), (.int 100), (.int 101), (.int 102), (.int 103), (.int 104), (.int 105), (.int 106), (.int 107), (.int 108), (.int 109), (.int 110), (.int 111), (.int 112), (.int 113), (.int 114), (.int 115), (.int 116), (.int 117), (.int 118), (.int 119), (.int 120), (.int 121), (.int 122), (.int 48), (.int 49), (.int 50), (.int 51), (.int 52), (.int 53), (.int 54), (.int 55), (.int 56), (.int 57), (.int 95), (.int 45), (.int 58)]) (z := 65) (nn := 260) (wd G 8 rfl) (wS G) (by decide) (by decide +kernel) (by decide) (by decide) at_4 (pc' := 6) rfl (by decide) (by decide) (k' := 4) (n' := 416) rfl rfl (by decide) (by decide) ?_
  intro a_11 h_20 b_12 kb_13 E_14 A_15 F_16 F_17 A_18 ne_19
  have F_IFL : Str Z h_20 a_11 IFL := ⟨b_12, kb_13, 0, 65, _, A_15, F_17, F_16, A_18, cod_IFL, le16 all_IFL, (by decide)⟩
  refine Seg.astore (L' := #[.val (.int p1), .val (.int p2), .val (.int p3), .val (.int p4), .val (.ref a_1), .val (.ref a_11), .unset, .unset, .unset, .unset, .unset, .unset, .unset, .unset, .unset, .unset, .unset, .unset, .unset, .unset, .unset, .unset, .unset]) at_6 rfl rfl (pc' := 8) rfl ?_
  refine Seg.ldcS (text := "ABCDEFGHIJKLMNOPQRSTUVWXYZabcdefghijklmnopqrstuvwxyz0123456789_-:.") (vs := [(.int 65), (.int 66), (.int 67), (.int 68), (.int 69), (.int 70), (.int 71), (.int 72), (.int 73), (.int 74), (.int 75), (.int 76), (.int 77), (.int 78), (.int 79), (.int 80), (.int 81), (.int 82), (.int 83), (.int 84), (.int 85), (.int 86), (.int 87), (.int 88), (.int 89), (.int 90), (.int 97), (.int 98), (.int 99), (.int 100), (.int 101), (.int 102), (.int 103), (.int 104), (.int 105), (.int 106), (.int 107), (.int 108), (.int 109), (.int 110), (.int 111), (.int 112), (.int 113), (.int 114), (.int 115), (.int 116), (.int 117), (.int 118), (.int 119), (.int 120), (.int 121), (.int 122), (.int 48), (.int 49), (.int 50), (.int 51), (.int 52), (.int 53), (.int 54), (.int 55), (.int 56), (.int 57), (.int 95), (.int 45), (.int 58), (.int 46)]) (z := 66) (nn := 264) (wd G 9 rfl) (wS G) (by decide) (by decide +kernel) (by decide) (by decide) at_8 (pc' := 10) rfl (by decide) (by decide) (k' := 6) (n' := 684) rfl rfl (by decide) (by decide) ?_
  intro a_21 h_30 b_22 kb_23 E_24 A_25 F_26 F_27 A_28 ne_29
  have F_ISL : Str Z h_30 a_21 ISL := ⟨b_22, kb_23, 0, 66, _, A_25, F_27, F_26, A_28, cod_ISL, le16 all_ISL, (by decide)⟩
  refine Seg.astore (L' := #[.val (.int p1), .val (.int p2), .val (.int p3), .val (.int p4), .val (.ref a_1), .val (.ref a_11), .val (.ref a_21), .unset, .unset, .unset, .unset, .unset, .unset, .unset, .unset, .unset, .unset, .unset, .unset, .unset, .unset, .unset, .unset]) at_10 rfl rfl (pc' := 12) rfl ?_
  have E_31 : Ext h_10 h_30 := ext_tr E_14 E_24
  have F_32 := F_TYL.ext E_31
  have F_33 := F_IFL.ext E_24
  exact (sg12 G p1 p2 p3 p4 a_1 a_11 a_21 h_30 F_32 F_33 F_ISL).mono (by decide) (by decide) all0
theorem eqint {args : Array Value} {first s : State} {o : Option Outcome} {idx : List Nat} {t : Term} {n : Int32} (h : (Jvm.Cond.eq t (.int n)).value args first o s idx = some true) : t.eval args first o idx s = some (.int n) := by
  obtain ⟨x, y, h1, h2, h3, -⟩ := cmp_v (Or.inl h)
  cases h2
  cases x <;> simp [Cond.value, h1, Term.eval] at h ⊢
  · exact h
theorem atL {cl : Cell} {i : Nat} {v : Value} (h : cl.slots[i]? = some v) (d : Value) : cl.slots.toList.getD i d = v := by
  rw [List.getD_eq_getElem?_getD, Array.getElem?_toList, h]; rfl
theorem ef_law (i1 : Int32) (i2 : Int32) (i3 : Int32) (i4 : Int32) (m : MethodId) : entryFrame m #[(.int i1), (.int i2), (.int i3), (.int i4)] maxLocals = mkF m 0 #[.val (.int i1), .val (.int i2), .val (.int i3), .val (.int i4), .unset, .unset, .unset, .unset, .unset, .unset, .unset, .unset, .unset, .unset, .unset, .unset, .unset, .unset, .unset, .unset, .unset, .unset, .unset] [] := by first | (simp [entryFrame, mkF, argsToLocals, Value.category, maxLocals]; done) | rfl
set_option maxRecDepth 65536 in
set_option maxHeartbeats 40000000 in
theorem comes_1 {Post : Tables → Env → Array Value → State → Outcome → State → Prop} (hpost : ∀ tb e args s v u, (limb_1_1.after args s (.returned v) u = true ∧ limb_1_2.after args s (.returned v) u = true ∧ True) → Jvm.Pilot.@@N@@.Jvm.D.FramedW s (.returned v) u (Jvm.fieldLocs frame_1_writes args s ++ Jvm.arrayLocs frame_1_arrays args s ++ Jvm.staticLocs frame_1_statics s) 64 5312 → Post tb e args s (.returned v) u) :
    Jvm.Pilot.@@N@@.Jvm.D.ArmFor flags0 classFile x code maxLocals ret World_1 tables_1 room_1 Calls_1 rest_1 Pre_1 Post := by
  intro l hfl _ _ p e ha hc hk s m args below hf hA hF happ hP
  obtain ⟨hcalls, hrest, hpre⟩ := hP
  obtain ⟨-, -, -, hnamed, -, -, -, hat⟩ := (Spec.applies_iff hf).mp happ
  obtain ⟨hg, hn⟩ := and_e (Cond.before_iff.mp (show (Jvm.Cond.and given_1 narrow_1).before args s = true from hpre))
  obtain ⟨hc0, g1⟩ := and_e hg
  obtain ⟨a1, g2⟩ := and_e g1
  obtain ⟨a2, g3⟩ := and_e g2
  obtain ⟨a3, g4⟩ := and_e g3
  obtain ⟨w0, w1, w2, w3, rfl⟩ : ∃ w0 w1 w2 w3 : Value, args = #[w0, w1, w2, w3] := by
    have hs : args.size = 4 := by simpa [Cond.value, given_1] using hc0
    obtain ⟨L⟩ := args
    match L, hs with
    | [w0, w1, w2, w3], _ => exact ⟨w0, w1, w2, w3, rfl⟩
  have hw := fun d (hd : d ∈ tables_1) => atoms_spec (ws := Jvm.Cond.code x code maxLocals ret :: tables_1) hat d (List.mem_cons_of_mem _ hd)
  obtain ⟨hsets, hown0⟩ := atoms_of _ (rest_1_c_eq ▸ (show rest_1_c.before _ s = true from hrest))
  have hfit : Fit s := fun {y c} hc i hi => by
    obtain ⟨ha, rfl⟩ := Array.getElem?_eq_some_iff.mp hc
    have q := List.all_eq_true.mp ((Array.all_eq_true_iff_forall_mem.mp hF) _ (Array.getElem_mem ha)) i (List.mem_range.mpr hi)
    simpa [Array.getElem?_eq_getElem hi] using q
  obtain ⟨i1, u0⟩ := is_v a1
  obtain rfl : w0 = (.int i1) := Option.some.inj u0
  obtain ⟨i2, u1⟩ := is_v a2
  obtain rfl : w1 = (.int i2) := Option.some.inj u1
  obtain ⟨i3, u2⟩ := is_v a3
  obtain rfl : w2 = (.int i3) := Option.some.inj u2
  obtain ⟨i4, u3⟩ := is_v g4
  obtain rfl : w3 = (.int i4) := Option.some.inj u3
  obtain ⟨zc, ec⟩ := is_v (Cond.before_iff.mp (hsets _ (List.mem_of_getElem? (i := 1) rfl)))
  have Sc : Sta s s.heap "java/lang/String" "COMPACT_STRINGS" "Z" (.int zc) := Sta.start ec (Or.inl (hsets _ (List.mem_of_getElem? (i := 0) rfl)))
  have hcw := hsets _ (List.mem_of_getElem? (i := 2) rfl)
  have hzc : ¬ (zc = (0 : Int32)) := gotF (Cond.eq_ints ec (Term.int_eval (0))) (not_v (Cond.before_iff.mp hcw))
  have hEW : EW s #[(.int i1), (.int i2), (.int i3), (.int i4)] EL1 := (EW.cons (hw _ (List.mem_of_getElem? (i := 108) rfl)) (by decide) (EW.cons (hw _ (List.mem_of_getElem? (i := 118) rfl)) (by decide) (EW.cons (hw _ (List.mem_of_getElem? (i := 0) rfl)) (by decide) (EW.cons (hw _ (List.mem_of_getElem? (i := 8) rfl)) (by decide) (EW.cons (hw _ (List.mem_of_getElem? (i := 9) rfl)) (by decide) EW.nil)))))
  obtain ⟨fm, ef0, hfm⟩ := isR_v (Cond.before_iff.mp (hsets _ (List.mem_of_getElem? (i := 8) rfl)))
  have Sfm : Sta s s.heap "jdk/internal/util/Preconditions" "SIOOBE_FORMATTER" "Ljava/util/function/BiFunction;" fm := Sta.start ef0 (Or.inl (hsets _ (List.mem_of_getElem? (i := 7) rfl)))
  obtain ⟨n0, r0⟩ := and_e hn
  obtain ⟨n1, r1⟩ := and_e r0
  obtain ⟨n2, r2⟩ := and_e r1
  obtain ⟨n3, r3⟩ := and_e r2
  obtain ⟨n4, r4⟩ := and_e r3
  obtain ⟨n5, r5⟩ := and_e r4
  obtain ⟨n6, r6⟩ := and_e r5
  obtain ⟨n7, r7⟩ := and_e r6
  obtain ⟨n8, r8⟩ := and_e r7
  obtain ⟨n9, r9⟩ := and_e r8
  obtain ⟨n10, r10⟩ := and_e r9
  obtain ⟨n11, r11⟩ := and_e r10
  obtain ⟨n12, r12⟩ := and_e r11
  obtain ⟨n13, r13⟩ := and_e r12
  obtain ⟨n14, r14⟩ := and_e r13
  obtain ⟨n15, r15⟩ := and_e r14
  obtain ⟨n16, r16⟩ := and_e r15
  obtain ⟨n17, r17⟩ := and_e r16
  obtain ⟨n18, r18⟩ := and_e r17
  obtain ⟨n19, r19⟩ := and_e r18
  obtain ⟨n20, r20⟩ := and_e r19
  obtain ⟨n21, r21⟩ := and_e r20
  obtain ⟨n22, r22⟩ := and_e r21
  obtain ⟨n23, r23⟩ := and_e r22
  obtain ⟨n24, r24⟩ := and_e r23
  obtain ⟨n25, r25⟩ := and_e r24
  obtain ⟨n26, r26⟩ := and_e r25
  obtain ⟨n27, r27⟩ := and_e r26
  obtain ⟨n28, r28⟩ := and_e r27
  obtain ⟨n29, r29⟩ := and_e r28
  obtain ⟨n30, r30⟩ := and_e r29
  obtain ⟨n31, r31⟩ := and_e r30
  obtain ⟨n32, r32⟩ := and_e r31
  obtain ⟨n33, r33⟩ := and_e r32
  obtain ⟨n34, r34⟩ := and_e r33
  obtain ⟨n35, r35⟩ := and_e r34
  obtain ⟨n36, r36⟩ := and_e r35
  obtain ⟨n37, r37⟩ := and_e r36
  obtain ⟨n38, r38⟩ := and_e r37
  obtain ⟨n39, r39⟩ := and_e r38
  obtain ⟨n40, r40⟩ := and_e r39
  obtain ⟨n41, r41⟩ := and_e r40
  obtain ⟨n42, r42⟩ := and_e r41
  obtain ⟨n43, r43⟩ := and_e r42
  obtain ⟨n44, r44⟩ := and_e r43
  obtain ⟨n45, r45⟩ := and_e r44
  have n46 := r45
  obtain ⟨rt, ert⟩ := exa_v n0
  have Art : Exa s s.heap rt "com/example/kredential/kredential/NameRule" := Exa.start ert n0
  have Srt : Sta s s.heap "com/example/kredential/kredential/Resource" "TYPE" "Lcom/example/kredential/kredential/NameRule;" (.ref rt) := Sta.start ert (Or.inr ⟨hw _ (List.mem_of_getElem? (i := 74) rfl), hw _ (List.mem_of_getElem? (i := 83) rfl)⟩)
  have Mrt : Fld s s.heap rt "com/example/kredential/kredential/NameRule" "maxLength" "I" (.int 64) := Fld.start ((fld_at ert).symm.trans (eqint n1))
  have Drt : Fld s s.heap rt "com/example/kredential/kredential/NameRule" "refusesDotSegments" "Z" (.int 0) := Fld.start ((fld_at ert).symm.trans (eqint n2))
  obtain ⟨alrt, ealrt⟩ := arr_v n3
  have Lrt : Fld s s.heap rt "com/example/kredential/kredential/NameRule" "allowed" "[Z" (.ref alrt) := Fld.start ((fld_at ert).symm.trans ealrt)
  obtain ⟨kcrt, clrt, atrt, hcrt, szrt, Vrt⟩ := arv_startX (.int 0) hfit ealrt n3 (eqint n4) (by decide)
  have syrt : clrt.slots.size = 128 := szrt
  have Urt : ∀ c : Int32, okT c → clrt.slots.toList.getD c.toNatClampNeg (.int 0) = .int 1 := fun c hc => by
    rcases hc with q | ⟨q, q'⟩ | ⟨q, q'⟩
    · rw [q]; exact atL (elem_in (eqint n16) ealrt (Term.int_eval 45) hcrt).2 _
    · exact atL (all_rng (fun _ => ealrt) ealrt atrt hcrt n19 (by omega) (by omega) (n32nlt (n := 48) q (by omega)) (n32lt (n := 58) q' (by decide))) _
    · exact atL (all_rng (fun _ => ealrt) ealrt atrt hcrt n21 (by omega) (by omega) (n32nlt (n := 97) q (by omega)) (n32lt (n := 123) q' (by decide))) _
  have Rrt : Rule s s.heap rt 64 0 okT := ⟨alrt, kcrt, _, Art, Mrt, Drt, Lrt, Vrt, Urt⟩
  obtain ⟨ri, eri⟩ := exa_v n5
  have Ari : Exa s s.heap ri "com/example/kredential/kredential/NameRule" := Exa.start eri n5
  have Sri : Sta s s.heap "com/example/kredential/kredential/Resource" "ID" "Lcom/example/kredential/kredential/NameRule;" (.ref ri) := Sta.start eri (Or.inr ⟨hw _ (List.mem_of_getElem? (i := 74) rfl), hw _ (List.mem_of_getElem? (i := 107) rfl)⟩)
  have Mri : Fld s s.heap ri "com/example/kredential/kredential/NameRule" "maxLength" "I" (.int 128) := Fld.start ((fld_at eri).symm.trans (eqint n6))
  have Dri : Fld s s.heap ri "com/example/kredential/kredential/NameRule" "refusesDotSegments" "Z" (.int 1) := Fld.start ((fld_at eri).symm.trans (eqint n7))
  obtain ⟨alri, ealri⟩ := arr_v n8
  have Lri : Fld s s.heap ri "com/example/kredential/kredential/NameRule" "allowed" "[Z" (.ref alri) := Fld.start ((fld_at eri).symm.trans ealri)
  obtain ⟨kcri, clri, atri, hcri, szri, Vri⟩ := arv_startX (.int 0) hfit ealri n8 (eqint n9) (by decide)
  have syri : clri.slots.size = 128 := szri
  have Uri : ∀ c : Int32, okI c → clri.slots.toList.getD c.toNatClampNeg (.int 0) = .int 1 := fun c hc => by
    rcases hc with q | q | ⟨q, q'⟩ | ⟨q, q'⟩ | q | ⟨q, q'⟩
    · rw [q]; exact atL (elem_in (eqint n24) ealri (Term.int_eval 45) hcri).2 _
    · rw [q]; exact atL (elem_in (eqint n25) ealri (Term.int_eval 46) hcri).2 _
    · exact atL (all_rng (fun _ => ealri) ealri atri hcri n27 (by omega) (by omega) (n32nlt (n := 48) q (by omega)) (n32lt (n := 59) q' (by decide))) _
    · exact atL (all_rng (fun _ => ealri) ealri atri hcri n29 (by omega) (by omega) (n32nlt (n := 65) q (by omega)) (n32lt (n := 91) q' (by decide))) _
    · rw [q]; exact atL (elem_in (eqint n31) ealri (Term.int_eval 95) hcri).2 _
    · exact atL (all_rng (fun _ => ealri) ealri atri hcri n33 (by omega) (by omega) (n32nlt (n := 97) q (by omega)) (n32lt (n := 123) q' (by decide))) _
  have Rri : Rule s s.heap ri 128 1 okI := ⟨alri, kcri, _, Ari, Mri, Dri, Lri, Vri, Uri⟩
  obtain ⟨rp, erp⟩ := exa_v n10
  have Arp : Exa s s.heap rp "com/example/kredential/kredential/NameRule" := Exa.start erp n10
  have Srp : Sta s s.heap "com/example/kredential/kredential/Participant" "ID" "Lcom/example/kredential/kredential/NameRule;" (.ref rp) := Sta.start erp (Or.inr ⟨hw _ (List.mem_of_getElem? (i := 121) rfl), hw _ (List.mem_of_getElem? (i := 124) rfl)⟩)
  have Mrp : Fld s s.heap rp "com/example/kredential/kredential/NameRule" "maxLength" "I" (.int 128) := Fld.start ((fld_at erp).symm.trans (eqint n11))
  have Drp : Fld s s.heap rp "com/example/kredential/kredential/NameRule" "refusesDotSegments" "Z" (.int 1) := Fld.start ((fld_at erp).symm.trans (eqint n12))
  obtain ⟨alrp, ealrp⟩ := arr_v n13
  have Lrp : Fld s s.heap rp "com/example/kredential/kredential/NameRule" "allowed" "[Z" (.ref alrp) := Fld.start ((fld_at erp).symm.trans ealrp)
  obtain ⟨kcrp, clrp, atrp, hcrp, szrp, Vrp⟩ := arv_startX (.int 0) hfit ealrp n13 (eqint n14) (by decide)
  have syrp : clrp.slots.size = 128 := szrp
  have Urp : ∀ c : Int32, okI c → clrp.slots.toList.getD c.toNatClampNeg (.int 0) = .int 1 := fun c hc => by
    rcases hc with q | q | ⟨q, q'⟩ | ⟨q, q'⟩ | q | ⟨q, q'⟩
    · rw [q]; exact atL (elem_in (eqint n36) ealrp (Term.int_eval 45) hcrp).2 _
    · rw [q]; exact atL (elem_in (eqint n37) ealrp (Term.int_eval 46) hcrp).2 _
    · exact atL (all_rng (fun _ => ealrp) ealrp atrp hcrp n39 (by omega) (by omega) (n32nlt (n := 48) q (by omega)) (n32lt (n := 59) q' (by decide))) _
    · exact atL (all_rng (fun _ => ealrp) ealrp atrp hcrp n41 (by omega) (by omega) (n32nlt (n := 65) q (by omega)) (n32lt (n := 91) q' (by decide))) _
    · rw [q]; exact atL (elem_in (eqint n43) ealrp (Term.int_eval 95) hcrp).2 _
    · exact atL (all_rng (fun _ => ealrp) ealrp atrp hcrp n45 (by omega) (by omega) (n32nlt (n := 97) q (by omega)) (n32lt (n := 123) q' (by decide))) _
  have Rrp : Rule s s.heap rp 128 1 okI := ⟨alrp, kcrp, _, Arp, Mrp, Drp, Lrp, Vrp, Urp⟩
  have G : Env1 s #[(.int i1), (.int i2), (.int i3), (.int i4)] := ⟨hw, hEW, ⟨zc, Sc, hzc⟩, ⟨fm, Sfm, hfm⟩, rt, ri, rp, Srt, Sri, Srp, Rrt, Rri, Rrp⟩
  have hH : CHv s EL1 s.vm s.heap := CHv.start hEW (fun p hp => hcalls.1 p hp) hcw (hw _ (List.mem_of_getElem? (i := 3) rfl)) (hw _ (List.mem_of_getElem? (i := 2) rfl))
  have ct : Ct l s EL1 [] tables_1 x code maxLocals ret room_1 #[(.int i1), (.int i2), (.int i3), (.int i4)] s.heap (fun v h => v = some (.int 1)) := Ct.of_seg (a0 := #[(.int i1), (.int i2), (.int i3), (.int i4)]) (plainFor_of_name pn_com_example_kredential_kredential_ResourceEqualsPinLaw) G.2.1 (ef_law i1 i2 i3 i4) (sg0 G i1 i2 i3 i4 s.heap)
  obtain ⟨n, o, h1, h2, h3, v, L, rfl, ⟨N, -, rfl⟩, -, hq⟩ := ct p e ha hc hk s m _ below hf ((Spec.applies_iff_loose hf).mp happ).1 ⟨rfl, State.Warmed39.refl s, rfl, hH, (fun x q => nomatch q), ext_rfl _⟩ trivial
  refine ⟨n, _, h1, h2, h3, hpost _ _ _ _ _ _ ⟨Cond.after_iff.mpr rfl, Cond.after_iff.mpr (eq_i res_at (Term.int_eval (1)) rfl), trivial⟩ ?_⟩
  exact ⟨hq.1, hq.2.1, hq.2.2.1, (hq.2.2.2.sift fun y hy => Or.inr (N y hy)).mono (by decide) (by decide)⟩
theorem main_1_1 : Claimed_1_1 := comes_1 fun _ _ _ _ _ _ h hF => ⟨h.1, hF⟩
theorem main_1_2 : Claimed_1_2 := comes_1 fun _ _ _ _ _ _ h hF => ⟨h.2.1, hF⟩
end Jvm.Pilot.@@N@@
namespace Jvm.Pilot.@@N@@
open Jvm Jvm.ClassFile Sem Op Lib Jvm.Free Jvm.Stand Jvm.Pilot.@@N@@.Jvm.D
/-! MADE BY PROGRAM (witnessworld.py) out of the Statement's table words and the real class files: 24 classes; the members and pool entries that the words name. The judged class is class 1, her method 2. -/
namespace start1
open Jvm.ClassFile
def u (s : String) : CpInfo := .utf8 (stringToUtf16 s)
/-- a pool by its gaps: so many unusable entries, then the entry; so many at the end -/
def gap : Nat → List CpInfo → List CpInfo
  | 0, r => r
  | n + 1, r => .unusable :: gap n r
def poolList (es : List (Nat × CpInfo)) (last : Nat) : List CpInfo := es.foldr (fun e r => gap e.1 (e.2 :: r)) (gap last [])
def pool (es : List (Nat × CpInfo)) (last : Nat) : Array CpInfo := ⟨poolList es last⟩
def fileOf (pool : Array CpInfo) (this : Nat) (attrs : Array Attribute := #[]) (ms : Array MethodInfo := #[]) (fl : Nat := 33) (sup : Nat := 0) (ifs : Array Nat := #[]) (fds : Array FieldInfo := #[]) : ClassFile where
  minorVersion := 0
  majorVersion := 65
  constantPool := pool
  accessFlags := fl
  thisClass := this
  superClass := sup
  interfaces := ifs
  fields := fds
  methods := ms
  attributes := attrs
def plain (name : String) (sup : Option ClassId) : Class where
  name := name
  kind := .ordinary
  loader := none
  accessFlags := 33
  super := sup
  interfaces := #[]
  cf := none
  fields := #[]
  methods := #[]
  instanceTypes := #[]
  staticTypes := #[]
  resolved := #[]
  callSites := []
  init := .initialized
  statics := none
  mirror := none

def pool0 : Array CpInfo := pool [(5, u "<init>"), (0, u "()V"), (1, .class_ 10), (1, u "java/lang/Object")] 113

def k0c0 : Code := { maxStack := 0, maxLocals := 1, code := object_method_1_code, exceptionTable := #[], attributes := #[] }
def k0m0 : Method := { name := "<init>", desc := "()V", sig := { parameters := [], returnType := none }, accessFlags := 1, code := some k0c0 }
/-- java/lang/Object -/
def k0 : Class := { plain "java/lang/Object" none with
  accessFlags := 33
  interfaces := #[]
  cf := some (fileOf pool0 8 #[] #[{ accessFlags := 1, nameIndex := 5, descriptorIndex := 6, attributes := #[] }] 33 0 #[] #[])
  fields := #[]
  methods := #[k0m0]
  instanceTypes := #[]
  staticTypes := #[]
  resolved := Array.replicate 124 none
  statics := none }

def pool1 : Array CpInfo := pool [(2, .class_ 4), (1, u "java/lang/Object"), (0, u "<init>"), (0, u "()V"), (0, .integer 65535), (0, .methodref 9 10), (0, .class_ 11), (0, .nameAndType 12 13), (0, u "java/lang/String"), (0, u "length"), (0, u "()I"), (0, .methodref 9 15), (0, .nameAndType 16 17), (0, u "charAt"), (0, u "(I)C"), (0, .methodref 9 19), (0, .nameAndType 5 20), (0, u "([C)V"), (0, .string 22), (0, u "abcdefghijklmnopqrstuvwxyz0123456789-"), (0, .string 24), (0, u "ABCDEFGHIJKLMNOPQRSTUVWXYZabcdefghijklmnopqrstuvwxyz0123456789_-:"), (0, .string 26), (0, u "ABCDEFGHIJKLMNOPQRSTUVWXYZabcdefghijklmnopqrstuvwxyz0123456789_-:."), (0, .methodref 28 29), (0, .class_ 30), (0, .nameAndType 31 32), (0, u "com/example/kredential/kredential/ResourceEqualsPinLaw"), (0, u "field"), (0, u "(Ljava/lang/String;Ljava/lang/String;IZZ)Ljava/lang/String;"), (0, .class_ 34), (0, u "com/example/kredential/kredential/Resource"), (0, .methodref 33 36), (0, .nameAndType 5 37), (0, u "(Ljava/lang/String;Ljava/lang/String;Ljava/lang/String;)V"), (0, .methodref 33 39), (0, .nameAndType 40 41), (0, u "equals"), (0, u "(Ljava/lang/Object;)Z"), (3, u "law"), (0, u "(IIII)Z")] 2

def k1m0 : Method := { name := "<init>", desc := "()V", sig := { parameters := [], returnType := none }, accessFlags := 2, code := none }
def k1c1 : Code := { maxStack := 4, maxLocals := 11, code := method_2_code, exceptionTable := #[], attributes := #[] }
def k1m1 : Method := { name := "field", desc := "(Ljava/lang/String;Ljava/lang/String;IZZ)Ljava/lang/String;", sig := { parameters := [(.object "java/lang/String"), (.object "java/lang/String"), .int, .boolean, .boolean], returnType := some (.object "java/lang/String") }, accessFlags := 10, code := some k1c1 }
def k1c2 : Code := { maxStack := 5, maxLocals := 23, code := code, exceptionTable := #[], attributes := #[] }
def k1m2 : Method := { name := "law", desc := "(IIII)Z", sig := { parameters := [.int, .int, .int, .int], returnType := some .boolean }, accessFlags := 9, code := some k1c2 }
/-- com/example/kredential/kredential/ResourceEqualsPinLaw -/
def k1 : Class := { plain "com/example/kredential/kredential/ResourceEqualsPinLaw" (some 0) with
  accessFlags := 49
  interfaces := #[]
  cf := some (fileOf pool1 28 #[] #[{ accessFlags := 2, nameIndex := 5, descriptorIndex := 6, attributes := #[] }, { accessFlags := 10, nameIndex := 31, descriptorIndex := 32, attributes := #[] }, { accessFlags := 9, nameIndex := 45, descriptorIndex := 46, attributes := #[] }] 49 2 #[] #[])
  fields := #[]
  methods := #[k1m0, k1m1, k1m2]
  instanceTypes := #[]
  staticTypes := #[]
  resolved := Array.replicate 49 none
  statics := none }

def pool2 : Array CpInfo := pool [(1, .class_ 2), (0, u "java/io/Serializable"), (0, .class_ 4), (0, u "java/lang/Object")] 2

/-- java/io/Serializable -/
def k2 : Class := { plain "java/io/Serializable" (some 0) with
  accessFlags := 1537
  interfaces := #[]
  cf := some (fileOf pool2 1 #[] #[] 1537 3 #[] #[])
  fields := #[]
  methods := #[]
  instanceTypes := #[]
  staticTypes := #[]
  resolved := Array.replicate 7 none
  statics := none }

def pool3 : Array CpInfo := pool [(1, .class_ 2), (0, u "java/lang/Comparable"), (0, .class_ 4), (0, u "java/lang/Object")] 7

/-- java/lang/Comparable -/
def k3 : Class := { plain "java/lang/Comparable" (some 0) with
  accessFlags := 1537
  interfaces := #[]
  cf := some (fileOf pool3 1 #[] #[] 1537 3 #[] #[])
  fields := #[]
  methods := #[]
  instanceTypes := #[]
  staticTypes := #[]
  resolved := Array.replicate 12 none
  statics := none }

def pool4 : Array CpInfo := pool [(2, .class_ 4), (1, u "java/lang/CharSequence"), (42, .class_ 48), (0, u "java/lang/CharSequence$1CodePointIterator"), (10, .class_ 60), (0, u "java/lang/CharSequence$1CharIterator"), (5, .class_ 67), (0, u "java/lang/Object")] 63

/-- java/lang/CharSequence -/
def k4 : Class := { plain "java/lang/CharSequence" (some 0) with
  accessFlags := 1537
  interfaces := #[]
  cf := some (fileOf pool4 2 #[.nestMembers #[47, 59]] #[] 1537 66 #[] #[])
  fields := #[]
  methods := #[]
  instanceTypes := #[]
  staticTypes := #[]
  resolved := Array.replicate 131 none
  statics := none }

def pool5 : Array CpInfo := pool [(1, .class_ 2), (0, u "java/lang/constant/Constable"), (0, .class_ 4), (0, u "java/lang/Object")] 6

/-- java/lang/constant/Constable -/
def k5 : Class := { plain "java/lang/constant/Constable" (some 0) with
  accessFlags := 1537
  interfaces := #[]
  cf := some (fileOf pool5 1 #[] #[] 1537 3 #[] #[])
  fields := #[]
  methods := #[]
  instanceTypes := #[]
  staticTypes := #[]
  resolved := Array.replicate 11 none
  statics := none }

def pool6 : Array CpInfo := pool [(1, .class_ 2), (0, u "java/lang/constant/ConstantDesc"), (0, .class_ 4), (0, u "java/lang/Object")] 32

/-- java/lang/constant/ConstantDesc -/
def k6 : Class := { plain "java/lang/constant/ConstantDesc" (some 0) with
  accessFlags := 1537
  interfaces := #[]
  cf := some (fileOf pool6 1 #[] #[] 1537 3 #[] #[])
  fields := #[]
  methods := #[]
  instanceTypes := #[]
  staticTypes := #[]
  resolved := Array.replicate 37 none
  statics := none }

def pool7 : Array CpInfo := pool [(1, .methodref 2 3), (0, .class_ 4), (0, .nameAndType 5 6), (0, u "java/lang/Object"), (0, u "<init>"), (0, u "()V"), (2, .fieldref 10 11), (0, .class_ 12), (0, .nameAndType 13 14), (0, u "java/lang/String"), (0, u "value"), (0, u "[B"), (0, .fieldref 10 16), (0, .nameAndType 17 18), (0, u "coder"), (0, u "B"), (2, u "hash"), (0, u "I"), (2, u "hashIsZero"), (0, u "Z"), (0, .methodref 10 28), (0, .nameAndType 5 29), (0, u "([CIILjava/lang/Void;)V"), (8, .fieldref 10 39), (0, .nameAndType 40 26), (0, u "COMPACT_STRINGS"), (1, .class_ 44), (1, u "java/lang/StringUTF16"), (0, u "compress"), (1, .methodref 42 48), (0, .nameAndType 49 50), (0, u "coderFromArrayLen"), (0, u "([BI)B"), (56, .class_ 109), (1, u "java/lang/StringLatin1"), (32, u "()Z"), (34, .methodref 42 178), (0, .nameAndType 45 179), (0, u "([CII)[B"), (154, u "()I"), (0, .methodref 10 336), (0, .nameAndType 17 337), (0, u "()B"), (25, u "([BI)C"), (27, u "(II)V"), (35, u "(I)C"), (64, .methodref 10 493), (0, .nameAndType 494 142), (0, u "isLatin1"), (0, .methodref 107 496), (0, .nameAndType 497 363), (0, u "charAt"), (3, u "checkIndex"), (5, u "length"), (33, .methodref 107 542), (0, .nameAndType 543 544), (0, u "equals"), (0, u "([B[B)Z"), (28, u "(Ljava/lang/Object;)Z"), (1, .class_ 576), (0, u "java/lang/CharSequence"), (22, u "CASE_INSENSITIVE_ORDER"), (0, u "Ljava/util/Comparator;"), (91, u "isEmpty"), (317, u "([C)V"), (42, .fieldref 1054 1055), (0, .class_ 1056), (0, .nameAndType 1057 1058), (0, u "jdk/internal/util/Preconditions"), (0, u "SIOOBE_FORMATTER"), (0, u "Ljava/util/function/BiFunction;"), (0, .methodref 1054 1060), (0, .nameAndType 501 1061), (0, u "(IILjava/util/function/BiFunction;)I"), (39, u "serialPersistentFields"), (0, u "[Ljava/io/ObjectStreamField;"), (0, .class_ 1104), (0, u "java/lang/String$CaseInsensitiveComparator"), (1, .class_ 1107), (0, u "java/io/Serializable"), (0, .class_ 1109), (0, u "java/lang/Comparable"), (0, .class_ 1111), (0, u "java/lang/constant/Constable"), (0, .class_ 1113), (0, u "java/lang/constant/ConstantDesc"), (2, u "serialVersionUID"), (0, u "J"), (3, u "REPL"), (0, u "C"), (2, u "LATIN1"), (1, u "UTF16")] 323

def k7m0 : Method := { name := "<init>", desc := "()V", sig := { parameters := [], returnType := none }, accessFlags := 1, code := none }
def k7c1 : Code := { maxStack := 5, maxLocals := 2, code := jdk_42_method_3_code, exceptionTable := #[], attributes := #[] }
def k7m1 : Method := { name := "<init>", desc := "([C)V", sig := { parameters := [(.array .char)], returnType := none }, accessFlags := 1, code := some k7c1 }
def k7c2 : Code := { maxStack := 2, maxLocals := 1, code := jdk_42_method_54_code, exceptionTable := #[], attributes := #[] }
def k7m2 : Method := { name := "length", desc := "()I", sig := { parameters := [], returnType := some .int }, accessFlags := 1, code := some k7c2 }
def k7c3 : Code := { maxStack := 1, maxLocals := 1, code := jdk_42_method_55_code, exceptionTable := #[], attributes := #[] }
def k7m3 : Method := { name := "isEmpty", desc := "()Z", sig := { parameters := [], returnType := some .boolean }, accessFlags := 1, code := some k7c3 }
def k7c4 : Code := { maxStack := 2, maxLocals := 2, code := jdk_42_method_56_code, exceptionTable := #[], attributes := #[] }
def k7m4 : Method := { name := "charAt", desc := "(I)C", sig := { parameters := [.int], returnType := some .char }, accessFlags := 1, code := some k7c4 }
def k7c5 : Code := { maxStack := 2, maxLocals := 3, code := jdk_42_method_66_code, exceptionTable := #[], attributes := #[] }
def k7m5 : Method := { name := "equals", desc := "(Ljava/lang/Object;)Z", sig := { parameters := [(.object "java/lang/Object")], returnType := some .boolean }, accessFlags := 1, code := some k7c5 }
def k7c6 : Code := { maxStack := 4, maxLocals := 6, code := jdk_42_method_149_code, exceptionTable := #[], attributes := #[] }
def k7m6 : Method := { name := "<init>", desc := "([CIILjava/lang/Void;)V", sig := { parameters := [(.array .char), .int, .int, (.object "java/lang/Void")], returnType := none }, accessFlags := 2, code := some k7c6 }
def k7c7 : Code := { maxStack := 1, maxLocals := 1, code := jdk_42_method_152_code, exceptionTable := #[], attributes := #[] }
def k7m7 : Method := { name := "coder", desc := "()B", sig := { parameters := [], returnType := some .byte }, accessFlags := 0, code := some k7c7 }
def k7c8 : Code := { maxStack := 1, maxLocals := 1, code := jdk_42_method_154_code, exceptionTable := #[], attributes := #[] }
def k7m8 : Method := { name := "isLatin1", desc := "()Z", sig := { parameters := [], returnType := some .boolean }, accessFlags := 0, code := some k7c8 }
def k7c9 : Code := { maxStack := 3, maxLocals := 2, code := jdk_42_method_155_code, exceptionTable := #[], attributes := #[] }
def k7m9 : Method := { name := "checkIndex", desc := "(II)V", sig := { parameters := [.int, .int], returnType := none }, accessFlags := 8, code := some k7c9 }
/-- java/lang/String -/
def k7 : Class := { plain "java/lang/String" (some 0) with
  accessFlags := 49
  interfaces := #[2, 3, 4, 5, 6]
  cf := some (fileOf pool7 10 #[.nestMembers #[1103]] #[{ accessFlags := 1, nameIndex := 5, descriptorIndex := 6, attributes := #[] }, { accessFlags := 1, nameIndex := 5, descriptorIndex := 1010, attributes := #[] }, { accessFlags := 1, nameIndex := 507, descriptorIndex := 334, attributes := #[] }, { accessFlags := 1, nameIndex := 692, descriptorIndex := 142, attributes := #[] }, { accessFlags := 1, nameIndex := 497, descriptorIndex := 427, attributes := #[] }, { accessFlags := 1, nameIndex := 543, descriptorIndex := 573, attributes := #[] }, { accessFlags := 2, nameIndex := 5, descriptorIndex := 29, attributes := #[] }, { accessFlags := 0, nameIndex := 17, descriptorIndex := 337, attributes := #[] }, { accessFlags := 0, nameIndex := 494, descriptorIndex := 142, attributes := #[] }, { accessFlags := 8, nameIndex := 501, descriptorIndex := 391, attributes := #[] }] 49 2 #[1106, 1108, 575, 1110, 1112] #[{ accessFlags := 18, nameIndex := 13, descriptorIndex := 14, attributes := #[] }, { accessFlags := 18, nameIndex := 17, descriptorIndex := 18, attributes := #[] }, { accessFlags := 2, nameIndex := 21, descriptorIndex := 22, attributes := #[] }, { accessFlags := 2, nameIndex := 25, descriptorIndex := 26, attributes := #[] }, { accessFlags := 26, nameIndex := 1116, descriptorIndex := 1117, attributes := #[] }, { accessFlags := 24, nameIndex := 40, descriptorIndex := 26, attributes := #[] }, { accessFlags := 26, nameIndex := 1101, descriptorIndex := 1102, attributes := #[] }, { accessFlags := 26, nameIndex := 1121, descriptorIndex := 1122, attributes := #[] }, { accessFlags := 25, nameIndex := 599, descriptorIndex := 600, attributes := #[] }, { accessFlags := 24, nameIndex := 1125, descriptorIndex := 18, attributes := #[] }, { accessFlags := 24, nameIndex := 1127, descriptorIndex := 18, attributes := #[] }])
  fields := #[{ name := "value", type := (.array .byte), accessFlags := 18, slot := 0, constantValue := 0 }, { name := "coder", type := .byte, accessFlags := 18, slot := 1, constantValue := 0 }, { name := "hash", type := .int, accessFlags := 2, slot := 2, constantValue := 0 }, { name := "hashIsZero", type := .boolean, accessFlags := 2, slot := 3, constantValue := 0 }, { name := "serialVersionUID", type := .long, accessFlags := 26, slot := 0, constantValue := 0 }, { name := "COMPACT_STRINGS", type := .boolean, accessFlags := 24, slot := 1, constantValue := 0 }, { name := "serialPersistentFields", type := (.array (.object "java/io/ObjectStreamField")), accessFlags := 26, slot := 2, constantValue := 0 }, { name := "REPL", type := .char, accessFlags := 26, slot := 3, constantValue := 0 }, { name := "CASE_INSENSITIVE_ORDER", type := (.object "java/util/Comparator"), accessFlags := 25, slot := 4, constantValue := 0 }, { name := "LATIN1", type := .byte, accessFlags := 24, slot := 5, constantValue := 0 }, { name := "UTF16", type := .byte, accessFlags := 24, slot := 6, constantValue := 0 }]
  methods := #[k7m0, k7m1, k7m2, k7m3, k7m4, k7m5, k7m6, k7m7, k7m8, k7m9]
  instanceTypes := #[(.array .byte), .byte, .int, .boolean]
  staticTypes := #[.long, .boolean, (.array (.object "java/io/ObjectStreamField")), .char, (.object "java/util/Comparator"), .byte, .byte]
  resolved := Array.replicate 1451 none
  statics := some 0 }

def pool8 : Array CpInfo := pool [(1, .class_ 2), (0, u "java/lang/String"), (1, .class_ 6), (1, u "java/lang/Object"), (0, u "<init>"), (0, u "()V"), (0, .methodref 1 10), (0, .nameAndType 11 12), (0, u "checkIndex"), (0, u "(II)V"), (1, .class_ 16), (1, u "java/lang/StringLatin1"), (36, u "([BI)C"), (67, u "$assertionsDisabled"), (0, u "Z"), (98, .class_ 223), (1, u "java/lang/StringLatin1$LinesSpliterator"), (28, u "charAt"), (28, u "equals"), (0, u "([B[B)Z"), (107, .class_ 391), (0, u "java/lang/StringLatin1$CharsSpliterator")] 3

def k8m0 : Method := { name := "<init>", desc := "()V", sig := { parameters := [], returnType := none }, accessFlags := 0, code := none }
def k8c1 : Code := { maxStack := 2, maxLocals := 2, code := jdk_43_method_2_code, exceptionTable := #[], attributes := #[] }
def k8m1 : Method := { name := "charAt", desc := "([BI)C", sig := { parameters := [(.array .byte), .int], returnType := some .char }, accessFlags := 9, code := some k8c1 }
def k8c2 : Code := { maxStack := 3, maxLocals := 3, code := jdk_43_method_13_code, exceptionTable := #[], attributes := #[] }
def k8m2 : Method := { name := "equals", desc := "([B[B)Z", sig := { parameters := [(.array .byte), (.array .byte)], returnType := some .boolean }, accessFlags := 9, code := some k8c2 }
/-- java/lang/StringLatin1 -/
def k8 : Class := { plain "java/lang/StringLatin1" (some 0) with
  accessFlags := 48
  interfaces := #[]
  cf := some (fileOf pool8 14 #[.nestMembers #[390, 221]] #[{ accessFlags := 0, nameIndex := 7, descriptorIndex := 8, attributes := #[] }, { accessFlags := 9, nameIndex := 252, descriptorIndex := 53, attributes := #[] }, { accessFlags := 9, nameIndex := 281, descriptorIndex := 282, attributes := #[] }] 48 4 #[] #[{ accessFlags := 4120, nameIndex := 121, descriptorIndex := 122, attributes := #[] }])
  fields := #[{ name := "$assertionsDisabled", type := .boolean, accessFlags := 4120, slot := 0, constantValue := 0 }]
  methods := #[k8m0, k8m1, k8m2]
  instanceTypes := #[]
  staticTypes := #[.boolean]
  resolved := Array.replicate 395 none
  statics := none }

def pool9 : Array CpInfo := pool [(2, .class_ 4), (1, u "java/lang/Object"), (0, u "<init>"), (0, u "()V"), (17, .class_ 26), (1, u "jdk/internal/util/Preconditions"), (6, u "checkIndex"), (21, .class_ 56), (0, u "jdk/internal/util/Preconditions$4"), (57, .class_ 115), (0, u "jdk/internal/util/Preconditions$1"), (7, u "SIOOBE_FORMATTER"), (0, u "Ljava/util/function/BiFunction;"), (0, .class_ 126), (0, u "jdk/internal/util/Preconditions$2"), (3, u "AIOOBE_FORMATTER"), (0, .class_ 132), (0, u "jdk/internal/util/Preconditions$3"), (3, u "IOOBE_FORMATTER"), (41, u "(IILjava/util/function/BiFunction;)I")] 15

def k9m0 : Method := { name := "<init>", desc := "()V", sig := { parameters := [], returnType := none }, accessFlags := 1, code := none }
def k9c1 : Code := { maxStack := 3, maxLocals := 3, code := jdk_41_method_11_code, exceptionTable := #[], attributes := #[] }
def k9m1 : Method := { name := "checkIndex", desc := "(IILjava/util/function/BiFunction;)I", sig := { parameters := [.int, .int, (.object "java/util/function/BiFunction")], returnType := some .int }, accessFlags := 9, code := some k9c1 }
/-- jdk/internal/util/Preconditions -/
def k9 : Class := { plain "jdk/internal/util/Preconditions" (some 0) with
  accessFlags := 33
  interfaces := #[]
  cf := some (fileOf pool9 24 #[.nestMembers #[55, 131, 125, 114]] #[{ accessFlags := 1, nameIndex := 5, descriptorIndex := 6, attributes := #[] }, { accessFlags := 9, nameIndex := 33, descriptorIndex := 178, attributes := #[] }] 33 2 #[] #[{ accessFlags := 25, nameIndex := 123, descriptorIndex := 124, attributes := #[] }, { accessFlags := 25, nameIndex := 130, descriptorIndex := 124, attributes := #[] }, { accessFlags := 25, nameIndex := 136, descriptorIndex := 124, attributes := #[] }])
  fields := #[{ name := "SIOOBE_FORMATTER", type := (.object "java/util/function/BiFunction"), accessFlags := 25, slot := 0, constantValue := 0 }, { name := "AIOOBE_FORMATTER", type := (.object "java/util/function/BiFunction"), accessFlags := 25, slot := 1, constantValue := 0 }, { name := "IOOBE_FORMATTER", type := (.object "java/util/function/BiFunction"), accessFlags := 25, slot := 2, constantValue := 0 }]
  methods := #[k9m0, k9m1]
  instanceTypes := #[]
  staticTypes := #[(.object "java/util/function/BiFunction"), (.object "java/util/function/BiFunction"), (.object "java/util/function/BiFunction")]
  resolved := Array.replicate 194 none
  statics := some 1 }

def pool10 : Array CpInfo := pool [(6, .class_ 8), (1, u "java/lang/Object"), (0, u "<init>"), (0, u "()V"), (1, .class_ 14), (1, u "java/lang/StringUTF16"), (31, u "$assertionsDisabled"), (0, u "Z"), (13, u "HI_BYTE_SHIFT"), (0, u "I"), (2, u "LO_BYTE_SHIFT"), (49, .methodref 12 116), (0, .nameAndType 117 118), (0, u "compress"), (0, u "([CI[BII)I"), (3, u "([CII)[B"), (138, u "coderFromArrayLen"), (0, u "([BI)B"), (106, .class_ 371), (1, u "java/lang/StringUTF16$LinesSpliterator"), (58, u "MAX_LENGTH"), (196, .class_ 628), (0, u "java/lang/StringUTF16$CodePointsSpliterator"), (0, .class_ 630), (0, u "java/lang/StringUTF16$CharsSpliterator")] 4

def k10m0 : Method := { name := "<init>", desc := "()V", sig := { parameters := [], returnType := none }, accessFlags := 0, code := none }
def k10c1 : Code := { maxStack := 2, maxLocals := 2, code := jdk_52_method_15_code, exceptionTable := #[], attributes := #[] }
def k10m1 : Method := { name := "coderFromArrayLen", desc := "([BI)B", sig := { parameters := [(.array .byte), .int], returnType := some .byte }, accessFlags := 8, code := some k10c1 }
def k10c2 : Code := { maxStack := 5, maxLocals := 6, code := jdk_52_method_16_code, exceptionTable := #[], attributes := #[] }
def k10m2 : Method := { name := "compress", desc := "([CII)[B", sig := { parameters := [(.array .char), .int, .int], returnType := some (.array .byte) }, accessFlags := 9, code := some k10c2 }
def k10c3 : Code := { maxStack := 3, maxLocals := 7, code := jdk_52_method_21_code, exceptionTable := #[], attributes := #[] }
def k10m3 : Method := { name := "compress", desc := "([CI[BII)I", sig := { parameters := [(.array .char), .int, (.array .byte), .int, .int], returnType := some .int }, accessFlags := 9, code := some k10c3 }
/-- java/lang/StringUTF16 -/
def k10 : Class := { plain "java/lang/StringUTF16" (some 0) with
  accessFlags := 48
  interfaces := #[]
  cf := some (fileOf pool10 12 #[.nestMembers #[627, 629, 369]] #[{ accessFlags := 0, nameIndex := 9, descriptorIndex := 10, attributes := #[] }, { accessFlags := 8, nameIndex := 261, descriptorIndex := 262, attributes := #[] }, { accessFlags := 9, nameIndex := 117, descriptorIndex := 122, attributes := #[] }, { accessFlags := 9, nameIndex := 117, descriptorIndex := 118, attributes := #[] }] 48 6 #[] #[{ accessFlags := 26, nameIndex := 61, descriptorIndex := 62, attributes := #[] }, { accessFlags := 26, nameIndex := 65, descriptorIndex := 62, attributes := #[] }, { accessFlags := 24, nameIndex := 430, descriptorIndex := 62, attributes := #[] }, { accessFlags := 4120, nameIndex := 46, descriptorIndex := 47, attributes := #[] }])
  fields := #[{ name := "HI_BYTE_SHIFT", type := .int, accessFlags := 26, slot := 0, constantValue := 0 }, { name := "LO_BYTE_SHIFT", type := .int, accessFlags := 26, slot := 1, constantValue := 0 }, { name := "MAX_LENGTH", type := .int, accessFlags := 24, slot := 2, constantValue := 0 }, { name := "$assertionsDisabled", type := .boolean, accessFlags := 4120, slot := 3, constantValue := 0 }]
  methods := #[k10m0, k10m1, k10m2, k10m3]
  instanceTypes := #[]
  staticTypes := #[.int, .int, .int, .boolean]
  resolved := Array.replicate 635 none
  statics := none }

def pool11 : Array CpInfo := pool [(1, .methodref 2 3), (0, .class_ 4), (0, .nameAndType 5 6), (0, u "java/lang/Object"), (0, u "<init>"), (0, u "()V"), (0, .methodref 8 9), (0, .class_ 10), (0, .nameAndType 11 12), (0, u "com/example/kredential/kredential/Resource"), (0, u "isValidType"), (0, u "(Ljava/lang/String;)Z"), (4, u "TYPE_RULE"), (0, u "Ljava/lang/String;"), (3, .methodref 8 23), (0, .nameAndType 24 12), (0, u "isValidId"), (2, u "ID_RULE"), (0, .methodref 29 23), (0, .class_ 30), (0, u "com/example/kredential/kredential/Participant"), (1, .fieldref 8 33), (0, .nameAndType 34 18), (0, u "type"), (0, .fieldref 8 36), (0, .nameAndType 37 18), (0, u "id"), (0, .fieldref 8 39), (0, .nameAndType 40 18), (0, u "owner"), (0, .fieldref 8 42), (0, .nameAndType 43 44), (0, u "TYPE"), (0, u "Lcom/example/kredential/kredential/NameRule;"), (0, .methodref 46 47), (0, .class_ 48), (0, .nameAndType 49 12), (0, u "com/example/kredential/kredential/NameRule"), (0, u "accepts"), (0, .fieldref 8 51), (0, .nameAndType 52 44), (0, u "ID"), (0, .methodref 54 55), (0, .class_ 56), (0, .nameAndType 57 58), (0, u "java/lang/String"), (0, u "equals"), (0, u "(Ljava/lang/Object;)Z"), (29, u "MAX_TYPE_LENGTH"), (0, u "I"), (2, u "MAX_ID_LENGTH"), (1, u "(Ljava/lang/String;Ljava/lang/String;Ljava/lang/String;)V")] 24

def k11c0 : Code := { maxStack := 3, maxLocals := 4, code := prog_25_method_1_code, exceptionTable := #[], attributes := #[] }
def k11m0 : Method := { name := "<init>", desc := "(Ljava/lang/String;Ljava/lang/String;Ljava/lang/String;)V", sig := { parameters := [(.object "java/lang/String"), (.object "java/lang/String"), (.object "java/lang/String")], returnType := none }, accessFlags := 1, code := some k11c0 }
def k11c1 : Code := { maxStack := 2, maxLocals := 1, code := prog_25_method_2_code, exceptionTable := #[], attributes := #[] }
def k11m1 : Method := { name := "isValidType", desc := "(Ljava/lang/String;)Z", sig := { parameters := [(.object "java/lang/String")], returnType := some .boolean }, accessFlags := 9, code := some k11c1 }
def k11c2 : Code := { maxStack := 2, maxLocals := 1, code := prog_25_method_3_code, exceptionTable := #[], attributes := #[] }
def k11m2 : Method := { name := "isValidId", desc := "(Ljava/lang/String;)Z", sig := { parameters := [(.object "java/lang/String")], returnType := some .boolean }, accessFlags := 9, code := some k11c2 }
def k11c3 : Code := { maxStack := 2, maxLocals := 3, code := prog_25_method_7_code, exceptionTable := #[], attributes := #[] }
def k11m3 : Method := { name := "equals", desc := "(Ljava/lang/Object;)Z", sig := { parameters := [(.object "java/lang/Object")], returnType := some .boolean }, accessFlags := 1, code := some k11c3 }
/-- com/example/kredential/kredential/Resource -/
def k11 : Class := { plain "com/example/kredential/kredential/Resource" (some 0) with
  accessFlags := 49
  interfaces := #[]
  cf := some (fileOf pool11 8 #[] #[{ accessFlags := 1, nameIndex := 5, descriptorIndex := 94, attributes := #[] }, { accessFlags := 9, nameIndex := 11, descriptorIndex := 12, attributes := #[] }, { accessFlags := 9, nameIndex := 24, descriptorIndex := 12, attributes := #[] }, { accessFlags := 1, nameIndex := 57, descriptorIndex := 58, attributes := #[] }] 49 2 #[] #[{ accessFlags := 25, nameIndex := 88, descriptorIndex := 89, attributes := #[] }, { accessFlags := 25, nameIndex := 92, descriptorIndex := 89, attributes := #[] }, { accessFlags := 26, nameIndex := 43, descriptorIndex := 44, attributes := #[] }, { accessFlags := 26, nameIndex := 52, descriptorIndex := 44, attributes := #[] }, { accessFlags := 25, nameIndex := 17, descriptorIndex := 18, attributes := #[] }, { accessFlags := 25, nameIndex := 27, descriptorIndex := 18, attributes := #[] }, { accessFlags := 18, nameIndex := 34, descriptorIndex := 18, attributes := #[] }, { accessFlags := 18, nameIndex := 37, descriptorIndex := 18, attributes := #[] }, { accessFlags := 18, nameIndex := 40, descriptorIndex := 18, attributes := #[] }])
  fields := #[{ name := "MAX_TYPE_LENGTH", type := .int, accessFlags := 25, slot := 0, constantValue := 0 }, { name := "MAX_ID_LENGTH", type := .int, accessFlags := 25, slot := 1, constantValue := 0 }, { name := "TYPE", type := (.object "com/example/kredential/kredential/NameRule"), accessFlags := 26, slot := 2, constantValue := 0 }, { name := "ID", type := (.object "com/example/kredential/kredential/NameRule"), accessFlags := 26, slot := 3, constantValue := 0 }, { name := "TYPE_RULE", type := (.object "java/lang/String"), accessFlags := 25, slot := 4, constantValue := 0 }, { name := "ID_RULE", type := (.object "java/lang/String"), accessFlags := 25, slot := 5, constantValue := 0 }, { name := "type", type := (.object "java/lang/String"), accessFlags := 18, slot := 0, constantValue := 0 }, { name := "id", type := (.object "java/lang/String"), accessFlags := 18, slot := 1, constantValue := 0 }, { name := "owner", type := (.object "java/lang/String"), accessFlags := 18, slot := 2, constantValue := 0 }]
  methods := #[k11m0, k11m1, k11m2, k11m3]
  instanceTypes := #[(.object "java/lang/String"), (.object "java/lang/String"), (.object "java/lang/String")]
  staticTypes := #[.int, .int, (.object "com/example/kredential/kredential/NameRule"), (.object "com/example/kredential/kredential/NameRule"), (.object "java/lang/String"), (.object "java/lang/String")]
  resolved := Array.replicate 119 none
  statics := some 2 }

def pool12 : Array CpInfo := pool [(2, .class_ 4), (1, u "com/example/kredential/kredential/NameRule"), (3, .class_ 10), (1, u "java/lang/Object"), (1, .fieldref 2 13), (0, .nameAndType 14 15), (0, u "allowed"), (0, u "[Z"), (11, .class_ 29), (1, u "java/lang/String"), (11, u "()Z"), (0, .fieldref 2 43), (0, .nameAndType 44 45), (0, u "maxLength"), (0, u "I"), (0, .fieldref 2 47), (0, .nameAndType 48 49), (0, u "refusesDotSegments"), (0, u "Z"), (2, u "admitsPercentEncoded"), (7, u "description"), (0, u "Ljava/lang/String;"), (4, .methodref 27 67), (0, .nameAndType 68 41), (0, u "isEmpty"), (0, .methodref 27 70), (0, .nameAndType 71 72), (0, u "length"), (0, u "()I"), (0, .string 74), (0, u "."), (0, .methodref 27 76), (0, .nameAndType 77 78), (0, u "equals"), (0, u "(Ljava/lang/Object;)Z"), (0, .string 80), (0, u ".."), (0, .methodref 27 82), (0, .nameAndType 83 84), (0, u "charAt"), (0, u "(I)C"), (4, u "ID_CHARACTERS"), (1, u "ID_CHARACTERS_IN_WORDS"), (7, u "accepts"), (0, u "(Ljava/lang/String;)Z")] 24

def k12c0 : Code := { maxStack := 3, maxLocals := 4, code := prog_15_method_5_code, exceptionTable := #[], attributes := #[] }
def k12m0 : Method := { name := "accepts", desc := "(Ljava/lang/String;)Z", sig := { parameters := [(.object "java/lang/String")], returnType := some .boolean }, accessFlags := 0, code := some k12c0 }
/-- com/example/kredential/kredential/NameRule -/
def k12 : Class := { plain "com/example/kredential/kredential/NameRule" (some 0) with
  accessFlags := 48
  interfaces := #[]
  cf := some (fileOf pool12 2 #[] #[{ accessFlags := 0, nameIndex := 99, descriptorIndex := 100, attributes := #[] }] 48 8 #[] #[{ accessFlags := 26, nameIndex := 89, descriptorIndex := 61, attributes := #[] }, { accessFlags := 26, nameIndex := 91, descriptorIndex := 61, attributes := #[] }, { accessFlags := 18, nameIndex := 14, descriptorIndex := 15, attributes := #[] }, { accessFlags := 18, nameIndex := 44, descriptorIndex := 45, attributes := #[] }, { accessFlags := 18, nameIndex := 48, descriptorIndex := 49, attributes := #[] }, { accessFlags := 18, nameIndex := 52, descriptorIndex := 49, attributes := #[] }, { accessFlags := 18, nameIndex := 60, descriptorIndex := 61, attributes := #[] }])
  fields := #[{ name := "ID_CHARACTERS", type := (.object "java/lang/String"), accessFlags := 26, slot := 0, constantValue := 0 }, { name := "ID_CHARACTERS_IN_WORDS", type := (.object "java/lang/String"), accessFlags := 26, slot := 1, constantValue := 0 }, { name := "allowed", type := (.array .boolean), accessFlags := 18, slot := 0, constantValue := 0 }, { name := "maxLength", type := .int, accessFlags := 18, slot := 1, constantValue := 0 }, { name := "refusesDotSegments", type := .boolean, accessFlags := 18, slot := 2, constantValue := 0 }, { name := "admitsPercentEncoded", type := .boolean, accessFlags := 18, slot := 3, constantValue := 0 }, { name := "description", type := (.object "java/lang/String"), accessFlags := 18, slot := 4, constantValue := 0 }]
  methods := #[k12m0]
  instanceTypes := #[(.array .boolean), .int, .boolean, .boolean, (.object "java/lang/String")]
  staticTypes := #[(.object "java/lang/String"), (.object "java/lang/String")]
  resolved := Array.replicate 125 none
  statics := none }

def pool13 : Array CpInfo := pool [(6, u "Lcom/example/kredential/kredential/Rights;"), (1, .class_ 10), (1, u "com/example/kredential/kredential/Participant"), (3, .class_ 16), (1, u "java/lang/Object"), (3, u "isValidId"), (0, u "(Ljava/lang/String;)Z"), (4, u "ID_RULE"), (0, u "Ljava/lang/String;"), (11, u "id"), (8, u "roles"), (0, u "Ljava/util/SortedSet;"), (1, u "rights"), (8, .fieldref 8 61), (0, .nameAndType 62 63), (0, u "ID"), (0, u "Lcom/example/kredential/kredential/NameRule;"), (0, .methodref 65 66), (0, .class_ 67), (0, .nameAndType 68 21), (0, u "com/example/kredential/kredential/NameRule"), (0, u "accepts"), (20, u "MAX_ID_LENGTH"), (0, u "I")] 39

def k13c0 : Code := { maxStack := 2, maxLocals := 1, code := prog_16_method_3_code, exceptionTable := #[], attributes := #[] }
def k13m0 : Method := { name := "isValidId", desc := "(Ljava/lang/String;)Z", sig := { parameters := [(.object "java/lang/String")], returnType := some .boolean }, accessFlags := 9, code := some k13c0 }
/-- com/example/kredential/kredential/Participant -/
def k13 : Class := { plain "com/example/kredential/kredential/Participant" (some 0) with
  accessFlags := 49
  interfaces := #[]
  cf := some (fileOf pool13 8 #[] #[{ accessFlags := 9, nameIndex := 20, descriptorIndex := 21, attributes := #[] }] 49 14 #[] #[{ accessFlags := 25, nameIndex := 89, descriptorIndex := 90, attributes := #[] }, { accessFlags := 26, nameIndex := 62, descriptorIndex := 63, attributes := #[] }, { accessFlags := 25, nameIndex := 26, descriptorIndex := 27, attributes := #[] }, { accessFlags := 18, nameIndex := 39, descriptorIndex := 27, attributes := #[] }, { accessFlags := 18, nameIndex := 48, descriptorIndex := 49, attributes := #[] }, { accessFlags := 18, nameIndex := 51, descriptorIndex := 6, attributes := #[] }])
  fields := #[{ name := "MAX_ID_LENGTH", type := .int, accessFlags := 25, slot := 0, constantValue := 0 }, { name := "ID", type := (.object "com/example/kredential/kredential/NameRule"), accessFlags := 26, slot := 1, constantValue := 0 }, { name := "ID_RULE", type := (.object "java/lang/String"), accessFlags := 25, slot := 2, constantValue := 0 }, { name := "id", type := (.object "java/lang/String"), accessFlags := 18, slot := 0, constantValue := 0 }, { name := "roles", type := (.object "java/util/SortedSet"), accessFlags := 18, slot := 1, constantValue := 0 }, { name := "rights", type := (.object "com/example/kredential/kredential/Rights"), accessFlags := 18, slot := 2, constantValue := 0 }]
  methods := #[k13m0]
  instanceTypes := #[(.object "java/lang/String"), (.object "java/util/SortedSet"), (.object "com/example/kredential/kredential/Rights")]
  staticTypes := #[.int, (.object "com/example/kredential/kredential/NameRule"), (.object "java/lang/String")]
  resolved := Array.replicate 130 none
  statics := some 3 }

def pool14 : Array CpInfo := pool [(9, u "<init>"), (6, .class_ 18), (1, u "java/lang/Object"), (0, u "()V"), (1, .class_ 23), (1, u "jdk/internal/util/ArraysSupport"), (0, u "LOG2_ARRAY_LONG_INDEX_SCALE"), (0, u "I"), (2, u "U"), (0, u "Ljdk/internal/misc/Unsafe;"), (8, u "BIG_ENDIAN"), (0, u "Z"), (8, u "LOG2_BYTE_BIT_SIZE"), (4, u "LOG2_ARRAY_INT_INDEX_SCALE"), (54, u "JLA"), (0, u "Ljdk/internal/access/JavaLangAccess;"), (11, u "LOG2_ARRAY_BOOLEAN_INDEX_SCALE"), (9, u "LOG2_ARRAY_BYTE_INDEX_SCALE"), (5, u "LOG2_ARRAY_CHAR_INDEX_SCALE"), (5, u "LOG2_ARRAY_SHORT_INDEX_SCALE"), (18, u "LOG2_ARRAY_FLOAT_INDEX_SCALE"), (24, u "LOG2_ARRAY_DOUBLE_INDEX_SCALE"), (89, u "T_BOOLEAN"), (2, u "T_CHAR"), (1, u "T_FLOAT"), (1, u "T_DOUBLE"), (1, u "T_BYTE"), (1, u "T_SHORT"), (1, u "T_INT"), (1, u "T_LONG"), (1, u "SOFT_MAX_ARRAY_LENGTH")] 83

def k14m0 : Method := { name := "<init>", desc := "()V", sig := { parameters := [], returnType := none }, accessFlags := 2, code := none }
/-- jdk/internal/util/ArraysSupport -/
def k14 : Class := { plain "jdk/internal/util/ArraysSupport" (some 0) with
  accessFlags := 33
  interfaces := #[]
  cf := some (fileOf pool14 21 #[] #[{ accessFlags := 2, nameIndex := 9, descriptorIndex := 19, attributes := #[] }] 33 16 #[] #[{ accessFlags := 24, nameIndex := 28, descriptorIndex := 29, attributes := #[] }, { accessFlags := 26, nameIndex := 38, descriptorIndex := 39, attributes := #[] }, { accessFlags := 25, nameIndex := 121, descriptorIndex := 25, attributes := #[] }, { accessFlags := 25, nameIndex := 131, descriptorIndex := 25, attributes := #[] }, { accessFlags := 25, nameIndex := 137, descriptorIndex := 25, attributes := #[] }, { accessFlags := 25, nameIndex := 143, descriptorIndex := 25, attributes := #[] }, { accessFlags := 25, nameIndex := 53, descriptorIndex := 25, attributes := #[] }, { accessFlags := 25, nameIndex := 24, descriptorIndex := 25, attributes := #[] }, { accessFlags := 25, nameIndex := 162, descriptorIndex := 25, attributes := #[] }, { accessFlags := 25, nameIndex := 187, descriptorIndex := 25, attributes := #[] }, { accessFlags := 26, nameIndex := 48, descriptorIndex := 25, attributes := #[] }, { accessFlags := 25, nameIndex := 277, descriptorIndex := 25, attributes := #[] }, { accessFlags := 25, nameIndex := 280, descriptorIndex := 25, attributes := #[] }, { accessFlags := 25, nameIndex := 282, descriptorIndex := 25, attributes := #[] }, { accessFlags := 25, nameIndex := 284, descriptorIndex := 25, attributes := #[] }, { accessFlags := 25, nameIndex := 286, descriptorIndex := 25, attributes := #[] }, { accessFlags := 25, nameIndex := 288, descriptorIndex := 25, attributes := #[] }, { accessFlags := 25, nameIndex := 290, descriptorIndex := 25, attributes := #[] }, { accessFlags := 25, nameIndex := 292, descriptorIndex := 25, attributes := #[] }, { accessFlags := 26, nameIndex := 108, descriptorIndex := 109, attributes := #[] }, { accessFlags := 25, nameIndex := 294, descriptorIndex := 25, attributes := #[] }])
  fields := #[{ name := "U", type := (.object "jdk/internal/misc/Unsafe"), accessFlags := 24, slot := 0, constantValue := 0 }, { name := "BIG_ENDIAN", type := .boolean, accessFlags := 26, slot := 1, constantValue := 0 }, { name := "LOG2_ARRAY_BOOLEAN_INDEX_SCALE", type := .int, accessFlags := 25, slot := 2, constantValue := 0 }, { name := "LOG2_ARRAY_BYTE_INDEX_SCALE", type := .int, accessFlags := 25, slot := 3, constantValue := 0 }, { name := "LOG2_ARRAY_CHAR_INDEX_SCALE", type := .int, accessFlags := 25, slot := 4, constantValue := 0 }, { name := "LOG2_ARRAY_SHORT_INDEX_SCALE", type := .int, accessFlags := 25, slot := 5, constantValue := 0 }, { name := "LOG2_ARRAY_INT_INDEX_SCALE", type := .int, accessFlags := 25, slot := 6, constantValue := 0 }, { name := "LOG2_ARRAY_LONG_INDEX_SCALE", type := .int, accessFlags := 25, slot := 7, constantValue := 0 }, { name := "LOG2_ARRAY_FLOAT_INDEX_SCALE", type := .int, accessFlags := 25, slot := 8, constantValue := 0 }, { name := "LOG2_ARRAY_DOUBLE_INDEX_SCALE", type := .int, accessFlags := 25, slot := 9, constantValue := 0 }, { name := "LOG2_BYTE_BIT_SIZE", type := .int, accessFlags := 26, slot := 10, constantValue := 0 }, { name := "T_BOOLEAN", type := .int, accessFlags := 25, slot := 11, constantValue := 0 }, { name := "T_CHAR", type := .int, accessFlags := 25, slot := 12, constantValue := 0 }, { name := "T_FLOAT", type := .int, accessFlags := 25, slot := 13, constantValue := 0 }, { name := "T_DOUBLE", type := .int, accessFlags := 25, slot := 14, constantValue := 0 }, { name := "T_BYTE", type := .int, accessFlags := 25, slot := 15, constantValue := 0 }, { name := "T_SHORT", type := .int, accessFlags := 25, slot := 16, constantValue := 0 }, { name := "T_INT", type := .int, accessFlags := 25, slot := 17, constantValue := 0 }, { name := "T_LONG", type := .int, accessFlags := 25, slot := 18, constantValue := 0 }, { name := "JLA", type := (.object "jdk/internal/access/JavaLangAccess"), accessFlags := 26, slot := 19, constantValue := 0 }, { name := "SOFT_MAX_ARRAY_LENGTH", type := .int, accessFlags := 25, slot := 20, constantValue := 0 }]
  methods := #[k14m0]
  instanceTypes := #[]
  staticTypes := #[(.object "jdk/internal/misc/Unsafe"), .boolean, .int, .int, .int, .int, .int, .int, .int, .int, .int, .int, .int, .int, .int, .int, .int, .int, .int, (.object "jdk/internal/access/JavaLangAccess"), .int]
  resolved := Array.replicate 378 none
  statics := none }

def pool15 : Array CpInfo := pool [(1, u "java/lang/Cloneable"), (0, .class_ 1), (0, u "java/lang/Object"), (0, .class_ 3)] 3

/-- java/lang/Cloneable -/
def k15 : Class := { plain "java/lang/Cloneable" (some 0) with
  accessFlags := 1537
  interfaces := #[]
  cf := some (fileOf pool15 2 #[] #[] 1537 4 #[] #[])
  fields := #[]
  methods := #[]
  instanceTypes := #[]
  staticTypes := #[]
  resolved := Array.replicate 8 none
  statics := none }

/-- the primitive boolean -/
def k16 : Class := { plain "boolean" none with kind := .primitive 'Z', accessFlags := 0x411 }
/-- [Z -/
def k17 : Class := { plain "[Z" (some 0) with kind := .array 16 .boolean, interfaces := #[15, 2], accessFlags := 1041 }

/-- the primitive byte -/
def k18 : Class := { plain "byte" none with kind := .primitive 'B', accessFlags := 0x411 }
/-- [B -/
def k19 : Class := { plain "[B" (some 0) with kind := .array 18 .byte, interfaces := #[15, 2], accessFlags := 1041 }

/-- the primitive char -/
def k20 : Class := { plain "char" none with kind := .primitive 'C', accessFlags := 0x411 }
/-- [C -/
def k21 : Class := { plain "[C" (some 0) with kind := .array 20 .char, interfaces := #[15, 2], accessFlags := 1041 }

/-- the primitive int -/
def k22 : Class := { plain "int" none with kind := .primitive 'I', accessFlags := 0x411 }
/-- [I -/
def k23 : Class := { plain "[I" (some 0) with kind := .array 22 .int, interfaces := #[15, 2], accessFlags := 1041 }

def heap : Heap := #[{ cls := 7, slots := #[.long 0, .int 1, .null, .int 0, .null, .int 0, .int 0], vm := .statics 7 },
  { cls := 9, slots := #[.null, .null, .null], vm := .statics 9 },
  { cls := 11, slots := #[.int 0, .int 0, .ref 4, .ref 5, .null, .null], vm := .statics 11 },
  { cls := 13, slots := #[.int 0, .ref 6, .null], vm := .statics 13 },
  { cls := 12, slots := #[.ref 7, .int 64, .int 0, .int 0, .null], vm := .none },
  { cls := 12, slots := #[.ref 8, .int 128, .int 1, .int 0, .null], vm := .none },
  { cls := 12, slots := #[.ref 8, .int 128, .int 1, .int 0, .null], vm := .none },
  { cls := 17, slots := #[.int 0, .int 0, .int 0, .int 0, .int 0, .int 0, .int 0, .int 0, .int 0, .int 0, .int 0, .int 0, .int 0, .int 0, .int 0, .int 0, .int 0, .int 0, .int 0, .int 0, .int 0, .int 0, .int 0, .int 0, .int 0, .int 0, .int 0, .int 0, .int 0, .int 0, .int 0, .int 0, .int 0, .int 0, .int 0, .int 0, .int 0, .int 0, .int 0, .int 0, .int 0, .int 0, .int 0, .int 0, .int 0, .int 1, .int 0, .int 0, .int 1, .int 1, .int 1, .int 1, .int 1, .int 1, .int 1, .int 1, .int 1, .int 1, .int 0, .int 0, .int 0, .int 0, .int 0, .int 0, .int 0, .int 0, .int 0, .int 0, .int 0, .int 0, .int 0, .int 0, .int 0, .int 0, .int 0, .int 0, .int 0, .int 0, .int 0, .int 0, .int 0, .int 0, .int 0, .int 0, .int 0, .int 0, .int 0, .int 0, .int 0, .int 0, .int 0, .int 0, .int 0, .int 0, .int 0, .int 0, .int 0, .int 1, .int 1, .int 1, .int 1, .int 1, .int 1, .int 1, .int 1, .int 1, .int 1, .int 1, .int 1, .int 1, .int 1, .int 1, .int 1, .int 1, .int 1, .int 1, .int 1, .int 1, .int 1, .int 1, .int 1, .int 1, .int 1, .int 0, .int 0, .int 0, .int 0, .int 0], vm := .none },
  { cls := 17, slots := #[.int 0, .int 0, .int 0, .int 0, .int 0, .int 0, .int 0, .int 0, .int 0, .int 0, .int 0, .int 0, .int 0, .int 0, .int 0, .int 0, .int 0, .int 0, .int 0, .int 0, .int 0, .int 0, .int 0, .int 0, .int 0, .int 0, .int 0, .int 0, .int 0, .int 0, .int 0, .int 0, .int 0, .int 0, .int 0, .int 0, .int 0, .int 0, .int 0, .int 0, .int 0, .int 0, .int 0, .int 0, .int 0, .int 1, .int 1, .int 0, .int 1, .int 1, .int 1, .int 1, .int 1, .int 1, .int 1, .int 1, .int 1, .int 1, .int 1, .int 0, .int 0, .int 0, .int 0, .int 0, .int 0, .int 1, .int 1, .int 1, .int 1, .int 1, .int 1, .int 1, .int 1, .int 1, .int 1, .int 1, .int 1, .int 1, .int 1, .int 1, .int 1, .int 1, .int 1, .int 1, .int 1, .int 1, .int 1, .int 1, .int 1, .int 1, .int 1, .int 0, .int 0, .int 0, .int 0, .int 1, .int 0, .int 1, .int 1, .int 1, .int 1, .int 1, .int 1, .int 1, .int 1, .int 1, .int 1, .int 1, .int 1, .int 1, .int 1, .int 1, .int 1, .int 1, .int 1, .int 1, .int 1, .int 1, .int 1, .int 1, .int 1, .int 1, .int 1, .int 0, .int 0, .int 0, .int 0, .int 0], vm := .none }]
def classes : Array Class := #[k0, k1, k2, k3, k4, k5, k6, k7, k8, k9, k10, k11, k12, k13, k14, k15, k16, k17, k18, k19, k20, k21, k22, k23]
def interned : List (Array UInt16 × Addr) := []
def slotsUsed : Nat := 290
def theMethod : MethodId := ⟨1, 2⟩
def args0 : Array Value := #[.int 5, .int 7, .int 9, .int 3]
def aboutOver (below : List Frame) : State where
  vm := { classes := classes, interned := interned.toArray }
  heap := heap
  slotsUsed := slotsUsed
  threads := #[{ frames := .invoking theMethod args0 :: below }]
def below0 : List Frame := [.native { method := ⟨0, 0⟩, args := #[] }]
def about1 : State := aboutOver below0
def p0 : Program := .bare "" "" ""
def e0 : Env := launch0.env 0 0 0
theorem w_frames : about1.frames = Frame.invoking theMethod args0 :: below0 := rfl
set_option maxRecDepth 65536 in
theorem w_args : argsFit about1.vm theMethod args0 = true := by decide +kernel
set_option maxRecDepth 65536 in
theorem w_heap : heapFits about1 = true := by decide +kernel
set_option maxRecDepth 65536 in
theorem w_runnable : about1.curStatus? = some .runnable := by decide +kernel
set_option maxRecDepth 65536 in
theorem w_alone : about1.alone = true := by decide +kernel
set_option maxRecDepth 65536 in
theorem w_named : about1.methodNamed? x = some theMethod := by decide +kernel
set_option maxRecDepth 65536 in
theorem w_hears : about1.hears theMethod below0 = true := by decide +kernel
set_option maxRecDepth 65536 in
theorem w_ripe : about1.ripe theMethod args0 below0 = true := by decide +kernel
theorem w_running : about1.status = .running := rfl
set_option maxRecDepth 65536 in
theorem w_room : about1.hasRoom e0.platform room_1 = true :=
  launch0.hasRoom_least _ room_1 (by decide +kernel) (by decide +kernel) (by decide +kernel) (by decide +kernel) (by decide +kernel) (by decide +kernel)
theorem allAtoms_all (ts : List Jvm.Cond) (a : Array Jvm.Value) (st : Jvm.State) : (allAtoms ts).before a st = ts.all (fun c => c.before a st) := by
  induction ts with
  | nil => rfl
  | cons c t ih =>
    show (Jvm.Cond.and c (allAtoms t)).before a st = _
    rw [Jvm.Cond.before_and, ih, List.all_cons]
def words1 : List Jvm.Cond := Jvm.Cond.code x code maxLocals ret :: tables_1
/-- a 'code' word, met by the world's own term for the bytes: nothing is compared byte by byte -/
theorem code_word {y : MethodName} {bytes : ByteArray} {mx : Nat} {rt : Option FieldType} {a : Array Value} {s : State} {m : MethodId} {meth : Method} {c : Code} (h1 : s.methodNamed? y = some m) (h2 : s.vm.method? m = some meth) (h3 : meth.code = some c) (h4 : c.code = bytes)
    (h5 : (c.maxLocals == mx && c.exceptionTable.isEmpty && decide (c.maxStack ≤ mostOperands) && decide (meth.sig.returnType = rt) && !meth.locks && decide (parseMethodDescriptor y.desc = some meth.sig)) = true) : (Jvm.Cond.code y bytes mx rt).before a s = true := by
  simp only [Bool.and_eq_true, beq_iff_eq, Bool.not_eq_true', decide_eq_true_eq] at h5
  obtain ⟨⟨⟨⟨⟨g1, g2⟩, g3⟩, g4⟩, g5⟩, g6⟩ := h5
  simp [Cond.before, Cond.holds, Cond.value, h1, h2, h3, h4, g1, g2, g3, g4, g5, g6]
def isCode : Jvm.Cond → Bool
  | .code _ _ _ _ => true
  | _ => false
theorem all_split {L : List Jvm.Cond} {P : Jvm.Cond → Bool} (h1 : L.all (fun c => isCode c || P c) = true) (h2 : ∀ c ∈ L.filter isCode, P c = true) : L.all P = true := by
  refine List.all_eq_true.mpr fun c hc => ?_
  have h := List.all_eq_true.mp h1 c hc
  rcases Bool.eq_false_or_eq_true (isCode c) with hi | hi
  · exact h2 c (List.mem_filter.mpr ⟨hc, hi⟩)
  · simpa [hi] using h
set_option maxRecDepth 65536 in
theorem w_c0 : (Jvm.Cond.code x code maxLocals ret).before args0 about1 = true := code_word (m := ⟨1, 2⟩) (meth := k1m2) (c := k1c2) (by decide +kernel) rfl rfl rfl (by decide +kernel)
set_option maxRecDepth 65536 in
theorem w_c1 : (Jvm.Cond.code ({ cls := "com/example/kredential/kredential/ResourceEqualsPinLaw", name := "field", desc := "(Ljava/lang/String;Ljava/lang/String;IZZ)Ljava/lang/String;" } : Jvm.MethodName) method_2_code (11 : Nat) (Option.some (Jvm.ClassFile.FieldType.object "java/lang/String"))).before args0 about1 = true := code_word (m := ⟨1, 1⟩) (meth := k1m1) (c := k1c1) (by decide +kernel) rfl rfl rfl (by decide +kernel)
set_option maxRecDepth 65536 in
theorem w_c2 : (Jvm.Cond.code ({ cls := "java/lang/String", name := "length", desc := "()I" } : Jvm.MethodName) jdk_42_method_54_code (1 : Nat) (Option.some Jvm.ClassFile.FieldType.int)).before args0 about1 = true := code_word (m := ⟨7, 2⟩) (meth := k7m2) (c := k7c2) (by decide +kernel) rfl rfl rfl (by decide +kernel)
set_option maxRecDepth 65536 in
theorem w_c3 : (Jvm.Cond.code ({ cls := "java/lang/String", name := "coder", desc := "()B" } : Jvm.MethodName) jdk_42_method_152_code (1 : Nat) (Option.some Jvm.ClassFile.FieldType.byte)).before args0 about1 = true := code_word (m := ⟨7, 7⟩) (meth := k7m7) (c := k7c7) (by decide +kernel) rfl rfl rfl (by decide +kernel)
set_option maxRecDepth 65536 in
theorem w_c4 : (Jvm.Cond.code ({ cls := "java/lang/String", name := "charAt", desc := "(I)C" } : Jvm.MethodName) jdk_42_method_56_code (2 : Nat) (Option.some Jvm.ClassFile.FieldType.char)).before args0 about1 = true := code_word (m := ⟨7, 4⟩) (meth := k7m4) (c := k7c4) (by decide +kernel) rfl rfl rfl (by decide +kernel)
set_option maxRecDepth 65536 in
theorem w_c5 : (Jvm.Cond.code ({ cls := "java/lang/String", name := "isLatin1", desc := "()Z" } : Jvm.MethodName) jdk_42_method_154_code (1 : Nat) (Option.some Jvm.ClassFile.FieldType.boolean)).before args0 about1 = true := code_word (m := ⟨7, 8⟩) (meth := k7m8) (c := k7c8) (by decide +kernel) rfl rfl rfl (by decide +kernel)
set_option maxRecDepth 65536 in
theorem w_c6 : (Jvm.Cond.code ({ cls := "java/lang/StringLatin1", name := "charAt", desc := "([BI)C" } : Jvm.MethodName) jdk_43_method_2_code (2 : Nat) (Option.some Jvm.ClassFile.FieldType.char)).before args0 about1 = true := code_word (m := ⟨8, 1⟩) (meth := k8m1) (c := k8c1) (by decide +kernel) rfl rfl rfl (by decide +kernel)
set_option maxRecDepth 65536 in
theorem w_c7 : (Jvm.Cond.code ({ cls := "java/lang/String", name := "checkIndex", desc := "(II)V" } : Jvm.MethodName) jdk_42_method_155_code (2 : Nat) (Option.none : Option Jvm.ClassFile.FieldType)).before args0 about1 = true := code_word (m := ⟨7, 9⟩) (meth := k7m9) (c := k7c9) (by decide +kernel) rfl rfl rfl (by decide +kernel)
set_option maxRecDepth 65536 in
theorem w_c8 : (Jvm.Cond.code ({ cls := "jdk/internal/util/Preconditions", name := "checkIndex", desc := "(IILjava/util/function/BiFunction;)I" } : Jvm.MethodName) jdk_41_method_11_code (3 : Nat) (Option.some Jvm.ClassFile.FieldType.int)).before args0 about1 = true := code_word (m := ⟨9, 1⟩) (meth := k9m1) (c := k9c1) (by decide +kernel) rfl rfl rfl (by decide +kernel)
set_option maxRecDepth 65536 in
theorem w_c9 : (Jvm.Cond.code ({ cls := "java/lang/String", name := "<init>", desc := "([C)V" } : Jvm.MethodName) jdk_42_method_3_code (2 : Nat) (Option.none : Option Jvm.ClassFile.FieldType)).before args0 about1 = true := code_word (m := ⟨7, 1⟩) (meth := k7m1) (c := k7c1) (by decide +kernel) rfl rfl rfl (by decide +kernel)
set_option maxRecDepth 65536 in
theorem w_c10 : (Jvm.Cond.code ({ cls := "java/lang/String", name := "<init>", desc := "([CIILjava/lang/Void;)V" } : Jvm.MethodName) jdk_42_method_149_code (6 : Nat) (Option.none : Option Jvm.ClassFile.FieldType)).before args0 about1 = true := code_word (m := ⟨7, 6⟩) (meth := k7m6) (c := k7c6) (by decide +kernel) rfl rfl rfl (by decide +kernel)
set_option maxRecDepth 65536 in
theorem w_c11 : (Jvm.Cond.code ({ cls := "java/lang/Object", name := "<init>", desc := "()V" } : Jvm.MethodName) object_method_1_code (1 : Nat) (Option.none : Option Jvm.ClassFile.FieldType)).before args0 about1 = true := code_word (m := ⟨0, 0⟩) (meth := k0m0) (c := k0c0) (by decide +kernel) rfl rfl rfl (by decide +kernel)
set_option maxRecDepth 65536 in
theorem w_c12 : (Jvm.Cond.code ({ cls := "java/lang/StringUTF16", name := "compress", desc := "([CII)[B" } : Jvm.MethodName) jdk_52_method_16_code (6 : Nat) (Option.some (Jvm.ClassFile.FieldType.array Jvm.ClassFile.FieldType.byte))).before args0 about1 = true := code_word (m := ⟨10, 2⟩) (meth := k10m2) (c := k10c2) (by decide +kernel) rfl rfl rfl (by decide +kernel)
set_option maxRecDepth 65536 in
theorem w_c13 : (Jvm.Cond.code ({ cls := "java/lang/StringUTF16", name := "compress", desc := "([CI[BII)I" } : Jvm.MethodName) jdk_52_method_21_code (7 : Nat) (Option.some Jvm.ClassFile.FieldType.int)).before args0 about1 = true := code_word (m := ⟨10, 3⟩) (meth := k10m3) (c := k10c3) (by decide +kernel) rfl rfl rfl (by decide +kernel)
set_option maxRecDepth 65536 in
theorem w_c14 : (Jvm.Cond.code ({ cls := "java/lang/StringUTF16", name := "coderFromArrayLen", desc := "([BI)B" } : Jvm.MethodName) jdk_52_method_15_code (2 : Nat) (Option.some Jvm.ClassFile.FieldType.byte)).before args0 about1 = true := code_word (m := ⟨10, 1⟩) (meth := k10m1) (c := k10c1) (by decide +kernel) rfl rfl rfl (by decide +kernel)
set_option maxRecDepth 65536 in
theorem w_c15 : (Jvm.Cond.code ({ cls := "com/example/kredential/kredential/Resource", name := "<init>", desc := "(Ljava/lang/String;Ljava/lang/String;Ljava/lang/String;)V" } : Jvm.MethodName) prog_25_method_1_code (4 : Nat) (Option.none : Option Jvm.ClassFile.FieldType)).before args0 about1 = true := code_word (m := ⟨11, 0⟩) (meth := k11m0) (c := k11c0) (by decide +kernel) rfl rfl rfl (by decide +kernel)
set_option maxRecDepth 65536 in
theorem w_c16 : (Jvm.Cond.code ({ cls := "com/example/kredential/kredential/Resource", name := "isValidType", desc := "(Ljava/lang/String;)Z" } : Jvm.MethodName) prog_25_method_2_code (1 : Nat) (Option.some Jvm.ClassFile.FieldType.boolean)).before args0 about1 = true := code_word (m := ⟨11, 1⟩) (meth := k11m1) (c := k11c1) (by decide +kernel) rfl rfl rfl (by decide +kernel)
set_option maxRecDepth 65536 in
theorem w_c17 : (Jvm.Cond.code ({ cls := "com/example/kredential/kredential/NameRule", name := "accepts", desc := "(Ljava/lang/String;)Z" } : Jvm.MethodName) prog_15_method_5_code (4 : Nat) (Option.some Jvm.ClassFile.FieldType.boolean)).before args0 about1 = true := code_word (m := ⟨12, 0⟩) (meth := k12m0) (c := k12c0) (by decide +kernel) rfl rfl rfl (by decide +kernel)
set_option maxRecDepth 65536 in
theorem w_c18 : (Jvm.Cond.code ({ cls := "java/lang/String", name := "isEmpty", desc := "()Z" } : Jvm.MethodName) jdk_42_method_55_code (1 : Nat) (Option.some Jvm.ClassFile.FieldType.boolean)).before args0 about1 = true := code_word (m := ⟨7, 3⟩) (meth := k7m3) (c := k7c3) (by decide +kernel) rfl rfl rfl (by decide +kernel)
set_option maxRecDepth 65536 in
theorem w_c19 : (Jvm.Cond.code ({ cls := "com/example/kredential/kredential/Resource", name := "isValidId", desc := "(Ljava/lang/String;)Z" } : Jvm.MethodName) prog_25_method_3_code (1 : Nat) (Option.some Jvm.ClassFile.FieldType.boolean)).before args0 about1 = true := code_word (m := ⟨11, 2⟩) (meth := k11m2) (c := k11c2) (by decide +kernel) rfl rfl rfl (by decide +kernel)
set_option maxRecDepth 65536 in
theorem w_c20 : (Jvm.Cond.code ({ cls := "java/lang/String", name := "equals", desc := "(Ljava/lang/Object;)Z" } : Jvm.MethodName) jdk_42_method_66_code (3 : Nat) (Option.some Jvm.ClassFile.FieldType.boolean)).before args0 about1 = true := code_word (m := ⟨7, 5⟩) (meth := k7m5) (c := k7c5) (by decide +kernel) rfl rfl rfl (by decide +kernel)
set_option maxRecDepth 65536 in
theorem w_c21 : (Jvm.Cond.code ({ cls := "java/lang/StringLatin1", name := "equals", desc := "([B[B)Z" } : Jvm.MethodName) jdk_43_method_13_code (3 : Nat) (Option.some Jvm.ClassFile.FieldType.boolean)).before args0 about1 = true := code_word (m := ⟨8, 2⟩) (meth := k8m2) (c := k8c2) (by decide +kernel) rfl rfl rfl (by decide +kernel)
set_option maxRecDepth 65536 in
theorem w_c22 : (Jvm.Cond.code ({ cls := "com/example/kredential/kredential/Participant", name := "isValidId", desc := "(Ljava/lang/String;)Z" } : Jvm.MethodName) prog_16_method_3_code (1 : Nat) (Option.some Jvm.ClassFile.FieldType.boolean)).before args0 about1 = true := code_word (m := ⟨13, 0⟩) (meth := k13m0) (c := k13c0) (by decide +kernel) rfl rfl rfl (by decide +kernel)
set_option maxRecDepth 65536 in
theorem w_c23 : (Jvm.Cond.code ({ cls := "com/example/kredential/kredential/Resource", name := "equals", desc := "(Ljava/lang/Object;)Z" } : Jvm.MethodName) prog_25_method_7_code (3 : Nat) (Option.some Jvm.ClassFile.FieldType.boolean)).before args0 about1 = true := code_word (m := ⟨11, 3⟩) (meth := k11m3) (c := k11c3) (by decide +kernel) rfl rfl rfl (by decide +kernel)
def codes1 : List Jvm.Cond := [Jvm.Cond.code x code maxLocals ret, Jvm.Cond.code ({ cls := "com/example/kredential/kredential/ResourceEqualsPinLaw", name := "field", desc := "(Ljava/lang/String;Ljava/lang/String;IZZ)Ljava/lang/String;" } : Jvm.MethodName) method_2_code (11 : Nat) (Option.some (Jvm.ClassFile.FieldType.object "java/lang/String")), Jvm.Cond.code ({ cls := "java/lang/String", name := "length", desc := "()I" } : Jvm.MethodName) jdk_42_method_54_code (1 : Nat) (Option.some Jvm.ClassFile.FieldType.int), Jvm.Cond.code ({ cls := "java/lang/String", name := "coder", desc := "()B" } : Jvm.MethodName) jdk_42_method_152_code (1 : Nat) (Option.some Jvm.ClassFile.FieldType.byte), Jvm.Cond.code ({ cls := "java/lang/String", name := "charAt", desc := "(I)C" } : Jvm.MethodName) jdk_42_method_56_code (2 : Nat) (Option.some Jvm.ClassFile.FieldType.char), Jvm.Cond.code ({ cls := "java/lang/String", name := "isLatin1", desc := "()Z" } : Jvm.MethodName) jdk_42_method_154_code (1 : Nat) (Option.some Jvm.ClassFile.FieldType.boolean), Jvm.Cond.code ({ cls := "java/lang/StringLatin1", name := "charAt", desc := "([BI)C" } : Jvm.MethodName) jdk_43_method_2_code (2 : Nat) (Option.some Jvm.ClassFile.FieldType.char), Jvm.Cond.code ({ cls := "java/lang/String", name := "checkIndex", desc := "(II)V" } : Jvm.MethodName) jdk_42_method_155_code (2 : Nat) (Option.none : Option Jvm.ClassFile.FieldType), Jvm.Cond.code ({ cls := "jdk/internal/util/Preconditions", name := "checkIndex", desc := "(IILjava/util/function/BiFunction;)I" } : Jvm.MethodName) jdk_41_method_11_code (3 : Nat) (Option.some Jvm.ClassFile.FieldType.int), Jvm.Cond.code ({ cls := "java/lang/String", name := "<init>", desc := "([C)V" } : Jvm.MethodName) jdk_42_method_3_code (2 : Nat) (Option.none : Option Jvm.ClassFile.FieldType), Jvm.Cond.code ({ cls := "java/lang/String", name := "<init>", desc := "([CIILjava/lang/Void;)V" } : Jvm.MethodName) jdk_42_method_149_code (6 : Nat) (Option.none : Option Jvm.ClassFile.FieldType), Jvm.Cond.code ({ cls := "java/lang/Object", name := "<init>", desc := "()V" } : Jvm.MethodName) object_method_1_code (1 : Nat) (Option.none : Option Jvm.ClassFile.FieldType), Jvm.Cond.code ({ cls := "java/lang/StringUTF16", name := "compress", desc := "([CII)[B" } : Jvm.MethodName) jdk_52_method_16_code (6 : Nat) (Option.some (Jvm.ClassFile.FieldType.array Jvm.ClassFile.FieldType.byte)), Jvm.Cond.code ({ cls := "java/lang/StringUTF16", name := "compress", desc := "([CI[BII)I" } : Jvm.MethodName) jdk_52_method_21_code (7 : Nat) (Option.some Jvm.ClassFile.FieldType.int), Jvm.Cond.code ({ cls := "java/lang/StringUTF16", name := "coderFromArrayLen", desc := "([BI)B" } : Jvm.MethodName) jdk_52_method_15_code (2 : Nat) (Option.some Jvm.ClassFile.FieldType.byte), Jvm.Cond.code ({ cls := "com/example/kredential/kredential/Resource", name := "<init>", desc := "(Ljava/lang/String;Ljava/lang/String;Ljava/lang/String;)V" } : Jvm.MethodName) prog_25_method_1_code (4 : Nat) (Option.none : Option Jvm.ClassFile.FieldType), Jvm.Cond.code ({ cls := "com/example/kredential/kredential/Resource", name := "isValidType", desc := "(Ljava/lang/String;)Z" } : Jvm.MethodName) prog_25_method_2_code (1 : Nat) (Option.some Jvm.ClassFile.FieldType.boolean), Jvm.Cond.code ({ cls := "com/example/kredential/kredential/NameRule", name := "accepts", desc := "(Ljava/lang/String;)Z" } : Jvm.MethodName) prog_15_method_5_code (4 : Nat) (Option.some Jvm.ClassFile.FieldType.boolean), Jvm.Cond.code ({ cls := "java/lang/String", name := "isEmpty", desc := "()Z" } : Jvm.MethodName) jdk_42_method_55_code (1 : Nat) (Option.some Jvm.ClassFile.FieldType.boolean), Jvm.Cond.code ({ cls := "com/example/kredential/kredential/Resource", name := "isValidId", desc := "(Ljava/lang/String;)Z" } : Jvm.MethodName) prog_25_method_3_code (1 : Nat) (Option.some Jvm.ClassFile.FieldType.boolean), Jvm.Cond.code ({ cls := "java/lang/String", name := "equals", desc := "(Ljava/lang/Object;)Z" } : Jvm.MethodName) jdk_42_method_66_code (3 : Nat) (Option.some Jvm.ClassFile.FieldType.boolean), Jvm.Cond.code ({ cls := "java/lang/StringLatin1", name := "equals", desc := "([B[B)Z" } : Jvm.MethodName) jdk_43_method_13_code (3 : Nat) (Option.some Jvm.ClassFile.FieldType.boolean), Jvm.Cond.code ({ cls := "com/example/kredential/kredential/Participant", name := "isValidId", desc := "(Ljava/lang/String;)Z" } : Jvm.MethodName) prog_16_method_3_code (1 : Nat) (Option.some Jvm.ClassFile.FieldType.boolean), Jvm.Cond.code ({ cls := "com/example/kredential/kredential/Resource", name := "equals", desc := "(Ljava/lang/Object;)Z" } : Jvm.MethodName) prog_25_method_7_code (3 : Nat) (Option.some Jvm.ClassFile.FieldType.boolean)]
set_option maxRecDepth 65536 in
theorem codes_eq : words1.filter isCode = codes1 := rfl
theorem w_codes : ∀ c ∈ words1.filter isCode, c.before args0 about1 = true := by
  rw [codes_eq]
  intro c hc
  simp only [codes1, List.mem_cons, List.not_mem_nil, or_false] at hc
  rcases hc with rfl | rfl | rfl | rfl | rfl | rfl | rfl | rfl | rfl | rfl | rfl | rfl | rfl | rfl | rfl | rfl | rfl | rfl | rfl | rfl | rfl | rfl | rfl | rfl
  · exact w_c0
  · exact w_c1
  · exact w_c2
  · exact w_c3
  · exact w_c4
  · exact w_c5
  · exact w_c6
  · exact w_c7
  · exact w_c8
  · exact w_c9
  · exact w_c10
  · exact w_c11
  · exact w_c12
  · exact w_c13
  · exact w_c14
  · exact w_c15
  · exact w_c16
  · exact w_c17
  · exact w_c18
  · exact w_c19
  · exact w_c20
  · exact w_c21
  · exact w_c22
  · exact w_c23
set_option maxRecDepth 65536 in
theorem w_t1 : (words1.take 24).all (fun c => isCode c || c.before args0 about1) = true := by decide +kernel
set_option maxRecDepth 65536 in
theorem w_t2 : ((words1.drop 24).take 24).all (fun c => isCode c || c.before args0 about1) = true := by decide +kernel
set_option maxRecDepth 65536 in
theorem w_t3 : (((words1.drop 24).drop 24).take 24).all (fun c => isCode c || c.before args0 about1) = true := by decide +kernel
set_option maxRecDepth 65536 in
theorem w_t4 : ((((words1.drop 24).drop 24).drop 24).take 24).all (fun c => isCode c || c.before args0 about1) = true := by decide +kernel
set_option maxRecDepth 65536 in
theorem w_t5 : (((((words1.drop 24).drop 24).drop 24).drop 24).take 24).all (fun c => isCode c || c.before args0 about1) = true := by decide +kernel
set_option maxRecDepth 65536 in
theorem w_t6 : (((((words1.drop 24).drop 24).drop 24).drop 24).drop 24).all (fun c => isCode c || c.before args0 about1) = true := by decide +kernel
theorem w_tables : (allAtoms (Jvm.Cond.code x code maxLocals ret :: tables_1)).before args0 about1 = true := by
  rw [allAtoms_all]
  show words1.all (fun c => c.before args0 about1) = true
  refine all_split ?_ w_codes
  rw [← List.take_append_drop 24 words1, List.all_append, w_t1, ← List.take_append_drop 24 (words1.drop 24), List.all_append, w_t2, ← List.take_append_drop 24 ((words1.drop 24).drop 24), List.all_append, w_t3, ← List.take_append_drop 24 (((words1.drop 24).drop 24).drop 24), List.all_append, w_t4, ← List.take_append_drop 24 ((((words1.drop 24).drop 24).drop 24).drop 24), List.all_append, w_t5, w_t6]
  rfl
set_option maxRecDepth 65536 in
theorem w_rest : rest_1_c.before args0 about1 = true := by decide +kernel
set_option maxRecDepth 65536 in
theorem w_case : (Jvm.Cond.and given_1 narrow_1).before args0 about1 = true := by decide +kernel
set_option maxRecDepth 65536 in
theorem w_consts : constsHeld consts_1 about1 := Jvm.Lit.constsHeldB_iff.mp (by decide +kernel)
theorem w_applies : (headSpec (Jvm.Cond.code x code maxLocals ret :: tables_1) room_1).applies x e0.platform about1 = true :=
  (Spec.applies_iff w_frames).mpr ⟨w_running, w_runnable, w_alone, w_named, w_hears, w_ripe, w_room, w_tables⟩
theorem atStart : AtStart classFile x code maxLocals ret World_1 tables_1 room_1 Calls_1 rest_1 Pre_1 launch0 p0 e0 about1 theMethod args0 below0 :=
  ⟨lists_1, trivial, launch0.admits_env _ _ _, launch0.least_env, fairChoices_fair.cas, fairChoices_fair.clock, w_frames, w_args, w_heap, w_applies, ⟨w_consts, trivial⟩, w_rest, w_case⟩
end start1
theorem witness_1 : WitnessClaimed_1 := ⟨start1.p0, start1.e0, start1.about1, start1.theMethod, start1.args0, start1.below0, start1.atStart⟩
end Jvm.Pilot.@@N@@
