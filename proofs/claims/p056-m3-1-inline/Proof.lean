import JvmDerived
import JvmDerived.Pilot.@@N@@Statement
import JvmDerived.Pilot.@@N@@Code
set_option linter.unusedVariables false
set_option linter.unusedSimpArgs false
namespace Jvm.OwnK
open Jvm Jvm.ClassFile Sem Op Lib Jvm.Free Jvm.Stand Jvm.LawKit Jvm.RoadKit Bundle
/-! own kit, part 1: a walk as a triple on (heap, pc, locals, stack): Seg; contracts: Ct; who pays a call: Pays -/
def SfOk (Z : State) (EL : List (String × Nat)) (vm : Vm) (h : Heap) (sf : List Addr) : Prop := ∀ x ∈ sf, Z.heap.size ≤ x ∧ x < h.size ∧ Safe Z EL vm h x
def Wk (p : Program) (l : Launch) (e : Env) (R : Room) (s : State) (m : MethodId) (args : Array Value) (below : List Frame) (meth : Method) (c : Code) (Z : State) (a0 : Array Value) (EL : List (String × Nat)) (own : String) (sf : List Addr) (k n : Nat) (T : State) (h : Heap) : Prop :=
  ∃ (vm0 : Vm) (locs : List Loc) (k0 : Nat), Stand p l e R (s.setVm vm0) m args below meth c T locs k n ∧ T.heap = h ∧ s.Since vm0 k0 ∧ k0 ≤ h.size ∧ Z.Warmed39 vm0 ∧ vm0.findClass own = some m.cls ∧ CHr Z EL s.vm s.heap vm0 h ∧ Fr Z.heap.size locs ∧ Ext Z.heap h ∧ EW Z a0 EL ∧ SfOk Z EL vm0 h sf
def Cx (p : Program) (meth : Method) (c : Code) (y : MethodName) (bytes : ByteArray) (maxL : Nat) (ret : Option FieldType) : Prop :=
  p.tables.exec = Jvm.exec ∧ c.code = bytes ∧ c.maxLocals = maxL ∧ meth.sig.returnType = ret ∧ meth.locks = false ∧ meth.name = y.name
def Gl (p : Program) (e : Env) (below : List Frame) (s Z : State) (EL : List (String × Nat)) (Q : Option Value → Heap → Prop) (rc rs : Nat) (u : State) : Prop :=
  ∃ (s₂ : State) (o : Outcome), Steps p.tables e below u s₂ ∧ s₂.status = .running ∧ Ended s₂ below o ∧ ∃ v L, o = .returned v ∧ (Fr Z.heap.size L ∧ Ext Z.heap s₂.heap ∧ Q v s₂.heap) ∧ CHr Z EL s.vm s.heap s₂.vm s₂.heap ∧ ReturnedEndW s o s₂ L rc rs
def Seg (l : Launch) (Z : State) (a0 : Array Value) (EL : List (String × Nat)) (y : MethodName) (bytes : ByteArray) (maxL : Nat) (ret : Option FieldType) (rm : Room) (Q : Option Value → Heap → Prop) (h : Heap) (k n : Nat) (sf : List Addr) (pc : Nat) (L : Array Slot) (S : List Value) : Prop :=
  ∀ (p : Program) (e : Env) (s : State) (m : MethodId) (args : Array Value) (below : List Frame) (meth : Method) (c : Code) (T : State), Cx p meth c y bytes maxL ret → Wk p l e rm s m args below meth c Z a0 EL y.cls sf k n T h → Gl p e below s Z EL Q rm.cells rm.slots (T.setTop (mkF m pc L S))
/-- a contract -/
def Ct (l : Launch) (Z : State) (EL : List (String × Nat)) (sf : List Addr) (ws : List Jvm.Cond) (y : MethodName) (bytes : ByteArray) (maxL : Nat) (ret : Option FieldType) (rm : Room) (as' : Array Value) (h : Heap) (Q : Option Value → Heap → Prop) : Prop :=
  MetFree l y (head1 (Jvm.Cond.code y bytes maxL ret :: ws) rm) (fun a U => a = as' ∧ Z.Warmed39 U.vm ∧ U.heap = h ∧ CHv Z EL U.vm h ∧ SfOk Z EL U.vm h sf ∧ Ext Z.heap h) (fun _ _ _ _ _ => True)
    (fun _ U o U' => ∃ v L, o = .returned v ∧ (Fr Z.heap.size L ∧ Ext Z.heap U'.heap ∧ Q v U'.heap) ∧ CHr Z EL U.vm U.heap U'.vm U'.heap ∧ ReturnedEndW U o U' L rm.cells rm.slots)
section Facts
variable {Z : State} {EL : List (String × Nat)} {vm vm1 : Vm} {h h1 h2 h' : Heap} {sf sf' : List Addr} {ws : List Addr} {a x : Addr} {sl : Nat} {v : Value}
theorem ext_rfl (h : Heap) : Ext h h := ⟨Nat.le_refl _, fun _ _ q => q⟩
theorem ext_tr (A : Ext h h1) (B : Ext h1 h2) : Ext h h2 := ⟨Nat.le_trans A.1 B.1, fun x c q => B.2 x c (A.2 x c q)⟩
theorem ext_kp (A : Ext h h1) (K : Keep h1 h2 ws) (q : ∀ x ∈ ws, h.size ≤ x) : Ext h h2 := ⟨Nat.le_trans A.1 K.1, fun x c r => K.2.1 x c (A.2 x c r) fun z => absurd (Array.getElem?_eq_some_iff.mp r).1 (Nat.not_lt.mpr (q x z))⟩
theorem ext_wr (A : Ext h h1) (W : Wr h1 h2 a sl v) (q : h.size ≤ a) : Ext h h2 := ext_kp A (Keep.of_wr W) (allS q all0)
theorem keep_ext (E : Ext h h1) : Keep h h1 [] := (Keep.refl h []).ext E
theorem ext_keep (K : Keep h h1 []) : Ext h h1 := ⟨K.1, fun x c q => K.2.1 x c q (fun z => nomatch z)⟩
theorem keep_mono {ws' : List Addr} (K : Keep h h1 ws) (q : ∀ x ∈ ws, x ∈ ws' ∨ h.size ≤ x) : Keep h h1 ws' := (Keep.refl h ws').trans K q
theorem SfOk.sub (S : SfOk Z EL vm h sf) (q : ∀ x ∈ sf', x ∈ sf) : SfOk Z EL vm h sf' := fun x hx => S x (q x hx)
theorem SfOk.chr (S : SfOk Z EL vm h sf) (A : CHr Z EL vm h vm1 h') : SfOk Z EL vm1 h' sf := fun x hx => by
  obtain ⟨q1, q2, q3⟩ := S x hx
  exact ⟨q1, Nat.lt_of_lt_of_le q2 A.2.1, A.safe q2 q3⟩
theorem SfOk.cons (S : SfOk Z EL vm h sf) (q1 : Z.heap.size ≤ x) (q2 : x < h.size) (q3 : Safe Z EL vm h x) : SfOk Z EL vm h (x :: sf) := fun y hy => by
  rcases List.mem_cons.mp hy with rfl | hy
  · exact ⟨q1, q2, q3⟩
  · exact S y hy
theorem SfOk.safes (S : SfOk Z EL vm h sf) (q : ∀ x ∈ ws, x ∈ sf) : ∀ x ∈ ws, Safe Z EL vm h x := fun x hx => (S x (q x hx)).2.2
end Facts
section Core
variable {l : Launch} {Z : State} {a0 : Array Value} {EL : List (String × Nat)} {y : MethodName} {bytes : ByteArray} {maxL : Nat} {ret : Option FieldType} {rm : Room} {Q : Option Value → Heap → Prop} {h : Heap} {k n k' n' : Nat} {sf sf' : List Addr} {pc pc' : Nat} {L : Array Slot} {S : List Value}
variable {p : Program} {e : Env} {R : Room} {s : State} {m : MethodId} {args : Array Value} {below : List Frame} {meth : Method} {c : Code} {T : State} {own : String}
theorem Wk.here (w : Wk p l e R s m args below meth c Z a0 EL own sf k n T h) : At T m c below := by obtain ⟨_, _, _, X, -⟩ := w; exact X.here
theorem Wk.mono (w : Wk p l e R s m args below meth c Z a0 EL own sf k n T h) (hk : k ≤ k') (hn : n ≤ n') (q : ∀ x ∈ sf', x ∈ sf) : Wk p l e R s m args below meth c Z a0 EL own sf' k' n' T h := by
  obtain ⟨vm0, locs, k0, X, r1, r2, r3, r4, r5, r6, r7, r8, r9, r10⟩ := w
  exact ⟨vm0, locs, k0, X.mono hk hn, r1, r2, r3, r4, r5, r6, r7, r8, r9, r10.sub q⟩
theorem Seg.mono (hk : k ≤ k') (hn : n ≤ n') (q : ∀ x ∈ sf', x ∈ sf) (g : Seg l Z a0 EL y bytes maxL ret rm Q h k' n' sf' pc L S) : Seg l Z a0 EL y bytes maxL ret rm Q h k n sf pc L S :=
  fun p e s m args below meth c T C w => g p e s m args below meth c T C (w.mono hk hn q)
theorem Seg.post {Q' : Option Value → Heap → Prop} (q : ∀ v h, Q' v h → Q v h) (g : Seg l Z a0 EL y bytes maxL ret rm Q' h k n sf pc L S) : Seg l Z a0 EL y bytes maxL ret rm Q h k n sf pc L S :=
  fun p e s m args below meth c T C w => by
    obtain ⟨s₂, o, h1, h2, h3, v, Ls, h4, ⟨h5, h6, h7⟩, h8⟩ := g p e s m args below meth c T C w
    exact ⟨s₂, o, h1, h2, h3, v, Ls, h4, ⟨h5, h6, q _ _ h7⟩, h8⟩
theorem Gl.st {u u' : State} (hs : ∀ t, Steps p.tables e below u' t → Steps p.tables e below u t) (g : Gl p e below s Z EL Q k n u') : Gl p e below s Z EL Q k n u := by
  obtain ⟨s₂, o, h1, r⟩ := g
  exact ⟨s₂, o, hs _ h1, r⟩
theorem Seg.start (g : Ext Z.heap h → Seg l Z a0 EL y bytes maxL ret rm Q h k n sf pc L S) : Seg l Z a0 EL y bytes maxL ret rm Q h k n sf pc L S :=
  fun p e s m args below meth c T C w => by
    obtain ⟨vm0, locs, k0, X, r1, r2, r3, r4, r5, r6, r7, r8, r9, r10⟩ := w
    exact g r8 p e s m args below meth c T C ⟨vm0, locs, k0, X, r1, r2, r3, r4, r5, r6, r7, r8, r9, r10⟩
/-- a plain step -/
theorem Seg.plain {L' : Array Slot} {S' : List Value} (hs : ∀ (p : Program) (e : Env) (m : MethodId) (below : List Frame) (c : Code) (T : State) (t : State), p.tables.exec = Jvm.exec → c.code = bytes → At T m c below → Steps p.tables e below (T.setTop (mkF m pc' L' S')) t → Steps p.tables e below (T.setTop (mkF m pc L S)) t)
    (g : Seg l Z a0 EL y bytes maxL ret rm Q h k n sf pc' L' S') : Seg l Z a0 EL y bytes maxL ret rm Q h k n sf pc L S :=
  fun p e s m args below meth c T C w => Gl.st (fun t => hs p e m below c T t C.1 C.2.1 w.here) (g p e s m args below meth c T C w)
theorem Ct.of_seg {as' : Array Value} {ws : List Jvm.Cond} (hpn : plainFor y = true) (hEL : EW Z a0 EL) (hent : ∀ m, entryFrame m as' maxL = mkF m 0 L []) (g : Seg l Z a0 EL y bytes maxL ret rm Q h 0 0 sf 0 L []) :
    Ct l Z EL sf ws y bytes maxL ret rm as' h Q := by
  refine MetFree.of_bodySF hpn hisR ?_
  intro p e s m args below meth c s₁ Bd hml0 hP hK
  obtain ⟨rfl, hZ, hh, hC, hSf, hZ0⟩ := hP
  subst hh
  have X0 : Stand p l e rm (s.setVm s.vm) m _ below meth c s₁ [] 0 0 := Stand.of_body Bd
  have e0 : s₁.heap = s.heap := by rw [Bd.state]; rfl
  have hown : s.vm.findClass y.cls = some m.cls := findClass_of_methodNamed Bd.named
  rw [hent m]
  exact g p e s m _ below meth c s₁ ⟨Bd.exec, Bd.bytes, hml0, Bd.returns, Bd.notSynchronized, (name_of_methodNamed Bd.named Bd.method).1⟩ ⟨s.vm, [], 0, X0, e0, (State.WarmedH.refl s).since 0, Nat.zero_le _, hZ, hown, CHr.refl hC, Fr.nil _, hZ0, hEL, hSf⟩
theorem Wk.out (w : Wk p l e R s m args below meth c Z a0 EL own sf k n T h) (C : Cx p meth c y bytes maxL ret) {v : Option Value} (hv : ret = none → v = none) (hQ : Q v h) (hk : k ≤ R.cells) (hn : n ≤ R.slots) {u : State}
    (hs : ∀ (vm0 : Vm) (locs : List Loc), Stand p l e R (s.setVm vm0) m args below meth c T locs k n → ∀ fs, (∀ (f : JFrame) (acts : List Action), f.method = m → f.locked = none → f.entered = [] → (doReturn e (T.setTop f) acts v).1 = T.setFrames fs) → Steps p.tables e below u (T.setFrames fs)) : Gl p e below s Z EL Q R.cells R.slots u := by
  obtain ⟨vm0, locs, k0, X, rfl, r2, r3, r4, r5, r6, r7, r8, r9, r10⟩ := w
  obtain ⟨C1, C2, C3, C4, C5, C6⟩ := C
  obtain ⟨fs, h1, h2, h3, ⟨-, e1, e2, e3⟩⟩ := X.leaveW r2 r3 (v := v) (fun q => hv (C4 ▸ q)) C5
  refine ⟨_, _, hs vm0 locs X fs h1, h2, h3, v, locs, rfl, ⟨r7, r8, hQ⟩, ?_, ⟨v, rfl⟩, e1, e2, e3.mono hk hn⟩
  have A := CHv.at X r4 r9 r6.1
  exact r6.trans A
/-- returns -/
theorem Seg.retI {v : Int32} (hret : ret = some .int) (hd : decode bytes pc = .ok (.ireturn, 1)) (hk : k ≤ rm.cells) (hn : n ≤ rm.slots) (hQ : Q (some (.int v)) h) : Seg l Z a0 EL y bytes maxL ret rm Q h k n sf pc L [.int v] :=
  fun p e s m args below meth c T C w => w.out C (fun q => by rw [hret] at q; cases q) hQ hk hn fun vm0 locs X fs hl => X.ireturnOut C.1 (t := .int) (C.2.2.2.1.trans hret) rfl (Or.inl rfl) (hb C.2.1 hd) hl
theorem Seg.retN {v w : Int32} {t : FieldType} (hret : ret = some t) (ht : t = .boolean ∨ t = .byte ∨ t = .char ∨ t = .short) (hv : nar t v = w) (hd : decode bytes pc = .ok (.ireturn, 1)) (hk : k ≤ rm.cells) (hn : n ≤ rm.slots) (hQ : Q (some (.int w)) h) : Seg l Z a0 EL y bytes maxL ret rm Q h k n sf pc L [.int v] :=
  fun p e s m args below meth c T C w' => by
    subst hv
    exact w'.out C (fun q => by rw [hret] at q; cases q) hQ hk hn fun vm0 locs X fs hl => RoadKit.retN X C.1 (t := t) (C.2.2.2.1.trans hret) ht (hb C.2.1 hd) hl
theorem Seg.retA {v : Value} {t : FieldType} (hret : ret = some t) (ht : t.isReference = true) (hv : v.isRef = true) (hd : decode bytes pc = .ok (.areturn, 1)) (hk : k ≤ rm.cells) (hn : n ≤ rm.slots) (hQ : Q (some v) h) : Seg l Z a0 EL y bytes maxL ret rm Q h k n sf pc L [v] :=
  fun p e s m args below meth c T C w => w.out C (fun q => by rw [hret] at q; cases q) hQ hk hn fun vm0 locs X fs hl => X.areturnOut C.1 hv (C.2.2.2.1.trans hret) ht (hb C.2.1 hd) hl
theorem Seg.retL {v : Int64} (hret : ret = some .long) (hd : decode bytes pc = .ok (.lreturn, 1)) (hk : k ≤ rm.cells) (hn : n ≤ rm.slots) (hQ : Q (some (.long v)) h) : Seg l Z a0 EL y bytes maxL ret rm Q h k n sf pc L [.long v] :=
  fun p e s m args below meth c T C w => w.out C (fun q => by rw [hret] at q; cases q) hQ hk hn fun vm0 locs X fs hl => X.lreturnOut C.1 (C.2.2.2.1.trans hret) (hb C.2.1 hd) hl
theorem Seg.ret0 (hret : ret = none) (hd : decode bytes pc = .ok (.return_, 1)) (hk : k ≤ rm.cells) (hn : n ≤ rm.slots) (hQ : Q none h) : Seg l Z a0 EL y bytes maxL ret rm Q h k n sf pc L [] :=
  fun p e s m args below meth c T C w => w.out C (fun _ => rfl) hQ hk hn fun vm0 locs X fs hl => X.returnOut C.1 (C.2.2.2.1.trans hret) (hb C.2.1 hd) hl
end Core
section Plain
variable {l : Launch} {Z : State} {a0 : Array Value} {EL : List (String × Nat)} {y : MethodName} {bytes : ByteArray} {maxL : Nat} {ret : Option FieldType} {rm : Room} {Q : Option Value → Heap → Prop} {h : Heap} {k n : Nat} {sf : List Addr} {pc pc' : Nat} {L : Array Slot} {S : List Value}
theorem Seg.iloadN {i : Fin 4} {v : Int32} (hd : decode bytes pc = .ok (.iload_n i, 1)) (hl : L[i.val]? = some (.val (.int v))) (hp : pc + 1 = pc') (g : Seg l Z a0 EL y bytes maxL ret rm Q h k n sf pc' L (.int v :: S)) : Seg l Z a0 EL y bytes maxL ret rm Q h k n sf pc L S := by
  subst hp
  exact Seg.plain (fun p e m below c T t hx hc ha hr => XS.iloadN ha hx rfl (hb hc hd) hl hr) g
theorem Seg.iload {i : Nat} {v : Int32} (hd : decode bytes pc = .ok (.iload i, 2)) (hl : L[i]? = some (.val (.int v))) (hp : pc + 2 = pc') (g : Seg l Z a0 EL y bytes maxL ret rm Q h k n sf pc' L (.int v :: S)) : Seg l Z a0 EL y bytes maxL ret rm Q h k n sf pc L S := by
  subst hp
  exact Seg.plain (fun p e m below c T t hx hc ha hr => XS.iload ha hx rfl (hb hc hd) hl hr) g
theorem Seg.lloadN {i : Fin 4} {v : Int64} (hd : decode bytes pc = .ok (.lload_n i, 1)) (hl : L[i.val]? = some (.val (.long v))) (hp : pc + 1 = pc') (g : Seg l Z a0 EL y bytes maxL ret rm Q h k n sf pc' L (.long v :: S)) : Seg l Z a0 EL y bytes maxL ret rm Q h k n sf pc L S := by
  subst hp
  exact Seg.plain (fun p e m below c T t hx hc ha hr => XT.lloadN ha hx rfl (hb hc hd) hl hr) g
theorem Seg.lload {i : Nat} {v : Int64} (hd : decode bytes pc = .ok (.lload i, 2)) (hl : L[i]? = some (.val (.long v))) (hp : pc + 2 = pc') (g : Seg l Z a0 EL y bytes maxL ret rm Q h k n sf pc' L (.long v :: S)) : Seg l Z a0 EL y bytes maxL ret rm Q h k n sf pc L S := by
  subst hp
  exact Seg.plain (fun p e m below c T t hx hc ha hr => XT.lload ha hx rfl (hb hc hd) hl hr) g
theorem Seg.aloadN {i : Fin 4} {v : Value} (hd : decode bytes pc = .ok (.aload_n i, 1)) (hl : L[i.val]? = some (.val v)) (hv : v.isRef = true) (hp : pc + 1 = pc') (g : Seg l Z a0 EL y bytes maxL ret rm Q h k n sf pc' L (v :: S)) : Seg l Z a0 EL y bytes maxL ret rm Q h k n sf pc L S := by
  subst hp
  exact Seg.plain (fun p e m below c T t hx hc ha hr => XS.aloadN ha hx rfl (hb hc hd) hl hv hr) g
theorem Seg.aload {i : Nat} {v : Value} (hd : decode bytes pc = .ok (.aload i, 2)) (hl : L[i]? = some (.val v)) (hv : v.isRef = true) (hp : pc + 2 = pc') (g : Seg l Z a0 EL y bytes maxL ret rm Q h k n sf pc' L (v :: S)) : Seg l Z a0 EL y bytes maxL ret rm Q h k n sf pc L S := by
  subst hp
  exact Seg.plain (fun p e m below c T t hx hc ha hr => XS.aload ha hx rfl (hb hc hd) hl hv hr) g
theorem Seg.istoreN {i : Fin 4} {v : Int32} {L' : Array Slot} (hd : decode bytes pc = .ok (.istore_n i, 1)) (hl : storeLocals L i.val (.int v) = some L') (hp : pc + 1 = pc') (g : Seg l Z a0 EL y bytes maxL ret rm Q h k n sf pc' L' S) : Seg l Z a0 EL y bytes maxL ret rm Q h k n sf pc L (.int v :: S) := by
  subst hp
  exact Seg.plain (fun p e m below c T t hx hc ha hr => XS.istoreN ha hx rfl (hb hc hd) rfl hl hr) g
theorem Seg.istore {i : Nat} {v : Int32} {L' : Array Slot} (hd : decode bytes pc = .ok (.istore i, 2)) (hl : storeLocals L i (.int v) = some L') (hp : pc + 2 = pc') (g : Seg l Z a0 EL y bytes maxL ret rm Q h k n sf pc' L' S) : Seg l Z a0 EL y bytes maxL ret rm Q h k n sf pc L (.int v :: S) := by
  subst hp
  exact Seg.plain (fun p e m below c T t hx hc ha hr => XS.istore ha hx rfl (hb hc hd) rfl hl hr) g
theorem Seg.lstoreN {i : Fin 4} {v : Int64} {L' : Array Slot} (hd : decode bytes pc = .ok (.lstore_n i, 1)) (hl : storeLocals L i.val (.long v) = some L') (hp : pc + 1 = pc') (g : Seg l Z a0 EL y bytes maxL ret rm Q h k n sf pc' L' S) : Seg l Z a0 EL y bytes maxL ret rm Q h k n sf pc L (.long v :: S) := by
  subst hp
  exact Seg.plain (fun p e m below c T t hx hc ha hr => XT.lstoreN ha hx rfl (hb hc hd) rfl hl hr) g
theorem Seg.lstore {i : Nat} {v : Int64} {L' : Array Slot} (hd : decode bytes pc = .ok (.lstore i, 2)) (hl : storeLocals L i (.long v) = some L') (hp : pc + 2 = pc') (g : Seg l Z a0 EL y bytes maxL ret rm Q h k n sf pc' L' S) : Seg l Z a0 EL y bytes maxL ret rm Q h k n sf pc L (.long v :: S) := by
  subst hp
  exact Seg.plain (fun p e m below c T t hx hc ha hr => XT.lstore ha hx rfl (hb hc hd) rfl hl hr) g
theorem Seg.astoreN {i : Fin 4} {v : Value} {L' : Array Slot} (hd : decode bytes pc = .ok (.astore_n i, 1)) (hv : v.isRef = true) (hl : storeLocals L i.val v = some L') (hp : pc + 1 = pc') (g : Seg l Z a0 EL y bytes maxL ret rm Q h k n sf pc' L' S) : Seg l Z a0 EL y bytes maxL ret rm Q h k n sf pc L (v :: S) := by
  subst hp
  exact Seg.plain (fun p e m below c T t hx hc ha hr => XS.astoreN ha hx rfl (hb hc hd) rfl hv hl hr) g
theorem Seg.astore {i : Nat} {v : Value} {L' : Array Slot} (hd : decode bytes pc = .ok (.astore i, 2)) (hv : v.isRef = true) (hl : storeLocals L i v = some L') (hp : pc + 2 = pc') (g : Seg l Z a0 EL y bytes maxL ret rm Q h k n sf pc' L' S) : Seg l Z a0 EL y bytes maxL ret rm Q h k n sf pc L (v :: S) := by
  subst hp
  exact Seg.plain (fun p e m below c T t hx hc ha hr => XS.astore ha hx rfl (hb hc hd) rfl hv hl hr) g
theorem Seg.iconst {i : Int} {v : Int32} (hd : decode bytes pc = .ok (.iconst i, 1)) (hv : Int32.ofInt i = v) (hp : pc + 1 = pc') (g : Seg l Z a0 EL y bytes maxL ret rm Q h k n sf pc' L (.int v :: S)) : Seg l Z a0 EL y bytes maxL ret rm Q h k n sf pc L S := by
  subst hp
  exact Seg.plain (fun p e m below c T t hx hc ha hr => XT.iconstV ha hx rfl v (hb hc hd) hv hr) g
theorem Seg.bipush {i : Int} {v : Int32} (hd : decode bytes pc = .ok (.bipush i, 2)) (hv : (Int8.ofInt i).toInt32 = v) (hp : pc + 2 = pc') (g : Seg l Z a0 EL y bytes maxL ret rm Q h k n sf pc' L (.int v :: S)) : Seg l Z a0 EL y bytes maxL ret rm Q h k n sf pc L S := by
  subst hp
  exact Seg.plain (fun p e m below c T t hx hc ha hr => XT.bipushV ha hx rfl v (hb hc hd) hv hr) g
theorem Seg.sipush {i : Int} {v : Int32} (hd : decode bytes pc = .ok (.sipush i, 3)) (hv : (Int16.ofInt i).toInt32 = v) (hp : pc + 3 = pc') (g : Seg l Z a0 EL y bytes maxL ret rm Q h k n sf pc' L (.int v :: S)) : Seg l Z a0 EL y bytes maxL ret rm Q h k n sf pc L S := by
  subst hp
  exact Seg.plain (fun p e m below c T t hx hc ha hr => XT.sipushV ha hx rfl v (hb hc hd) hv hr) g
theorem Seg.lconst {i : Fin 2} {v : Int64} (hd : decode bytes pc = .ok (.lconst i, 1)) (hv : Int64.ofNat i = v) (hp : pc + 1 = pc') (g : Seg l Z a0 EL y bytes maxL ret rm Q h k n sf pc' L (.long v :: S)) : Seg l Z a0 EL y bytes maxL ret rm Q h k n sf pc L S := by
  subst hp
  exact Seg.plain (fun p e m below c T t hx hc ha hr => XT.lconstV ha hx rfl v (hb hc hd) hv hr) g
theorem Seg.anull  (hd : decode bytes pc = .ok (.aconst_null, 1))  (hp : pc + 1 = pc') (g : Seg l Z a0 EL y bytes maxL ret rm Q h k n sf pc' L (.null :: S)) : Seg l Z a0 EL y bytes maxL ret rm Q h k n sf pc L S := by
  subst hp
  exact Seg.plain (fun p e m below c T t hx hc ha hr => XS.aconstNull ha hx rfl (hb hc hd) hr) g
theorem Seg.iadd {x z v : Int32} (hd : decode bytes pc = .ok (.iadd, 1)) (hv : x + z = v) (hp : pc + 1 = pc') (g : Seg l Z a0 EL y bytes maxL ret rm Q h k n sf pc' L (.int v :: S)) : Seg l Z a0 EL y bytes maxL ret rm Q h k n sf pc L (.int z :: .int x :: S) := by
  subst hp
  exact Seg.plain (fun p e m below c T t hx hc ha hr => XS.iadd ha hx rfl (hb hc hd) rfl (by subst hv; exact hr)) g
theorem Seg.isub {x z v : Int32} (hd : decode bytes pc = .ok (.isub, 1)) (hv : x - z = v) (hp : pc + 1 = pc') (g : Seg l Z a0 EL y bytes maxL ret rm Q h k n sf pc' L (.int v :: S)) : Seg l Z a0 EL y bytes maxL ret rm Q h k n sf pc L (.int z :: .int x :: S) := by
  subst hp
  exact Seg.plain (fun p e m below c T t hx hc ha hr => XS.isub ha hx rfl (hb hc hd) rfl (by subst hv; exact hr)) g
theorem Seg.imul {x z v : Int32} (hd : decode bytes pc = .ok (.imul, 1)) (hv : x * z = v) (hp : pc + 1 = pc') (g : Seg l Z a0 EL y bytes maxL ret rm Q h k n sf pc' L (.int v :: S)) : Seg l Z a0 EL y bytes maxL ret rm Q h k n sf pc L (.int z :: .int x :: S) := by
  subst hp
  exact Seg.plain (fun p e m below c T t hx hc ha hr => XS.imul ha hx rfl (hb hc hd) rfl (by subst hv; exact hr)) g
theorem Seg.iand {x z v : Int32} (hd : decode bytes pc = .ok (.iand, 1)) (hv : x &&& z = v) (hp : pc + 1 = pc') (g : Seg l Z a0 EL y bytes maxL ret rm Q h k n sf pc' L (.int v :: S)) : Seg l Z a0 EL y bytes maxL ret rm Q h k n sf pc L (.int z :: .int x :: S) := by
  subst hp
  exact Seg.plain (fun p e m below c T t hx hc ha hr => XS.iand ha hx rfl (hb hc hd) rfl (by subst hv; exact hr)) g
theorem Seg.ior {x z v : Int32} (hd : decode bytes pc = .ok (.ior, 1)) (hv : x ||| z = v) (hp : pc + 1 = pc') (g : Seg l Z a0 EL y bytes maxL ret rm Q h k n sf pc' L (.int v :: S)) : Seg l Z a0 EL y bytes maxL ret rm Q h k n sf pc L (.int z :: .int x :: S) := by
  subst hp
  exact Seg.plain (fun p e m below c T t hx hc ha hr => XT.ior ha hx rfl (hb hc hd) rfl (by subst hv; exact hr)) g
theorem Seg.ixor {x z v : Int32} (hd : decode bytes pc = .ok (.ixor, 1)) (hv : x ^^^ z = v) (hp : pc + 1 = pc') (g : Seg l Z a0 EL y bytes maxL ret rm Q h k n sf pc' L (.int v :: S)) : Seg l Z a0 EL y bytes maxL ret rm Q h k n sf pc L (.int z :: .int x :: S) := by
  subst hp
  exact Seg.plain (fun p e m below c T t hx hc ha hr => XT.ixor ha hx rfl (hb hc hd) rfl (by subst hv; exact hr)) g
theorem Seg.ishl {x z v : Int32} (hd : decode bytes pc = .ok (.ishl, 1)) (hv : x <<< (z &&& 31) = v) (hp : pc + 1 = pc') (g : Seg l Z a0 EL y bytes maxL ret rm Q h k n sf pc' L (.int v :: S)) : Seg l Z a0 EL y bytes maxL ret rm Q h k n sf pc L (.int z :: .int x :: S) := by
  subst hp
  exact Seg.plain (fun p e m below c T t hx hc ha hr => XT.ishl ha hx rfl (hb hc hd) rfl (by subst hv; exact hr)) g
theorem Seg.ishr {x z v : Int32} (hd : decode bytes pc = .ok (.ishr, 1)) (hv : x >>> (z &&& 31) = v) (hp : pc + 1 = pc') (g : Seg l Z a0 EL y bytes maxL ret rm Q h k n sf pc' L (.int v :: S)) : Seg l Z a0 EL y bytes maxL ret rm Q h k n sf pc L (.int z :: .int x :: S) := by
  subst hp
  exact Seg.plain (fun p e m below c T t hx hc ha hr => XT.ishr ha hx rfl (hb hc hd) rfl (by subst hv; exact hr)) g
theorem Seg.iushr {x z v : Int32} (hd : decode bytes pc = .ok (.iushr, 1)) (hv : (x.toUInt32 >>> (z &&& 31).toUInt32).toInt32 = v) (hp : pc + 1 = pc') (g : Seg l Z a0 EL y bytes maxL ret rm Q h k n sf pc' L (.int v :: S)) : Seg l Z a0 EL y bytes maxL ret rm Q h k n sf pc L (.int z :: .int x :: S) := by
  subst hp
  exact Seg.plain (fun p e m below c T t hx hc ha hr => XT.iushr ha hx rfl (hb hc hd) rfl (by subst hv; exact hr)) g
theorem Seg.ladd {x z v : Int64} (hd : decode bytes pc = .ok (.ladd, 1)) (hv : x + z = v) (hp : pc + 1 = pc') (g : Seg l Z a0 EL y bytes maxL ret rm Q h k n sf pc' L (.long v :: S)) : Seg l Z a0 EL y bytes maxL ret rm Q h k n sf pc L (.long z :: .long x :: S) := by
  subst hp
  exact Seg.plain (fun p e m below c T t hx hc ha hr => XT.ladd ha hx rfl (hb hc hd) rfl (by subst hv; exact hr)) g
theorem Seg.lsub {x z v : Int64} (hd : decode bytes pc = .ok (.lsub, 1)) (hv : x - z = v) (hp : pc + 1 = pc') (g : Seg l Z a0 EL y bytes maxL ret rm Q h k n sf pc' L (.long v :: S)) : Seg l Z a0 EL y bytes maxL ret rm Q h k n sf pc L (.long z :: .long x :: S) := by
  subst hp
  exact Seg.plain (fun p e m below c T t hx hc ha hr => XT.lsub ha hx rfl (hb hc hd) rfl (by subst hv; exact hr)) g
theorem Seg.lmul {x z v : Int64} (hd : decode bytes pc = .ok (.lmul, 1)) (hv : x * z = v) (hp : pc + 1 = pc') (g : Seg l Z a0 EL y bytes maxL ret rm Q h k n sf pc' L (.long v :: S)) : Seg l Z a0 EL y bytes maxL ret rm Q h k n sf pc L (.long z :: .long x :: S) := by
  subst hp
  exact Seg.plain (fun p e m below c T t hx hc ha hr => XT.lmul ha hx rfl (hb hc hd) rfl (by subst hv; exact hr)) g
theorem Seg.land {x z v : Int64} (hd : decode bytes pc = .ok (.land, 1)) (hv : x &&& z = v) (hp : pc + 1 = pc') (g : Seg l Z a0 EL y bytes maxL ret rm Q h k n sf pc' L (.long v :: S)) : Seg l Z a0 EL y bytes maxL ret rm Q h k n sf pc L (.long z :: .long x :: S) := by
  subst hp
  exact Seg.plain (fun p e m below c T t hx hc ha hr => XT.land ha hx rfl (hb hc hd) rfl (by subst hv; exact hr)) g
theorem Seg.lushr {x v : Int64} {z : Int32} (hd : decode bytes pc = .ok (.lushr, 1)) (hv : XT.ushrL x z = v) (hp : pc + 1 = pc') (g : Seg l Z a0 EL y bytes maxL ret rm Q h k n sf pc' L (.long v :: S)) : Seg l Z a0 EL y bytes maxL ret rm Q h k n sf pc L (.int z :: .long x :: S) := by
  subst hp
  exact Seg.plain (fun p e m below c T t hx hc ha hr => XT.lushr ha hx rfl (hb hc hd) rfl (by subst hv; exact hr)) g
theorem Seg.lrem {x z v : Int64} (hd : decode bytes pc = .ok (.lrem, 1)) (hz : z ≠ 0) (hv : x - (x / z) * z = v) (hp : pc + 1 = pc') (g : Seg l Z a0 EL y bytes maxL ret rm Q h k n sf pc' L (.long v :: S)) : Seg l Z a0 EL y bytes maxL ret rm Q h k n sf pc L (.long z :: .long x :: S) := by
  subst hp
  exact Seg.plain (fun p e m below c T t hx hc ha hr => XT.lrem ha hx rfl (hb hc hd) rfl hz (by subst hv; exact hr)) g
theorem Seg.i2l {x : Int32} {v : Int64} (hd : decode bytes pc = .ok (.i2l, 1)) (hv : x.toInt64 = v) (hp : pc + 1 = pc') (g : Seg l Z a0 EL y bytes maxL ret rm Q h k n sf pc' L (.long v :: S)) : Seg l Z a0 EL y bytes maxL ret rm Q h k n sf pc L (.int x :: S) := by
  subst hp
  exact Seg.plain (fun p e m below c T t hx hc ha hr => XT.i2l ha hx rfl (hb hc hd) rfl (by subst hv; exact hr)) g
theorem Seg.l2i {x : Int64} {v : Int32} (hd : decode bytes pc = .ok (.l2i, 1)) (hv : x.toInt32 = v) (hp : pc + 1 = pc') (g : Seg l Z a0 EL y bytes maxL ret rm Q h k n sf pc' L (.int v :: S)) : Seg l Z a0 EL y bytes maxL ret rm Q h k n sf pc L (.long x :: S) := by
  subst hp
  exact Seg.plain (fun p e m below c T t hx hc ha hr => XT.l2i ha hx rfl (hb hc hd) rfl (by subst hv; exact hr)) g
theorem Seg.i2b {x : Int32} {v : Int32} (hd : decode bytes pc = .ok (.i2b, 1)) (hv : x.toInt8.toInt32 = v) (hp : pc + 1 = pc') (g : Seg l Z a0 EL y bytes maxL ret rm Q h k n sf pc' L (.int v :: S)) : Seg l Z a0 EL y bytes maxL ret rm Q h k n sf pc L (.int x :: S) := by
  subst hp
  exact Seg.plain (fun p e m below c T t hx hc ha hr => XT.i2b ha hx rfl (hb hc hd) rfl (by subst hv; exact hr)) g
theorem Seg.i2c {x : Int32} {v : Int32} (hd : decode bytes pc = .ok (.i2c, 1)) (hv : x.toUInt32.toUInt16.toUInt32.toInt32 = v) (hp : pc + 1 = pc') (g : Seg l Z a0 EL y bytes maxL ret rm Q h k n sf pc' L (.int v :: S)) : Seg l Z a0 EL y bytes maxL ret rm Q h k n sf pc L (.int x :: S) := by
  subst hp
  exact Seg.plain (fun p e m below c T t hx hc ha hr => XT.i2c ha hx rfl (hb hc hd) rfl (by subst hv; exact hr)) g
theorem Seg.irem {x z v : Int32} (hd : decode bytes pc = .ok (.irem, 1)) (hz : z ≠ 0) (hv : x % z = v) (hp : pc + 1 = pc') (g : Seg l Z a0 EL y bytes maxL ret rm Q h k n sf pc' L (.int v :: S)) : Seg l Z a0 EL y bytes maxL ret rm Q h k n sf pc L (.int z :: .int x :: S) := by
  subst hp
  exact Seg.plain (fun p e m below c T t hx hc ha hr => XS.irem ha hx rfl (hb hc hd) rfl hz (by subst hv; rw [irem_eq_mod]; exact hr)) g
theorem Seg.lcmp {x z : Int64} {v : Int32} (hd : decode bytes pc = .ok (.lcmp, 1)) (hv : lcmpW x z = v) (hp : pc + 1 = pc') (g : Seg l Z a0 EL y bytes maxL ret rm Q h k n sf pc' L (.int v :: S)) : Seg l Z a0 EL y bytes maxL ret rm Q h k n sf pc L (.long z :: .long x :: S) := by
  subst hp
  exact Seg.plain (fun p e m below c T t hx hc ha hr => XT.lcmp ha hx rfl (hb hc hd) rfl (by subst hv; exact hr)) g
theorem Seg.dup {v : Value} (hd : decode bytes pc = .ok (.dup, 1)) (hv : v.category = 1) (hp : pc + 1 = pc') (g : Seg l Z a0 EL y bytes maxL ret rm Q h k n sf pc' L (v :: v :: S)) : Seg l Z a0 EL y bytes maxL ret rm Q h k n sf pc L (v :: S) := by
  subst hp
  exact Seg.plain (fun p e m below c T t hx hc ha hr => XS.dup ha hx rfl (hb hc hd) rfl hv hr) g
theorem Seg.dupX1 {v w : Value} (hd : decode bytes pc = .ok (.dup_x1, 1)) (hv : v.category = 1) (hw : w.category = 1) (hp : pc + 1 = pc') (g : Seg l Z a0 EL y bytes maxL ret rm Q h k n sf pc' L (v :: w :: v :: S)) : Seg l Z a0 EL y bytes maxL ret rm Q h k n sf pc L (v :: w :: S) := by
  subst hp
  exact Seg.plain (fun p e m below c T t hx hc ha hr => XT.dupX1 ha hx rfl (hb hc hd) rfl hv hw hr) g
theorem Seg.pop {v : Value} (hd : decode bytes pc = .ok (.pop, 1)) (hv : v.category = 1) (hp : pc + 1 = pc') (g : Seg l Z a0 EL y bytes maxL ret rm Q h k n sf pc' L S) : Seg l Z a0 EL y bytes maxL ret rm Q h k n sf pc L (v :: S) := by
  subst hp
  exact Seg.plain (fun p e m below c T t hx hc ha hr => XT.pop ha hx rfl (hb hc hd) rfl hv hr) g
theorem Seg.iinc {i : Nat} {d : Int} {x v : Int32} {L' : Array Slot} (hd : decode bytes pc = .ok (.iinc i d, 3)) (hv : Int32.ofInt d = v) (hl : L[i]? = some (.val (.int x))) {z : Int32} (hz : x + v = z) (hl' : storeLocals L i (.int z) = some L') (hp : pc + 3 = pc') (g : Seg l Z a0 EL y bytes maxL ret rm Q h k n sf pc' L' S) : Seg l Z a0 EL y bytes maxL ret rm Q h k n sf pc L S := by
  subst hp
  exact Seg.plain (fun p e m below c T t hx hc ha hr => XT.iincV ha hx rfl v (hb hc hd) hv hl (by rw [hz]; exact hl') hr) g
theorem Seg.goto {o : Int} (hd : decode bytes pc = .ok (.goto o, 3))  (ho : 0 ≤ (pc : Int) + o) (hp : ((pc : Int) + o).toNat = pc') (g : Seg l Z a0 EL y bytes maxL ret rm Q h k n sf pc' L S) : Seg l Z a0 EL y bytes maxL ret rm Q h k n sf pc L S := by
  subst hp
  exact Seg.plain (fun p e m below c T t hx hc ha hr => XS.goto ha hx rfl rfl (hb hc hd) ho rfl hr) g
theorem Seg.ifY {cd : ClassFile.Cond} {o : Int} {x : Int32} (hd : decode bytes pc = .ok (.ifCond cd o, 3)) (hc' : ifCond.holds cd x = true) (ho : 0 ≤ (pc : Int) + o) (hp : ((pc : Int) + o).toNat = pc') (g : Seg l Z a0 EL y bytes maxL ret rm Q h k n sf pc' L S) : Seg l Z a0 EL y bytes maxL ret rm Q h k n sf pc L (.int x :: S) := by
  subst hp
  exact Seg.plain (fun p e m below c T t hx hc ha hr => XS.ifYes ha hx rfl rfl (hb hc hd) rfl hc' ho rfl hr) g
theorem Seg.ifN {cd : ClassFile.Cond} {o : Int} {x : Int32} (hd : decode bytes pc = .ok (.ifCond cd o, 3)) (hc' : ifCond.holds cd x = false) (hp : pc + 3 = pc') (g : Seg l Z a0 EL y bytes maxL ret rm Q h k n sf pc' L S) : Seg l Z a0 EL y bytes maxL ret rm Q h k n sf pc L (.int x :: S) := by
  subst hp
  exact Seg.plain (fun p e m below c T t hx hc ha hr => XS.ifNo ha hx rfl (hb hc hd) rfl hc' hr) g
theorem Seg.icY {cd : ClassFile.Cond} {o : Int} {x z : Int32} (hd : decode bytes pc = .ok (.if_icmp cd o, 3)) (hc' : if_icmp.holds cd x z = true) (ho : 0 ≤ (pc : Int) + o) (hp : ((pc : Int) + o).toNat = pc') (g : Seg l Z a0 EL y bytes maxL ret rm Q h k n sf pc' L S) : Seg l Z a0 EL y bytes maxL ret rm Q h k n sf pc L (.int z :: .int x :: S) := by
  subst hp
  exact Seg.plain (fun p e m below c T t hx hc ha hr => XS.icmpYes ha hx rfl rfl (hb hc hd) rfl hc' ho rfl hr) g
theorem Seg.icN {cd : ClassFile.Cond} {o : Int} {x z : Int32} (hd : decode bytes pc = .ok (.if_icmp cd o, 3)) (hc' : if_icmp.holds cd x z = false) (hp : pc + 3 = pc') (g : Seg l Z a0 EL y bytes maxL ret rm Q h k n sf pc' L S) : Seg l Z a0 EL y bytes maxL ret rm Q h k n sf pc L (.int z :: .int x :: S) := by
  subst hp
  exact Seg.plain (fun p e m below c T t hx hc ha hr => XS.icmpNo ha hx rfl (hb hc hd) rfl hc' hr) g
theorem Seg.nullY {o : Int} (hd : decode bytes pc = .ok (.ifnull o, 3))  (ho : 0 ≤ (pc : Int) + o) (hp : ((pc : Int) + o).toNat = pc') (g : Seg l Z a0 EL y bytes maxL ret rm Q h k n sf pc' L S) : Seg l Z a0 EL y bytes maxL ret rm Q h k n sf pc L (.null :: S) := by
  subst hp
  exact Seg.plain (fun p e m below c T t hx hc ha hr => XS.ifnullYes ha hx rfl rfl (hb hc hd) rfl ho rfl hr) g
theorem Seg.nullN {o : Int} {a : Addr} (hd : decode bytes pc = .ok (.ifnull o, 3))  (hp : pc + 3 = pc') (g : Seg l Z a0 EL y bytes maxL ret rm Q h k n sf pc' L S) : Seg l Z a0 EL y bytes maxL ret rm Q h k n sf pc L (.ref a :: S) := by
  subst hp
  exact Seg.plain (fun p e m below c T t hx hc ha hr => XS.ifnullNo ha hx rfl (hb hc hd) rfl hr) g
theorem Seg.nonnY {o : Int} {a : Addr} (hd : decode bytes pc = .ok (.ifnonnull o, 3))  (ho : 0 ≤ (pc : Int) + o) (hp : ((pc : Int) + o).toNat = pc') (g : Seg l Z a0 EL y bytes maxL ret rm Q h k n sf pc' L S) : Seg l Z a0 EL y bytes maxL ret rm Q h k n sf pc L (.ref a :: S) := by
  subst hp
  exact Seg.plain (fun p e m below c T t hx hc ha hr => XT.ifnonnullYes ha hx rfl rfl (hb hc hd) rfl ho rfl hr) g
theorem Seg.nonnN {o : Int} (hd : decode bytes pc = .ok (.ifnonnull o, 3))  (hp : pc + 3 = pc') (g : Seg l Z a0 EL y bytes maxL ret rm Q h k n sf pc' L S) : Seg l Z a0 EL y bytes maxL ret rm Q h k n sf pc L (.null :: S) := by
  subst hp
  exact Seg.plain (fun p e m below c T t hx hc ha hr => XT.ifnonnullNo ha hx rfl (hb hc hd) rfl hr) g
theorem Seg.acY {cd : ClassFile.ACond} {o : Int} {x z : Value} (hd : decode bytes pc = .ok (.if_acmp cd o, 3)) (hx' : x.isRef = true) (hz' : z.isRef = true) (hc' : XT.acmp cd x z = true) (ho : 0 ≤ (pc : Int) + o) (hp : ((pc : Int) + o).toNat = pc') (g : Seg l Z a0 EL y bytes maxL ret rm Q h k n sf pc' L S) : Seg l Z a0 EL y bytes maxL ret rm Q h k n sf pc L (z :: x :: S) := by
  subst hp
  exact Seg.plain (fun p e m below c T t hx hc ha hr => XT.acmpYes ha hx rfl rfl (hb hc hd) rfl hx' hz' hc' ho rfl hr) g
theorem Seg.acN {cd : ClassFile.ACond} {o : Int} {x z : Value} (hd : decode bytes pc = .ok (.if_acmp cd o, 3)) (hx' : x.isRef = true) (hz' : z.isRef = true) (hc' : XT.acmp cd x z = false) (hp : pc + 3 = pc') (g : Seg l Z a0 EL y bytes maxL ret rm Q h k n sf pc' L S) : Seg l Z a0 EL y bytes maxL ret rm Q h k n sf pc L (z :: x :: S) := by
  subst hp
  exact Seg.plain (fun p e m below c T t hx hc ha hr => XT.acmpNo ha hx rfl (hb hc hd) rfl hx' hz' hc' hr) g
end Plain
section Heap
variable {l : Launch} {Z : State} {a0 : Array Value} {EL : List (String × Nat)} {y : MethodName} {bytes : ByteArray} {maxL : Nat} {ret : Option FieldType} {rm : Room} {Q : Option Value → Heap → Prop} {h : Heap} {k n : Nat} {sf : List Addr} {pc pc' : Nat} {L : Array Slot} {S : List Value}
variable {p : Program} {e : Env} {R : Room} {s : State} {m : MethodId} {args : Array Value} {below : List Frame} {meth : Method} {c : Code} {T : State} {own : String}
theorem Seg.newO {C : String} {idx sz : Nat} (w : (Cond.classLink y.cls idx C).before a0 Z = true) (wi : (Cond.instantiable C sz).before a0 Z = true) (wz : (Cond.initialized C).before a0 Z = true) (hd : decode bytes pc = .ok (.new idx, 3)) (hp : pc + 3 = pc') {k' n' : Nat} (hk : k + 1 = k') (hn : n + sz = n') (hk2 : k' ≤ rm.cells) (hn2 : n' ≤ rm.slots)
    (g : ∀ (x : Addr) (h' : Heap), Ext h h' → h.size = x → x < h'.size → Exa Z h' x C → (∀ {O nm d : String} {ty : FieldType}, Laid Z a0 C O nm d → parseFieldDescriptor d = some ty → Fld Z h' x O nm d (defaultValue ty)) → Seg l Z a0 EL y bytes maxL ret rm Q h' k' n' (x :: sf) pc' L (.ref x :: S)) :
    Seg l Z a0 EL y bytes maxL ret rm Q h k n sf pc L S := by
  subst hp hk hn
  intro p e s m args below meth c T C' w'
  obtain ⟨vm0, locs, k0, X, r1, r2, r3, r4, r5, r6, r7, r8, r9, r10⟩ := w'
  obtain ⟨T', h', X', e', E, A, D, -, st⟩ := RoadKit.newO X C'.1 r4 r5 w wi wz r1 (g := mkF m pc L S) rfl (hb C'.2.1 hd) hk2 hn2
  refine Gl.st st (g _ h' E rfl A.lt A D p e s m args below meth c T' C' ⟨vm0, locs, k0, X', e', r2, Nat.le_trans r3 E.1, r4, r5, r6.trans (CHr.ext E r6.1), r7, ext_tr r8 E, r9, ?_⟩)
  exact (r10.chr (CHr.ext E r6.1)).cons r8.1 A.lt ((Safe.new (Nat.le_refl _)).ext E r6.1)
theorem Seg.newP {aty : ArrayType} {ty : FieldType} {dv : Value} {z : Int32} (hty : newarray.typeOf aty = ty) (hdv : defaultValue ty = dv) (w : (Cond.arrayClass ty).before a0 Z = true) (hd : decode bytes pc = .ok (.newarray aty, 2)) (hp : pc + 2 = pc') (hz : ¬ z < 0) {cap : Nat} (hcap : z.toNatClampNeg ≤ cap) (hb8 : cap * 8 ≤ 536870912) {k' n' : Nat} (hk : k + 1 = k') (hn : n + cap = n') (hk2 : k' ≤ rm.cells) (hn2 : n' ≤ rm.slots)
    (g : ∀ (x : Addr) (h' : Heap) (kc : ClassId), Ext h h' → h.size = x → x < h'.size → Arv Z h' x kc ty z [] dv → Seg l Z a0 EL y bytes maxL ret rm Q h' k' n' (x :: sf) pc' L (.ref x :: S)) :
    Seg l Z a0 EL y bytes maxL ret rm Q h k n sf pc L (.int z :: S) := by
  subst hp hk hn hty hdv
  intro p e s m args below meth c T C' w'
  obtain ⟨vm0, locs, k0, X, r1, r2, r3, r4, r5, r6, r7, r8, r9, r10⟩ := w'
  obtain ⟨T', h', cA, X', e', E, A, st⟩ := RoadKit.newP X C'.1 r4 w r1 (g := mkF m pc L (.int z :: S)) rfl (hb C'.2.1 hd) rfl hz hcap hb8 hk2 hn2
  have V := Arv.new A hz
  refine Gl.st st (g _ h' cA E rfl A.lt V p e s m args below meth c T' C' ⟨vm0, locs, k0, X', e', r2, Nat.le_trans r3 E.1, r4, r5, r6.trans (CHr.ext E r6.1), r7, ext_tr r8 E, r9, ?_⟩)
  exact (r10.chr (CHr.ext E r6.1)).cons r8.1 A.lt ((Safe.new (Nat.le_refl _)).ext E r6.1)
theorem Seg.getF {R0 O nm d host : String} {idx : Nat} {a : Addr} {v : Value} (w : (Cond.fieldLink y.cls idx R0 nm d).before a0 Z = true ∨ (Cond.fieldLinkNest y.cls idx R0 nm d host).before a0 Z = true) (via : Via Z R0 O nm d) (F : Fld Z h a O nm d v) (hd : decode bytes pc = .ok (.getfield idx, 3)) (hp : pc + 3 = pc')
    (g : Seg l Z a0 EL y bytes maxL ret rm Q h k n sf pc' L (v :: S)) : Seg l Z a0 EL y bytes maxL ret rm Q h k n sf pc L (.ref a :: S) := by
  subst hp
  intro p e s m args below meth c T C' w'
  obtain ⟨vm0, locs, k0, X, r1, r2, r3, r4, r5, r⟩ := w'
  obtain ⟨T', X', e', st⟩ := RoadKit.getF X C'.1 r4 r5 w via r1 F (g := mkF m pc L (.ref a :: S)) rfl rfl (hb C'.2.1 hd)
  exact Gl.st st (g p e s m args below meth c T' C' ⟨vm0, locs, k0, X', e', r2, r3, r4, r5, r⟩)
theorem Seg.getS {R0 O nm d : String} {idx : Nat} {v : Value} (w : (Cond.fieldLink y.cls idx R0 nm d).before a0 Z = true) (via : Via Z R0 O nm d) (F : Sta Z Z.heap O nm d v) (hd : decode bytes pc = .ok (.getstatic idx, 3)) (hp : pc + 3 = pc')
    (g : Seg l Z a0 EL y bytes maxL ret rm Q h k n sf pc' L (v :: S)) : Seg l Z a0 EL y bytes maxL ret rm Q h k n sf pc L S := by
  subst hp
  intro p e s m args below meth c T C' w'
  obtain ⟨vm0, locs, k0, X, r1, r2, r3, r4, r5, r6, r7, r8, r⟩ := w'
  obtain ⟨T', X', e', st⟩ := RoadKit.getS X C'.1 r4 (host := "") r5 w via r1 (F.ext r8) (g := mkF m pc L S) rfl (hb C'.2.1 hd)
  exact Gl.st st (g p e s m args below meth c T' C' ⟨vm0, locs, k0, X', e', r2, r3, r4, r5, r6, r7, r8, r⟩)
theorem Seg.castY {K : String} {idx : Nat} {a : Addr} (w : (Cond.classLink y.cls idx K).before a0 Z = true) (F : Ins Z h a K true) (hd : decode bytes pc = .ok (.checkcast idx, 3)) (hp : pc + 3 = pc')
    (g : Seg l Z a0 EL y bytes maxL ret rm Q h k n sf pc' L (.ref a :: S)) : Seg l Z a0 EL y bytes maxL ret rm Q h k n sf pc L (.ref a :: S) := by
  subst hp
  intro p e s m args below meth c T C' w'
  obtain ⟨vm0, locs, k0, X, r1, r2, r3, r4, r5, r⟩ := w'
  obtain ⟨T', X', e', st⟩ := RoadKit.castY X C'.1 r4 r5 w r1 F (g := mkF m pc L (.ref a :: S)) rfl rfl (hb C'.2.1 hd)
  exact Gl.st st (g p e s m args below meth c T' C' ⟨vm0, locs, k0, X', e', r2, r3, r4, r5, r⟩)
theorem Seg.castNull {idx : Nat} (hd : decode bytes pc = .ok (.checkcast idx, 3)) (hp : pc + 3 = pc')
    (g : Seg l Z a0 EL y bytes maxL ret rm Q h k n sf pc' L (.null :: S)) : Seg l Z a0 EL y bytes maxL ret rm Q h k n sf pc L (.null :: S) := by
  subst hp
  intro p e s m args below meth c T C' w'
  obtain ⟨vm0, locs, k0, X, r⟩ := w'
  exact Gl.st (X.checkcastNull C'.1 (g := mkF m pc L (.null :: S)) rfl rfl (hb C'.2.1 hd)) (g p e s m args below meth c T C' ⟨vm0, locs, k0, X, r⟩)
theorem Seg.instNull {idx : Nat} (hd : decode bytes pc = .ok (.instanceof idx, 3)) (hp : pc + 3 = pc')
    (g : Seg l Z a0 EL y bytes maxL ret rm Q h k n sf pc' L (.int 0 :: S)) : Seg l Z a0 EL y bytes maxL ret rm Q h k n sf pc L (.null :: S) := by
  subst hp
  intro p e s m args below meth c T C' w'
  obtain ⟨vm0, locs, k0, X, r⟩ := w'
  exact Gl.st (X.instanceofNull C'.1 (g := mkF m pc L (.null :: S)) rfl rfl (hb C'.2.1 hd)) (g p e s m args below meth c T C' ⟨vm0, locs, k0, X, r⟩)
theorem Seg.instY {K : String} {idx : Nat} {a : Addr} (w : (Cond.classLink y.cls idx K).before a0 Z = true) (F : Ins Z h a K true) (hd : decode bytes pc = .ok (.instanceof idx, 3)) (hp : pc + 3 = pc')
    (g : Seg l Z a0 EL y bytes maxL ret rm Q h k n sf pc' L (.int 1 :: S)) : Seg l Z a0 EL y bytes maxL ret rm Q h k n sf pc L (.ref a :: S) := by
  subst hp
  intro p e s m args below meth c T C' w'
  obtain ⟨vm0, locs, k0, X, r1, r2, r3, r4, r5, r⟩ := w'
  obtain ⟨T', X', e', st⟩ := RoadKit.instY X C'.1 r4 r5 w r1 F (g := mkF m pc L (.ref a :: S)) rfl rfl (hb C'.2.1 hd)
  exact Gl.st st (g p e s m args below meth c T' C' ⟨vm0, locs, k0, X', e', r2, r3, r4, r5, r⟩)
theorem Seg.instNo {K C : String} {idx : Nat} {a : Addr} (w : (Cond.classLink y.cls idx K).before a0 Z = true) (E : Exa Z h a C) (F : ∃ c t, Z.vm.findClass C = some c ∧ Z.vm.findClass K = some t ∧ Z.vm.assignable c t = false) (hd : decode bytes pc = .ok (.instanceof idx, 3)) (hp : pc + 3 = pc')
    (g : Seg l Z a0 EL y bytes maxL ret rm Q h k n sf pc' L (.int 0 :: S)) : Seg l Z a0 EL y bytes maxL ret rm Q h k n sf pc L (.ref a :: S) := by
  subst hp
  intro p e s m args below meth c T C' w'
  obtain ⟨vm0, locs, k0, X, r1, r2, r3, r4, r5, r⟩ := w'
  obtain ⟨T', X', e', st⟩ := RoadKit.instNo X C'.1 r4 r5 w r1 E F (g := mkF m pc L (.ref a :: S)) rfl rfl (hb C'.2.1 hd)
  exact Gl.st st (g p e s m args below meth c T' C' ⟨vm0, locs, k0, X', e', r2, r3, r4, r5, r⟩)
theorem Seg.initO {idx : Nat} {a : Addr} (w1 : (Cond.methodLink y.cls idx Lib.objectInit).before a0 Z = true) (w2 : (Cond.instanceMethod Lib.objectInit).before a0 Z = true) (w3 : (Cond.code Lib.objectInit ⟨#[0xb1]⟩ 1 none).before a0 Z = true) (hsz : L.size = maxL) (hd : decode bytes pc = .ok (.invokespecial idx, 3)) (hp : pc + 3 = pc') (hf : 1 ≤ rm.frames) {W : Nat} (hW : (S.map fun v => v.category).sum ≤ W) (hl : W + 12 ≤ rm.locals)
    (g : Seg l Z a0 EL y bytes maxL ret rm Q h k n sf pc' L S) : Seg l Z a0 EL y bytes maxL ret rm Q h k n sf pc L (.ref a :: S) := by
  subst hp
  intro p e s m args below meth c T C' w'
  obtain ⟨vm0, locs, k0, X, r1, r2, r3, r4, r5, r⟩ := w'
  obtain ⟨T', X', e', st⟩ := RoadKit.initO X C'.1 r4 r5 w1 w2 w3 r1 (g := mkF m pc L (.ref a :: S)) rfl (hsz.trans C'.2.2.1.symm) rfl (hb C'.2.1 hd) hf (W := W) (by show 2 * 0 + _ ≤ _; omega) hl
  exact Gl.st st (g p e s m args below meth c T' C' ⟨vm0, locs, k0, X', e', r2, r3, r4, r5, r⟩)
theorem wkWr {h' : Heap} {a : Addr} {sl : Nat} {v : Value} {T' : State} {vm0 : Vm} {locs : List Loc} {k0 : Nat} (W : Wr h h' a sl v) (hsf : a ∈ sf) (X' : Stand p l e R (s.setVm vm0) m args below meth c T' (locs ++ [⟨a, sl⟩]) k n) (e' : T'.heap = h')
    (r : s.Since vm0 k0 ∧ k0 ≤ h.size ∧ Z.Warmed39 vm0 ∧ vm0.findClass own = some m.cls ∧ CHr Z EL s.vm s.heap vm0 h ∧ Fr Z.heap.size locs ∧ Ext Z.heap h ∧ EW Z a0 EL ∧ SfOk Z EL vm0 h sf) : Wk p l e R s m args below meth c Z a0 EL own sf k n T' h' := by
  obtain ⟨r2, r3, r4, r5, r6, r7, r8, r9, r10⟩ := r
  obtain ⟨q1, q2, q3⟩ := r10 a hsf
  have A := CHr.wr W q3 r6.1
  exact ⟨vm0, _, k0, X', e', r2, Nat.le_trans r3 A.2.1, r4, r5, r6.trans A, Fr.snoc X' r7 q1, ext_wr r8 W q1, r9, r10.chr A⟩
theorem Seg.putF {R0 O nm d host C : String} {idx kk : Nat} {ty : FieldType} {a : Addr} {v v' old : Value} (w : (Cond.fieldLink y.cls idx R0 nm d).before a0 Z = true) (via : Via Z R0 O nm d) (F : Fld Z h a O nm d old) (E : Exa Z h a C) (Lw : (Cond.lays C O nm d).before a0 Z = true ∨ ((Cond.laysFinal C O nm d).before a0 Z = true ∧ y.cls = O ∧ y.name = "<init>")) (wi : (Cond.instantiable C kk).before a0 Z = true)
    (hty : parseFieldDescriptor d = some ty) (hnw : narrow ty v = v') (hf : fits ty v' = true) (hsf : a ∈ sf) (hd : decode bytes pc = .ok (.putfield idx, 3)) (hp : pc + 3 = pc')
    (g : ∀ h', Wr h h' a (RoadKit.slotOf Z O nm d) v' → Fld Z h' a O nm d v' → Seg l Z a0 EL y bytes maxL ret rm Q h' k n sf pc' L S) : Seg l Z a0 EL y bytes maxL ret rm Q h k n sf pc L (v :: .ref a :: S) := by
  subst hp
  intro p e s m args below meth c T C' w'
  obtain ⟨vm0, locs, k0, X, r1, r2, r3, r4, r5, r⟩ := w'
  obtain ⟨T', h', X', e', W, st⟩ := RoadKit.putFN X C'.1 r4 r5 w via r1 F E (Lw.imp id fun q => ⟨q.1, q.2.1, C'.2.2.2.2.2.trans q.2.2⟩) wi hty hnw hf (g := mkF m pc L (v :: .ref a :: S)) rfl rfl (hb C'.2.1 hd)
  exact Gl.st st (g h' W (F.same W) p e s m args below meth c T' C' (wkWr W hsf X' e' ⟨r2, r3, r4, r5, r⟩))
theorem Seg.castore {a : Addr} {kc : ClassId} {z j v v' : Int32} {vs : List Value} {dv : Value} {i : Nat} (F : Arv Z h a kc .char z vs dv) (hj : ¬ j < 0 ∧ j < z) (hi : j.toNatClampNeg = i) (hil : i < vs.length) (hv : nar .char v = v') (hsf : a ∈ sf) (hd : decode bytes pc = .ok (.castore, 1)) (hp : pc + 1 = pc')
    (g : ∀ h', Wr h h' a i (.int v') → Arv Z h' a kc .char z (vs.set i (.int v')) dv → Seg l Z a0 EL y bytes maxL ret rm Q h' k n sf pc' L S) : Seg l Z a0 EL y bytes maxL ret rm Q h k n sf pc L (.int v :: .int j :: .ref a :: S) := by
  subst hp hv hi
  intro p e s m args below meth c T C' w'
  obtain ⟨vm0, locs, k0, X, r1, r2, r3, r4, r5, r⟩ := w'
  obtain ⟨cl, A, q, Sz, N, H, G⟩ := F
  obtain ⟨T', h', X', e', W, st⟩ := RoadKit.stC X C'.1 r4 r1 A (inb_of Sz hj) (g := mkF m pc L (.int v :: .int j :: .ref a :: S)) rfl rfl (hb C'.2.1 hd)
  exact Gl.st st (g h' W (Arv.set A q Sz N H G (fits_nar_char _) W _ rfl hil) p e s m args below meth c T' C' (wkWr W hsf X' e' ⟨r2, r3, r4, r5, r⟩))
theorem Seg.bastore {a : Addr} {kc : ClassId} {z j v v' : Int32} {vs : List Value} {dv : Value} {i : Nat} (F : Arv Z h a kc .byte z vs dv) (hj : ¬ j < 0 ∧ j < z) (hi : j.toNatClampNeg = i) (hil : i < vs.length) (hv : nar .byte v = v') (hsf : a ∈ sf) (hd : decode bytes pc = .ok (.bastore, 1)) (hp : pc + 1 = pc')
    (g : ∀ h', Wr h h' a i (.int v') → Arv Z h' a kc .byte z (vs.set i (.int v')) dv → Seg l Z a0 EL y bytes maxL ret rm Q h' k n sf pc' L S) : Seg l Z a0 EL y bytes maxL ret rm Q h k n sf pc L (.int v :: .int j :: .ref a :: S) := by
  subst hp hv hi
  intro p e s m args below meth c T C' w'
  obtain ⟨vm0, locs, k0, X, r1, r2, r3, r4, r5, r⟩ := w'
  obtain ⟨cl, A, q, Sz, N, H, G⟩ := F
  obtain ⟨T', h', X', e', W, st⟩ := RoadKit.stB X C'.1 r4 r1 A (inb_of Sz hj) (g := mkF m pc L (.int v :: .int j :: .ref a :: S)) rfl rfl (hb C'.2.1 hd)
  exact Gl.st st (g h' W (Arv.set A q Sz N H G (fits_nar_byte _) W _ rfl hil) p e s m args below meth c T' C' (wkWr W hsf X' e' ⟨r2, r3, r4, r5, r⟩))
theorem Seg.iastore {a : Addr} {kc : ClassId} {z j v : Int32} {vs : List Value} {dv : Value} {i : Nat} (F : Arv Z h a kc .int z vs dv) (hj : ¬ j < 0 ∧ j < z) (hi : j.toNatClampNeg = i) (hil : i < vs.length) (hsf : a ∈ sf) (hd : decode bytes pc = .ok (.iastore, 1)) (hp : pc + 1 = pc')
    (g : ∀ h', Wr h h' a i (.int v) → Arv Z h' a kc .int z (vs.set i (.int v)) dv → Seg l Z a0 EL y bytes maxL ret rm Q h' k n sf pc' L S) : Seg l Z a0 EL y bytes maxL ret rm Q h k n sf pc L (.int v :: .int j :: .ref a :: S) := by
  subst hp hi
  intro p e s m args below meth c T C' w'
  obtain ⟨vm0, locs, k0, X, r1, r2, r3, r4, r5, r⟩ := w'
  obtain ⟨cl, A, q, Sz, N, H, G⟩ := F
  obtain ⟨T', h', X', e', W, st⟩ := RoadKit.stI X C'.1 r4 r1 A (inb_of Sz hj) (g := mkF m pc L (.int v :: .int j :: .ref a :: S)) rfl rfl (hb C'.2.1 hd)
  exact Gl.st st (g h' W (Arv.set A q Sz N H G rfl W _ rfl hil) p e s m args below meth c T' C' (wkWr W hsf X' e' ⟨r2, r3, r4, r5, r⟩))
theorem Seg.caload {a : Addr} {kc : ClassId} {z j : Int32} {vs : List Value} {dv v : Value} (F : Arv Z h a kc .char z vs dv) (hj : ¬ j < 0 ∧ j < z) (hv : vs.getD j.toNatClampNeg dv = v) (hd : decode bytes pc = .ok (.caload, 1)) (hp : pc + 1 = pc')
    (g : Seg l Z a0 EL y bytes maxL ret rm Q h k n sf pc' L (v :: S)) : Seg l Z a0 EL y bytes maxL ret rm Q h k n sf pc L (.int j :: .ref a :: S) := by
  subst hp
  intro p e s m args below meth c T C' w'
  obtain ⟨vm0, locs, k0, X, r1, r2, r3, r4, r⟩ := w'
  obtain ⟨cl, A, q, Sz, N, H, G⟩ := F
  exact Gl.st (X.caload C'.1 (by rw [r1]; exact A.1) (State.isArrayOf_alike r4.alike A.2.1) A.2.2 (inb_of Sz hj) (H.at (inb_of Sz hj) hv) (g := mkF m pc L (.int j :: .ref a :: S)) rfl rfl (hb C'.2.1 hd)) (g p e s m args below meth c T C' ⟨vm0, locs, k0, X, r1, r2, r3, r4, r⟩)
theorem Seg.baload {a : Addr} {kc : ClassId} {z j : Int32} {vs : List Value} {dv v : Value} (F : Arv Z h a kc .byte z vs dv) (hj : ¬ j < 0 ∧ j < z) (hv : vs.getD j.toNatClampNeg dv = v) (hd : decode bytes pc = .ok (.baload, 1)) (hp : pc + 1 = pc')
    (g : Seg l Z a0 EL y bytes maxL ret rm Q h k n sf pc' L (v :: S)) : Seg l Z a0 EL y bytes maxL ret rm Q h k n sf pc L (.int j :: .ref a :: S) := by
  subst hp
  intro p e s m args below meth c T C' w'
  obtain ⟨vm0, locs, k0, X, r1, r2, r3, r4, r⟩ := w'
  obtain ⟨cl, A, q, Sz, N, H, G⟩ := F
  exact Gl.st (X.baloadBytes C'.1 (by rw [r1]; exact A.1) (State.isArrayOf_alike r4.alike A.2.1) A.2.2 (inb_of Sz hj) (H.at (inb_of Sz hj) hv) (g := mkF m pc L (.int j :: .ref a :: S)) rfl rfl (hb C'.2.1 hd)) (g p e s m args below meth c T C' ⟨vm0, locs, k0, X, r1, r2, r3, r4, r⟩)
theorem Seg.iaload {a : Addr} {kc : ClassId} {z j : Int32} {vs : List Value} {dv v : Value} (F : Arv Z h a kc .int z vs dv) (hj : ¬ j < 0 ∧ j < z) (hv : vs.getD j.toNatClampNeg dv = v) (hd : decode bytes pc = .ok (.iaload, 1)) (hp : pc + 1 = pc')
    (g : Seg l Z a0 EL y bytes maxL ret rm Q h k n sf pc' L (v :: S)) : Seg l Z a0 EL y bytes maxL ret rm Q h k n sf pc L (.int j :: .ref a :: S) := by
  subst hp
  intro p e s m args below meth c T C' w'
  obtain ⟨vm0, locs, k0, X, r1, r2, r3, r4, r⟩ := w'
  obtain ⟨cl, A, q, Sz, N, H, G⟩ := F
  exact Gl.st (X.iaload C'.1 (by rw [r1]; exact A.1) (State.isArrayOf_alike r4.alike A.2.1) A.2.2 (inb_of Sz hj) (H.at (inb_of Sz hj) hv) (g := mkF m pc L (.int j :: .ref a :: S)) rfl rfl (hb C'.2.1 hd)) (g p e s m args below meth c T C' ⟨vm0, locs, k0, X, r1, r2, r3, r4, r⟩)
theorem Seg.aaload {a : Addr} {kc : ClassId} {z j : Int32} {ty : FieldType} {vs : List Value} {dv v : Value} (hty : ty.isReference = true) (F : Arv Z h a kc ty z vs dv) (hj : ¬ j < 0 ∧ j < z) (hv : vs.getD j.toNatClampNeg dv = v) (hd : decode bytes pc = .ok (.aaload, 1)) (hp : pc + 1 = pc')
    (g : Seg l Z a0 EL y bytes maxL ret rm Q h k n sf pc' L (v :: S)) : Seg l Z a0 EL y bytes maxL ret rm Q h k n sf pc L (.int j :: .ref a :: S) := by
  subst hp
  intro p e s m args below meth c T C' w'
  obtain ⟨vm0, locs, k0, X, r1, r2, r3, r4, r⟩ := w'
  obtain ⟨cl, A, q, Sz, N, H, G⟩ := F
  exact Gl.st (X.aaload C'.1 (by rw [r1]; exact A.1) (State.isArrayOf_alike r4.alike A.2.1) hty A.2.2 (inb_of Sz hj) (H.at (inb_of Sz hj) hv) (g := mkF m pc L (.int j :: .ref a :: S)) rfl rfl (hb C'.2.1 hd)) (g p e s m args below meth c T C' ⟨vm0, locs, k0, X, r1, r2, r3, r4, r⟩)
theorem Seg.alen {a : Addr} {kc : ClassId} {z : Int32} {ty : FieldType} {vs : List Value} {dv : Value} (F : Arv Z h a kc ty z vs dv) (hd : decode bytes pc = .ok (.arraylength, 1)) (hp : pc + 1 = pc')
    (g : Seg l Z a0 EL y bytes maxL ret rm Q h k n sf pc' L (.int z :: S)) : Seg l Z a0 EL y bytes maxL ret rm Q h k n sf pc L (.ref a :: S) := by
  subst hp
  intro p e s m args below meth c T C' w'
  obtain ⟨vm0, locs, k0, X, r1, r2, r3, r4, r⟩ := w'
  obtain ⟨cl, A, q, Sz, N, H, G⟩ := F
  refine Gl.st (fun t hr => X.arraylength C'.1 (by rw [r1]; exact A.1) (State.isArrayOf_alike r4.alike A.2.1) (g := mkF m pc L (.ref a :: S)) rfl rfl (hb C'.2.1 hd) t ?_) (g p e s m args below meth c T C' ⟨vm0, locs, k0, X, r1, r2, r3, r4, r⟩)
  rw [len_of Sz N]; exact hr
theorem Seg.ldcI {idx : Nat} {v : Int32} (w : (Cond.constant y.cls idx v).before a0 Z = true) (hd : decode bytes pc = .ok (.ldc idx, 2)) (hp : pc + 2 = pc')
    (g : Seg l Z a0 EL y bytes maxL ret rm Q h k n sf pc' L (.int v :: S)) : Seg l Z a0 EL y bytes maxL ret rm Q h k n sf pc L S := by
  subst hp
  intro p e s m args below meth c T C' w'
  obtain ⟨vm0, locs, k0, X, r1, r2, r3, r4, r5, r⟩ := w'
  exact Gl.st (fun t hr => X.ldcI C'.1 r5 (mv r4 w) (g := mkF m pc L S) rfl (hb C'.2.1 hd) hr) (g p e s m args below meth c T C' ⟨vm0, locs, k0, X, r1, r2, r3, r4, r5, r⟩)
theorem Seg.ldcWI {idx : Nat} {v : Int32} (w : (Cond.constant y.cls idx v).before a0 Z = true) (hd : decode bytes pc = .ok (.ldc_w idx, 3)) (hp : pc + 3 = pc')
    (g : Seg l Z a0 EL y bytes maxL ret rm Q h k n sf pc' L (.int v :: S)) : Seg l Z a0 EL y bytes maxL ret rm Q h k n sf pc L S := by
  subst hp
  intro p e s m args below meth c T C' w'
  obtain ⟨vm0, locs, k0, X, r1, r2, r3, r4, r5, r⟩ := w'
  exact Gl.st (fun t hr => X.ldcWI C'.1 r5 (mv r4 w) (g := mkF m pc L S) rfl (hb C'.2.1 hd) hr) (g p e s m args below meth c T C' ⟨vm0, locs, k0, X, r1, r2, r3, r4, r5, r⟩)
theorem Seg.ldc2J {idx : Nat} {v : Int64} (w : (Cond.constantLong y.cls idx v).before a0 Z = true) (hd : decode bytes pc = .ok (.ldc2_w idx, 3)) (hp : pc + 3 = pc')
    (g : Seg l Z a0 EL y bytes maxL ret rm Q h k n sf pc' L (.long v :: S)) : Seg l Z a0 EL y bytes maxL ret rm Q h k n sf pc L S := by
  subst hp
  intro p e s m args below meth c T C' w'
  obtain ⟨vm0, locs, k0, X, r1, r2, r3, r4, r5, r⟩ := w'
  exact Gl.st (fun t hr => X.ldc2J C'.1 r5 (mv r4 w) (g := mkF m pc L S) rfl (hb C'.2.1 hd) hr) (g p e s m args below meth c T C' ⟨vm0, locs, k0, X, r1, r2, r3, r4, r5, r⟩)
/-- ldc of a String constant whose text the sheet assumes held -/
theorem Seg.ldcS {idx nn : Nat} {text : String} {vs : List Value} {z : Int32} (w : (Cond.stringLink y.cls idx text).before a0 Z = true) (wS : ∀ a ∈ Bundle.stringAtoms, a.before a0 Z = true) (hmem : (y.cls, idx) ∈ EL)
    (ht : (∀ c ∈ text.toList, c.toNat < 256) ∧ text.toList.map (fun c => Value.int (Jvm.Lit.byteI c.toNat.toUInt16)) = vs) (hz : ¬ z < 0) (hl : z.toNatClampNeg = vs.length)
    (hd : decode bytes pc = .ok (.ldc idx, 2)) (hp : pc + 2 = pc') (hnn : 4 * text.toList.length ≤ nn) (hbig : nn ≤ 536870912) {k' n' : Nat} (hk : k + 2 = k') (hn : n + (nn + 4) = n') (hk2 : k' ≤ rm.cells) (hn2 : n' ≤ rm.slots)
    (g : ∀ (a : Addr) (h' : Heap) (b : Addr) (kb : ClassId), Ext h h' → Exa Z h' a "java/lang/String" → Fld Z h' a "java/lang/String" "coder" "B" (.int 0) → Fld Z h' a "java/lang/String" "value" "[B" (.ref b) → Arv Z h' b kb .byte z vs (.int 0) → (∀ x ∈ sf, x ≠ a ∧ x ≠ b) → Seg l Z a0 EL y bytes maxL ret rm Q h' k' n' sf pc' L (.ref a :: S)) :
    Seg l Z a0 EL y bytes maxL ret rm Q h k n sf pc L S := by
  subst hp hk hn
  intro p e s m args below meth c T C' w'
  obtain ⟨vm0, locs, k0, X, r1, r2, r3, r4, r5, r6, r7, r8, r9, r10⟩ := w'
  obtain ⟨a, T', h', k1, b, kb, X', e', E, q1, q2, q3, q4, f1, f2, f3, f4, -, -, f5, -, f6, st⟩ := RoadKit.ldcCH X C'.1 r4 r5 w wS r1 r2 r3 r9 hmem r6.1 ht hz hl (g := mkF m pc L S) rfl (hb C'.2.1 hd) hnn hbig hk2 hn2
  have r10' := r10.chr f5
  exact Gl.st st (g a h' b kb E f1 f2 f3 f4 (fun x hx => f6 x (r10' x hx).2.2) p e s m args below meth c T' C' ⟨T'.vm, locs, k1, X', e', q1, q2, q3, q4, r6.trans f5, r7, ext_tr r8 E, r9, r10'⟩)
/-- ldc of a String constant, its text unread -/
theorem Seg.ldcO {idx nn : Nat} {text : String} (w : (Cond.stringLink y.cls idx text).before a0 Z = true) (wS : ∀ a ∈ Bundle.stringAtoms, a.before a0 Z = true)
    (hd : decode bytes pc = .ok (.ldc idx, 2)) (hp : pc + 2 = pc') (hnn : 4 * text.toList.length ≤ nn) (hbig : nn ≤ 536870912) {k' n' : Nat} (hk : k + 2 = k') (hn : n + (nn + 4) = n') (hk2 : k' ≤ rm.cells) (hn2 : n' ≤ rm.slots)
    (g : ∀ (a : Addr) (h' : Heap), Ext h h' → Seg l Z a0 EL y bytes maxL ret rm Q h' k' n' sf pc' L (.ref a :: S)) :
    Seg l Z a0 EL y bytes maxL ret rm Q h k n sf pc L S := by
  subst hp hk hn
  intro p e s m args below meth c T C' w'
  obtain ⟨vm0, locs, k0, X, r1, r2, r3, r4, r5, r6, r7, r8, r9, r10⟩ := w'
  obtain ⟨a, T', h', k1, X', e', E, q1, q2, q3, q4, f5, -, st⟩ := RoadKit.ldcOH X C'.1 r4 r5 w wS r1 r2 r3 r9 r6.1 (g := mkF m pc L S) rfl (hb C'.2.1 hd) hnn hbig hk2 hn2
  exact Gl.st st (g a h' E p e s m args below meth c T' C' ⟨T'.vm, locs, k1, X', e', q1, q2, q3, q4, r6.trans f5, r7, ext_tr r8 E, r9, r10.chr f5⟩)
end Heap
section Calls
variable {l : Launch} {Z : State} {a0 : Array Value} {EL : List (String × Nat)} {y : MethodName} {bytes : ByteArray} {maxL : Nat} {ret : Option FieldType} {rm : Room} {Q : Option Value → Heap → Prop} {h : Heap} {k n : Nat} {sf : List Addr} {pc pc' : Nat} {L : Array Slot} {S : List Value}
/-- WHO PAYS a call of y with the arguments as' at the heap h -/
def Pays (l : Launch) (R : Room) (Z : State) (a0 : Array Value) (EL : List (String × Nat)) (sf : List Addr) (y : MethodName) (len W : Nat) (as' : Array Value) (h : Heap) (rc rs : Nat) (Q : Option Value → Heap → Prop) : Prop :=
  ∀ (p : Program) (e : Env) (below : List Frame) (s : State) (args : Array Value) (vm0 : Vm), Z.Warmed39 vm0 → CHv Z EL vm0 h → SfOk Z EL vm0 h sf → Ext Z.heap h → EW Z a0 EL →
    BackS l R p e below (s.setVm vm0) args y len W (fun A a => a = as' ∧ A.U.heap = h ∧ A.cells + rc ≤ R.cells ∧ A.slots + rs ≤ R.slots)
      (fun A _ v B => ∃ L, (Fr Z.heap.size L ∧ Ext Z.heap B.U.heap ∧ Q v B.U.heap) ∧ B.locs = A.locs ++ L ∧ B.cells = A.cells + rc ∧ B.slots = A.slots + rs ∧ CHr Z EL vm0 h B.U.vm B.U.heap)
theorem Pays.of_ct {R : Room} {as' : Array Value} {rc rs len W : Nat} {sf' : List Addr} (hM : Ct l Z EL sf' [] y bytes maxL ret rm as' h Q) (hsf : ∀ x ∈ sf', x ∈ sf) (wc : (Jvm.Cond.code y bytes maxL ret).before a0 Z = true) (wz : (Jvm.Cond.initialized y.cls).before a0 Z = true) (hf : rm.frames + 1 ≤ R.frames) (hl : W + (maxL + 11) + rm.locals ≤ R.locals) (hrc : rm.cells = rc) (hrs : rm.slots = rs) :
    Pays l R Z a0 EL sf y len W as' h rc rs Q := by
  subst hrc hrs
  intro p e below s args vm0 hZ H hS hE hEL
  refine BackS.of_freeW (bytes := bytes) (maxL := maxL) (ret := ret) (E := fun _ first o t L k n => k = rm.cells ∧ n = rm.slots ∧ (∃ v, o = .returned v ∧ (Fr Z.heap.size L ∧ Ext Z.heap t.heap ∧ Q v t.heap)) ∧ CHr Z EL first.vm first.heap t.vm t.heap) hM hf hl
    (fun m meth c A a Y hp => have hU : Z.Warmed39 A.U.vm := wtrans (s := s.setVm vm0) hZ Y.warmed
      ⟨by show (Cond.and _ .tt).before a A.U = true; rw [Cond.before_and, mv hU wc]; rfl, mv hU wc, mv hU wz, hp.2.2.1, hp.2.2.2⟩)
    (fun m meth c A a g mk Y hp => have q := CHv.at Y hZ hEL H; ⟨hp.1, wtrans (s := s.setVm vm0) hZ Y.warmed, hp.2.1, q.1, (hS.sub hsf).chr q, hE⟩) (fun _ _ _ _ _ _ _ _ _ => trivial)
    (fun _ _ _ _ ⟨v, L, h1, h2, h3, h4⟩ => ⟨L, _, _, h4, rfl, rfl, ⟨v, h1, h2⟩, h3⟩)
    (fun m meth c A a g mk v t L k n Y hp _ _ ⟨e1, e2, ⟨v', e3, e4⟩, e5⟩ => ?_)
  cases e3; subst e1 e2
  refine ⟨L, e4, rfl, rfl, rfl, (CHv.at Y hZ hEL H).trans ?_⟩
  rw [← hp.2.1]; exact e5
theorem Pays.of_back {R : Room} {as' : Array Value} {rc rs len W : Nat} {ws : List Addr} {QL : Option Value → Heap → List Loc → Prop}
    (hK : ∀ (p : Program) (e : Env) (below : List Frame) (s : State) (args : Array Value), Z.Warmed39 s.vm → Ext Z.heap h → (∀ x ∈ sf, Z.heap.size ≤ x) → Back l R p e below s args y len W (fun A a => a = as' ∧ A.U.heap = h ∧ A.cells + rc ≤ R.cells ∧ A.slots + rs ≤ R.slots) (fun A _ v B => ∃ L, QL v B.U.heap L ∧ B.locs = A.locs ++ L ∧ B.cells = A.cells + rc ∧ B.slots = A.slots + rs))
    (hws : ∀ x ∈ ws, x ∈ sf) (hQ : ∀ v h' L, Ext Z.heap h → QL v h' L → Fr Z.heap.size L ∧ Keep h h' ws ∧ Q v h') :
    Pays l R Z a0 EL sf y len W as' h rc rs Q := by
  intro p e below s args vm0 hZ H hS hE hEL m meth c A g ig mk a X hg hsize hdg hW hn hp
  obtain ⟨v, B, X', ⟨L, q, hl, hc, hs⟩, hsteps⟩ := hK p e below (s.setVm vm0) args hZ hE (fun x hx => (hS x hx).1) m meth c A g ig mk a X hg hsize hdg hW hn hp
  obtain ⟨q1, q2, q3⟩ := hQ _ _ _ hE q
  have A1 := CHr.keep q2 (hS.safes hws) H
  have A2 := CHv.at X' hZ hEL A1.1
  refine ⟨v, B, X'.retabled X'.warmed.wide, X'.warmed.since _, by rw [hp.2.1]; exact q2.1, ⟨L, ⟨q1, ext_kp hE q2 (fun x hx => (hS x (hws x hx)).1), q3⟩, hl, hc, hs, A1.trans A2⟩, hsteps⟩
theorem Pays.post {R : Room} {as' : Array Value} {rc rs len W : Nat} {Q' : Option Value → Heap → Prop} (hP : Pays l R Z a0 EL sf y len W as' h rc rs Q) (q : ∀ v h', Q v h' → Q' v h') : Pays l R Z a0 EL sf y len W as' h rc rs Q' := by
  intro p e below s args vm0 hZ H hS hE hEL m meth c A g ig mk a X hg hsize hdg hW hn hp
  obtain ⟨v, B, X', hS', hgr, ⟨L, ⟨q1, q2, q3⟩, hl, hc, hs, hr⟩, hsteps⟩ := hP p e below s args vm0 hZ H hS hE hEL m meth c A g ig mk a X hg hsize hdg hW hn hp
  exact ⟨v, B, X', hS', hgr, ⟨L, ⟨q1, q2, q _ _ q3⟩, hl, hc, hs, hr⟩, hsteps⟩
section Use
variable {y' : MethodName} {as' : Array Value} {rc rs W : Nat} {Q' : Option Value → Heap → Prop} {idx : Nat} {argsL rest : List Value} {k' n' : Nat}
theorem wkBack {p : Program} {e : Env} {R : Room} {s : State} {m : MethodId} {args : Array Value} {below : List Frame} {meth : Method} {c : Code} {own : String} {vm0 : Vm} {locs L0 : List Loc} {k0 : Nat} {B : Pt}
    (r : s.Since vm0 k0 ∧ k0 ≤ h.size ∧ Z.Warmed39 vm0 ∧ vm0.findClass own = some m.cls ∧ CHr Z EL s.vm s.heap vm0 h ∧ Fr Z.heap.size locs ∧ Ext Z.heap h ∧ EW Z a0 EL ∧ SfOk Z EL vm0 h sf)
    (X' : Stand p l e R ((s.setVm vm0).setVm B.U.vm) m args below meth c B.U B.locs B.cells B.slots) (hS : (s.setVm vm0).Since B.U.vm B.U.heap.size) (hg : h.size ≤ B.U.heap.size) (q1 : Fr Z.heap.size L0 ∧ Ext Z.heap B.U.heap) (hl : B.locs = locs ++ L0) (hc : B.cells = k') (hs : B.slots = n') (q : CHr Z EL vm0 h B.U.vm B.U.heap) :
    Wk p l e R s m args below meth c Z a0 EL own sf k' n' B.U B.U.heap := by
  obtain ⟨r2, r3, r4, r5, r6, r7, r8, r9, r10⟩ := r
  obtain ⟨X1, S1, Z1, o1⟩ := rebS r2 r3 X' hS hg r4 r5
  rw [hl, hc, hs] at X1
  exact ⟨B.U.vm, _, _, X1, rfl, S1, Nat.le_refl _, Z1, o1, r6.trans q, r7.app q1.1, q1.2, r9, r10.chr q⟩
theorem Seg.callS {bytes' : ByteArray} {maxL' : Nat} {ret' : Option FieldType} (w1 : (Cond.methodLink y.cls idx y').before a0 Z = true) (w2 : (Cond.static y').before a0 Z = true) (w3 : (Cond.initialized y'.cls).before a0 Z = true) (w4 : (Cond.code y' bytes' maxL' ret').before a0 Z = true) (hy : y'.cls ≠ "java/lang/invoke/MethodHandle" ∧ y'.cls ≠ "java/lang/invoke/VarHandle")
    (hP : Pays l rm Z a0 EL sf y' 3 W as' h rc rs Q') (has : argsL.toArray = as') (hlen : ∀ sig, parseMethodDescriptor y'.desc = some sig → argsL.length = sig.parameters.length) (hst : S = argsL.reverse ++ rest) (hW : (rest.map fun v => v.category).sum ≤ W) (hsz : L.size = maxL) (hd : decode bytes pc = .ok (.invokestatic idx, 3)) (hp : pc + 3 = pc')
    (hk : k + rc = k') (hn : n + rs = n') (hk2 : k' ≤ rm.cells) (hn2 : n' ≤ rm.slots)
    (g : ∀ (v : Option Value) (h' : Heap), h.size ≤ h'.size → Q' v h' → Seg l Z a0 EL y bytes maxL ret rm Q h' k' n' sf pc' L (v.toList ++ rest)) : Seg l Z a0 EL y bytes maxL ret rm Q h k n sf pc L S := by
  subst hp hk hn hst has
  intro p e s m args below meth c T C' w'
  obtain ⟨vm0, locs, k0, X, r1, r2, r3, r4, r5, r6, r7, r8, r9, r10⟩ := w'
  obtain ⟨v, vm1, B, -, X', hS, hg, ⟨L0, ⟨q1, q2, q3⟩, hl, hc, hs, q4⟩, st⟩ := callSS X C'.1 r5 (mvT r4 w1) (mvT r4 w2) (mvT r4 w3) (mvT r4 w4) hy (hP p e below s args vm0 r4 r6.1 r10 r8 r9) (g := mkF m pc L (argsL.reverse ++ rest)) rfl (hsz.trans C'.2.2.1.symm) (argsL := argsL) (rest := rest) hlen rfl (by show 2 * 0 + _ ≤ _; omega) (hb C'.2.1 hd) (fun _ _ => ⟨rfl, r1, hk2, hn2⟩)
  rw [r1] at hg
  exact Gl.st (fun t hr => st.trans hr) (g v B.U.heap hg q3 p e s m args below meth c B.U C' (wkBack ⟨r2, r3, r4, r5, r6, r7, r8, r9, r10⟩ X' hS hg ⟨q1, q2⟩ hl hc hs q4))
theorem Seg.callN {bytes' : ByteArray} {maxL' : Nat} {a : Addr} (hy1 : y'.name = "<init>") (w1 : (Cond.methodLink y.cls idx y').before a0 Z = true) (w2 : (Cond.instanceMethod y').before a0 Z = true) (w4 : (Cond.code y' bytes' maxL' none).before a0 Z = true) (hy : y'.cls ≠ "java/lang/invoke/MethodHandle" ∧ y'.cls ≠ "java/lang/invoke/VarHandle")
    (hP : Pays l rm Z a0 EL sf y' 3 W as' h rc rs Q') (has : (.ref a :: argsL).toArray = as') (hlen : ∀ sig, parseMethodDescriptor y'.desc = some sig → argsL.length = sig.parameters.length) (hst : S = argsL.reverse ++ .ref a :: rest) (hW : (rest.map fun v => v.category).sum ≤ W) (hsz : L.size = maxL) (hd : decode bytes pc = .ok (.invokespecial idx, 3)) (hp : pc + 3 = pc')
    (hk : k + rc = k') (hn : n + rs = n') (hk2 : k' ≤ rm.cells) (hn2 : n' ≤ rm.slots)
    (g : ∀ (v : Option Value) (h' : Heap), h.size ≤ h'.size → Q' v h' → Seg l Z a0 EL y bytes maxL ret rm Q h' k' n' sf pc' L (v.toList ++ rest)) : Seg l Z a0 EL y bytes maxL ret rm Q h k n sf pc L S := by
  subst hp hk hn hst has
  intro p e s m args below meth c T C' w'
  obtain ⟨vm0, locs, k0, X, r1, r2, r3, r4, r5, r6, r7, r8, r9, r10⟩ := w'
  obtain ⟨v, vm1, B, -, X', hS, hg, ⟨L0, ⟨q1, q2, q3⟩, hl, hc, hs, q4⟩, st⟩ := X.specialBackS C'.1 hy1 r5 (mvT r4 w1) (mvT r4 w2) (mvT r4 w4) hy (hP p e below s args vm0 r4 r6.1 r10 r8 r9) (g := mkF m pc L (argsL.reverse ++ .ref a :: rest)) rfl (hsz.trans C'.2.2.1.symm) (Steps.refl _) (a := a) (argsL := argsL) (rest := rest) hlen rfl (by show 2 * 0 + _ ≤ _; omega) (hb C'.2.1 hd) (fun _ _ => ⟨rfl, r1, hk2, hn2⟩)
  rw [r1] at hg
  exact Gl.st (fun t hr => st.trans hr) (g v B.U.heap hg q3 p e s m args below meth c B.U C' (wkBack ⟨r2, r3, r4, r5, r6, r7, r8, r9, r10⟩ X' hS hg ⟨q1, q2⟩ hl hc hs q4))
theorem Seg.callV {z : MethodName} {C : String} {a : Addr} (w1 : (Cond.methodLink y.cls idx y').before a0 Z = true) (w2 : (Cond.declares y').before a0 Z = true) (hnf : ∀ (s : State) (vm0 : Vm), Z.Warmed39 vm0 → Free.NotFace (s.setVm vm0) y') (w3 : (Cond.selects C y' z).before a0 Z = true) (w4 : (Cond.instanceMethod z).before a0 Z = true) (hy : y'.cls ≠ "java/lang/invoke/MethodHandle" ∧ y'.cls ≠ "java/lang/invoke/VarHandle") (E : Exa Z h a C)
    (hP : Pays l rm Z a0 EL sf z 3 W as' h rc rs Q') (has : (.ref a :: argsL).toArray = as') (hlen : ∀ sig, parseMethodDescriptor y'.desc = some sig → argsL.length = sig.parameters.length) (hst : S = argsL.reverse ++ .ref a :: rest) (hW : (rest.map fun v => v.category).sum ≤ W) (hsz : L.size = maxL) (hd : decode bytes pc = .ok (.invokevirtual idx, 3)) (hp : pc + 3 = pc')
    (hk : k + rc = k') (hn : n + rs = n') (hk2 : k' ≤ rm.cells) (hn2 : n' ≤ rm.slots)
    (g : ∀ (v : Option Value) (h' : Heap), h.size ≤ h'.size → Q' v h' → Seg l Z a0 EL y bytes maxL ret rm Q h' k' n' sf pc' L (v.toList ++ rest)) : Seg l Z a0 EL y bytes maxL ret rm Q h k n sf pc L S := by
  subst hp hk hn hst has
  intro p e s m args below meth c T C' w'
  obtain ⟨vm0, locs, k0, X, r1, r2, r3, r4, r5, r6, r7, r8, r9, r10⟩ := w'
  obtain ⟨cq, kq, qa, qb, qc⟩ := isOf (s := s.setVm vm0) r4 r1 E
  obtain ⟨v, vm1, B, -, X', hS, hg, ⟨L0, ⟨q1, q2, q3⟩, hl, hc, hs, q4⟩, st⟩ := X.virtualBackS C'.1 r5 (mvT r4 w1) (mvT r4 w2) (hnf s vm0 r4) (mvT r4 w3) (mvT r4 w4) hy (hP p e below s args vm0 r4 r6.1 r10 r8 r9) qa qc (g := mkF m pc L (argsL.reverse ++ .ref a :: rest)) rfl (hsz.trans C'.2.2.1.symm) (Steps.refl _) (argsL := argsL) (rest := rest) hlen rfl (by show 2 * 0 + _ ≤ _; omega) (hb C'.2.1 hd) (fun _ _ => ⟨rfl, r1, hk2, hn2⟩)
  rw [r1] at hg
  exact Gl.st (fun t hr => st.trans hr) (g v B.U.heap hg q3 p e s m args below meth c B.U C' (wkBack ⟨r2, r3, r4, r5, r6, r7, r8, r9, r10⟩ X' hS hg ⟨q1, q2⟩ hl hc hs q4))
theorem Seg.callI {z : MethodName} {C : String} {a : Addr} {count : Nat} (w1 : (Cond.methodLink y.cls idx y').before a0 Z = true) (w2 : (Cond.declares y').before a0 Z = true) (w5 : (Cond.interfaceMethod y'.cls y'.cls y'.name y'.desc).before a0 Z = true) (hw5 : ((Cond.interfaceMethod y'.cls y'.cls y'.name y'.desc).onTables && (Cond.interfaceMethod y'.cls y'.cls y'.name y'.desc).keepsFace) = true) (w3 : (Cond.selects C y' z).before a0 Z = true) (w4 : (Cond.instanceMethod z).before a0 Z = true) (w6 : (Cond.publicMethod z).before a0 Z = true) (w7 : (Cond.unhidden C y'.name y'.desc).before a0 Z = true) (w8 : (Cond.castable C y'.cls).before a0 Z = true) (hy : y'.cls ≠ "java/lang/invoke/MethodHandle" ∧ y'.cls ≠ "java/lang/invoke/VarHandle") (E : Exa Z h a C)
    (hP : Pays l rm Z a0 EL sf z 5 W as' h rc rs Q') (has : (.ref a :: argsL).toArray = as') (hlen : ∀ sig, parseMethodDescriptor y'.desc = some sig → argsL.length = sig.parameters.length) (hst : S = argsL.reverse ++ .ref a :: rest) (hW : (rest.map fun v => v.category).sum ≤ W) (hsz : L.size = maxL) (hd : decode bytes pc = .ok (.invokeinterface idx count, 5)) (hp : pc + 5 = pc')
    (hk : k + rc = k') (hn : n + rs = n') (hk2 : k' ≤ rm.cells) (hn2 : n' ≤ rm.slots)
    (g : ∀ (v : Option Value) (h' : Heap), h.size ≤ h'.size → Q' v h' → Seg l Z a0 EL y bytes maxL ret rm Q h' k' n' sf pc' L (v.toList ++ rest)) : Seg l Z a0 EL y bytes maxL ret rm Q h k n sf pc L S := by
  subst hp hk hn hst has
  intro p e s m args below meth c T C' w'
  obtain ⟨vm0, locs, k0, X, r1, r2, r3, r4, r5, r6, r7, r8, r9, r10⟩ := w'
  obtain ⟨cq, kq, qa, qb, qc⟩ := isOf (s := s.setVm vm0) r4 r1 E
  obtain ⟨v, vm1, B, -, X', hS, hg, ⟨L0, ⟨q1, q2, q3⟩, hl, hc, hs, q4⟩, st⟩ := X.interfaceBackS C'.1 r5 (mvT r4 w1) (mvT r4 w2) (mvT r4 w5 hw5) (mvT r4 w3) (mvT r4 w4) (mvT r4 w6) (mvT r4 w7) (mvT r4 w8) hy (hP p e below s args vm0 r4 r6.1 r10 r8 r9) qa qb qc (g := mkF m pc L (argsL.reverse ++ .ref a :: rest)) rfl (hsz.trans C'.2.2.1.symm) (Steps.refl _) (argsL := argsL) (rest := rest) hlen rfl (by show 2 * 0 + _ ≤ _; omega) (hb C'.2.1 hd) (fun _ _ => ⟨rfl, r1, hk2, hn2⟩)
  rw [r1] at hg
  exact Gl.st (fun t hr => st.trans hr) (g v B.U.heap hg q3 p e s m args below meth c B.U C' (wkBack ⟨r2, r3, r4, r5, r6, r7, r8, r9, r10⟩ X' hS hg ⟨q1, q2⟩ hl hc hs q4))
theorem nf_sel {C : String} (w3 : (Cond.selects C y' y').before a0 Z = true) (s : State) (vm0 : Vm) (hZ : Z.Warmed39 vm0) : Free.NotFace (s.setVm vm0) y' :=
  notFace_of_selects (args := #[]) (mvT (s := s.setVm vm0) hZ w3)
theorem nf_topS (w : (Cond.noSuperclass y'.cls).before a0 Z = true) (s : State) (vm0 : Vm) (hZ : Z.Warmed39 vm0) : Free.NotFace (s.setVm vm0) y' := nf_top (args := #[]) (mvT (s := s.setVm vm0) hZ w)
theorem nf_supS {C : String} (w : (Cond.superclass y'.cls C).before a0 Z = true) (s : State) (vm0 : Vm) (hZ : Z.Warmed39 vm0) : Free.NotFace (s.setVm vm0) y' := nf_super (args := #[]) (mvT (s := s.setVm vm0) hZ w)
end Use
end Calls
end Jvm.OwnK
namespace Jvm.OwnK
open Jvm Jvm.ClassFile Sem Op Lib Jvm.Free Jvm.Stand Jvm.LawKit Jvm.RoadKit Bundle
/-! own kit, part 4: small numbers as Int32 -/
theorem n32i {i : Nat} (h : i ≤ 100000) : (Int32.ofNat i).toInt = i := Int32.toInt_ofNat_of_lt (by omega)
theorem n32c {i : Nat} (h : i ≤ 100000) : (Int32.ofNat i).toNatClampNeg = i := by
  show (Int32.ofNat i).toInt.toNat = i
  rw [n32i h]; rfl
theorem n32lt {i n : Nat} (h : i < n) (hn : n ≤ 100000) : Int32.ofNat i < Int32.ofNat n := by
  rw [Int32.lt_iff_toInt_lt, n32i (by omega), n32i hn]; omega
theorem n32nlt {i n : Nat} (h : n ≤ i) (hn : i ≤ 100000) : ¬ Int32.ofNat i < Int32.ofNat n := by
  rw [Int32.lt_iff_toInt_lt, n32i (by omega), n32i (by omega)]; omega
theorem n32nn {i : Nat} (h : i ≤ 100000) : ¬ Int32.ofNat i < 0 := by
  rw [Int32.lt_iff_toInt_lt, n32i h]; show ¬ (i : Int) < 0; omega
theorem n32in {i n : Nat} (h : i < n) (hn : n ≤ 100000) : ¬ Int32.ofNat i < 0 ∧ Int32.ofNat i < Int32.ofNat n := ⟨n32nn (by omega), n32lt h hn⟩
theorem n32add (i j : Nat) : Int32.ofNat i + Int32.ofNat j = Int32.ofNat (i + j) := (Int32.ofNat_add i j).symm
theorem n32s (i : Nat) : Int32.ofNat i + 1 = Int32.ofNat (i + 1) := n32add i 1
theorem n32eq {i j : Nat} (hi : i ≤ 100000) (hj : j ≤ 100000) (h : Int32.ofNat i = Int32.ofNat j) : i = j := by
  have := congrArg Int32.toInt h
  rw [n32i hi, n32i hj] at this; omega
theorem getDmap {α : Type} (f : α → Value) (cs : List α) (i : Nat) (d : α) (dv : Value) (h : i < cs.length) : (cs.map f).getD i dv = f (cs.getD i d) := by
  simp [List.getD_eq_getElem?_getD, h]
theorem toInt_cases {x : Int32} {n : Nat} (h0 : 0 ≤ x.toInt) (h1 : x.toInt < n) (hn : n ≤ 1000) : ∃ i : Nat, i < n ∧ x = Int32.ofNat i := by
  refine ⟨x.toInt.toNat, by omega, Int32.toInt_inj.mp ?_⟩
  rw [Int32.toInt_ofNat_of_lt (by omega)]; omega
end Jvm.OwnK
namespace Jvm.OwnK
open Jvm Jvm.ClassFile Sem Op Lib Jvm.Free Jvm.Stand Jvm.LawKit Jvm.RoadKit Bundle
/-! own kit, part 5: arraycopy and clone -/
section Copies
variable {l : Launch} {Z : State} {a0 : Array Value} {EL : List (String × Nat)} {y : MethodName} {bytes : ByteArray} {maxL : Nat} {ret : Option FieldType} {rm : Room} {Q : Option Value → Heap → Prop} {h : Heap} {k n : Nat} {sf : List Addr} {pc pc' : Nat} {L : Array Slot} {S : List Value}
theorem Seg.cpA {idx : Nat} {a b : Addr} {kc kc' : ClassId} {ty ty' : FieldType} {z z' sp dp nn : Int32} {vs vd us vr : List Value} {dv dd : Value} (w1 : (Cond.methodLink y.cls idx Jvm.Stand.acN).before a0 Z = true) (w2 : (Cond.native Jvm.Stand.acN).before a0 Z = true) (w3 : (Cond.static Jvm.Stand.acN).before a0 Z = true) (w4 : (Cond.initialized "java/lang/System").before a0 Z = true)
    (A : Arv Z h a kc ty z vs dv) (B : Arv Z h b kc' ty' z' vd dd) (hty : (ty = ty' ∧ refKind ty = false) ∨ (refKind ty = true ∧ refKind ty' = true ∧ StoL Z h b us))
    (h1 : ¬ sp < 0) (h2 : ¬ dp < 0) (h3 : ¬ nn < 0) (h4 : sp.toNatClampNeg + nn.toNatClampNeg ≤ z.toNatClampNeg) (h5 : dp.toNatClampNeg + nn.toNatClampNeg ≤ z'.toNatClampNeg)
    (hus : us = (List.range nn.toNatClampNeg).map fun i => vs.getD (sp.toNatClampNeg + i) dv) (hl : dp.toNatClampNeg + nn.toNatClampNeg ≤ vd.length) (hvr : vd.take dp.toNatClampNeg ++ us ++ vd.drop (dp.toNatClampNeg + nn.toNatClampNeg) = vr) (hsf : b ∈ sf) (hsz : L.size = maxL) (hd : decode bytes pc = .ok (.invokestatic idx, 3)) (hp : pc + 3 = pc') (hf : 1 ≤ rm.frames) {W : Nat} (hW : (S.map fun v => v.category).sum ≤ W) (hlo : W + (nativeFrameWords "java/lang/System" "arraycopy" 5 + 11) ≤ rm.locals)
    (g : ∀ h', Keep h h' [b] → Arv Z h' b kc' ty' z' vr dd → Seg l Z a0 EL y bytes maxL ret rm Q h' k n sf pc' L S) : Seg l Z a0 EL y bytes maxL ret rm Q h k n sf pc L (.int nn :: .int dp :: .ref b :: .int sp :: .ref a :: S) := by
  subst hp hvr
  intro p e s m args below meth c T C' w'
  obtain ⟨vm0, locs, k0, X, r1, r2, r3, r4, r5, r6, r7, r8, r9, r10⟩ := w'
  obtain ⟨T', h', L', X', e', FL, K, A', st⟩ := RoadKit.cpA X C'.1 r4 r5 w1 w2 w3 w4 r1 A B hty h1 h2 h3 h4 h5 hus hl r7 (r10 b hsf).1 (g := mkF m pc L (.int nn :: .int dp :: .ref b :: .int sp :: .ref a :: S)) rfl (hsz.trans C'.2.2.1.symm) rfl (hb C'.2.1 hd) hf (W := W) (by show 2 * 0 + _ ≤ _; omega) hlo
  have A1 := CHr.keep K (r10.safes (allS hsf all0)) r6.1
  exact Gl.st st (g h' K A' p e s m args below meth c T' C' ⟨vm0, L', k0, X', e', r2, Nat.le_trans r3 K.1, r4, r5, r6.trans A1, FL, ext_kp r8 K (allS (r10 b hsf).1 all0), r9, r10.chr A1⟩)
theorem Seg.cloneH {idx : Nat} {ad : String} {a : Addr} {kc : ClassId} {ty : FieldType} {z : Int32} {vs : List Value} {dv : Value} (w1 : (Cond.methodLink y.cls idx ⟨ad, "clone", "()Ljava/lang/Object;"⟩).before a0 Z = true) (w2 : (Cond.sameMethod ad "java/lang/Object" "clone" "()Ljava/lang/Object;").before a0 Z = true) (w3 : (Cond.native ⟨"java/lang/Object", "clone", "()Ljava/lang/Object;"⟩).before a0 Z = true)
    (w4 : (Cond.instanceMethod ⟨"java/lang/Object", "clone", "()Ljava/lang/Object;"⟩).before a0 Z = true) (w5 : (Cond.selects ad ⟨ad, "clone", "()Ljava/lang/Object;"⟩ ⟨"java/lang/Object", "clone", "()Ljava/lang/Object;"⟩).before a0 Z = true) (w6 : (Cond.castable ad "java/lang/Cloneable").before a0 Z = true)
    (F : Arv Z h a kc ty z vs dv) (E : Exa Z h a ad) (hsz : L.size = maxL) (hd : decode bytes pc = .ok (.invokevirtual idx, 3)) (hp : pc + 3 = pc') (hf : 1 ≤ rm.frames) {W cap : Nat} (hW : (S.map fun v => v.category).sum ≤ W) (hlo : W + 14 ≤ rm.locals) (hcap : z.toNatClampNeg ≤ cap) {k' n' : Nat} (hk : k + 1 = k') (hn : n + cap = n') (hk2 : k' ≤ rm.cells) (hn2 : n' ≤ rm.slots)
    (g : ∀ (x : Addr) (h' : Heap), Ext h h' → h.size = x → x < h'.size → Arv Z h' x kc ty z vs dv → Exa Z h' x ad → Seg l Z a0 EL y bytes maxL ret rm Q h' k' n' (x :: sf) pc' L (.ref x :: S)) : Seg l Z a0 EL y bytes maxL ret rm Q h k n sf pc L (.ref a :: S) := by
  subst hp hk hn
  intro p e s m args below meth c T C' w'
  obtain ⟨vm0, locs, k0, X, r1, r2, r3, r4, r5, r6, r7, r8, r9, r10⟩ := w'
  obtain ⟨T', h', X', e', Ex, A, E', st⟩ := RoadKit.cloneH X C'.1 r4 r5 w1 w2 w3 w4 w5 w6 r1 F.arh E (g := mkF m pc L (.ref a :: S)) rfl (hsz.trans C'.2.2.1.symm) rfl (hb C'.2.1 hd) hf (W := W) (by show 2 * 0 + _ ≤ _; omega) hlo hcap hk2 hn2
  refine Gl.st st (g _ h' Ex rfl E'.lt A E' p e s m args below meth c T' C' ⟨vm0, locs, k0, X', e', r2, Nat.le_trans r3 Ex.1, r4, r5, r6.trans (CHr.ext Ex r6.1), r7, ext_tr r8 Ex, r9, ?_⟩)
  exact (r10.chr (CHr.ext Ex r6.1)).cons r8.1 E'.lt ((Safe.new (Nat.le_refl _)).ext Ex r6.1)
end Copies
theorem n32p (i : Nat) : Int32.ofNat (i + 1) - 1 = Int32.ofNat i := by rw [← n32s, Int32.add_sub_cancel]
theorem n32m (i : Nat) : Int32.ofNat (i + 1) + (-1) = Int32.ofNat i := by rw [← Int32.sub_eq_add_neg, n32p]
theorem n32z (x : Int32) : x - 0 = x := Int32.sub_zero x
theorem n32zp (x : Int32) : 0 + x = x := Int32.zero_add x
theorem range_take (f : Int32 → Value) (cs : List Int32) (e : Nat) (dv : Value) (he : e ≤ cs.length) (h' : e ≤ 100000) : (cs.take e).map f = (List.range (Int32.ofNat e).toNatClampNeg).map fun i => (cs.map f).getD ((0 : Int32).toNatClampNeg + i) dv := by
  rw [n32c h']
  refine List.ext_getElem? fun i => ?_
  by_cases hi : i < e
  · have : i < cs.length := by omega
    simp [hi, this, List.getElem?_take]
  · simp [hi, List.getElem?_take]
theorem take_all (xs : List Value) (vd : List Value) (e : Nat) (h : vd.length = e) (h' : e ≤ 100000) : vd.take (0 : Int32).toNatClampNeg ++ xs ++ vd.drop ((0 : Int32).toNatClampNeg + (Int32.ofNat e).toNatClampNeg) = xs := by
  rw [n32c h']
  have : (0 : Int32).toNatClampNeg = 0 := rfl
  rw [this, Nat.zero_add, ← h]; simp
end Jvm.OwnK
namespace Jvm.OwnK
open Jvm Jvm.ClassFile Sem Op Lib Jvm.Free Jvm.Stand Jvm.LawKit Jvm.RoadKit Bundle
section More
variable {l : Launch} {Z : State} {a0 : Array Value} {EL : List (String × Nat)} {y : MethodName} {Q : Option Value → Heap → Prop} {h : Heap} {sf : List Addr}
theorem Pays.more {R : Room} {as' : Array Value} {rc rs rc' rs' len W : Nat} (hP : Pays l R Z a0 EL sf y len W as' h rc rs Q) (h1 : rc ≤ rc') (h2 : rs ≤ rs') : Pays l R Z a0 EL sf y len W as' h rc' rs' Q := by
  intro p e below s args vm0 hZ H hS hE hEL m meth c A g ig mk a X hg hsize hdg hW hn hp
  obtain ⟨v, B, X', hS', hgr, ⟨L, ⟨q1, q2, q3⟩, hl, hc, hs, hr⟩, hsteps⟩ := hP p e below s args vm0 hZ H hS hE hEL m meth c A g ig mk a X hg hsize hdg hW hn ⟨hp.1, hp.2.1, Nat.le_trans (Nat.add_le_add_left h1 _) hp.2.2.1, Nat.le_trans (Nat.add_le_add_left h2 _) hp.2.2.2⟩
  exact ⟨v, (B.U, B.locs, A.cells + rc', A.slots + rs'), X'.more (by rw [hc]; exact Nat.add_le_add_left h1 _) (by rw [hs]; exact Nat.add_le_add_left h2 _), hS', hgr, ⟨L, ⟨q1, q2, q3⟩, hl, rfl, rfl, hr⟩, hsteps⟩
end More
theorem arv_start {Z : State} {args : Array Value} {t : Term} {ty : FieldType} {n : Int32} {vs : List Value} {a : Addr} (dv : Value) (hf : Fit Z) (ev : t.eval args Z none [] Z = some (.ref a)) (hx : (Cond.arrayOf t ty).value args Z none Z [] = some true) (hlen : (Term.length t).eval args Z none [] Z = some (.int n)) (hz : ¬ n < 0) (hl : n.toNatClampNeg = vs.length)
    (H : ∀ cl, Z.heap[a]? = some cl → HasL cl 0 vs) : ∃ kc, Arv Z Z.heap a kc ty n vs dv := by
  obtain ⟨cl, A⟩ := Arr.start ev hx
  obtain ⟨cl', e1, e2⟩ := length_at hlen ev
  cases A.1.symm.trans e1
  have q : cl.slots.size < 2 ^ 31 := by
    simp only [Term.eval, Option.bind_eq_bind] at hlen
    rw [ev] at hlen
    simp only [Option.bind_some] at hlen
    cases hat : Z.arrayAt? a with
    | none => simp [hat] at hlen
    | some c1 =>
      cases e1.symm.trans (State.arrayAt?_spec hat).1
      simp only [hat, Option.bind_some] at hlen
      by_cases q : cl.slots.size < 2 ^ 31
      · exact q
      · simp [q] at hlen
  exact ⟨_, Arv.start hf A q e2 hz hl (H cl e1)⟩
theorem b255L (x : Int64) : ¬ ((x &&& 255).toInt32).toUInt32.toUInt16.toUInt32.toInt32 < 0 ∧ ¬ (255 : Int32) < ((x &&& 255).toInt32).toUInt32.toUInt16.toUInt32.toInt32 := by
  have h1 := c_maskL x 255 8 (by decide) (by decide)
  have h2 := c_l2i (x &&& 255)
  have h3 := c_i2c ((x &&& 255).toInt32)
  have e : (255 : Int32).toInt = 255 := by decide
  have e0 : (0 : Int32).toInt = 0 := by decide
  have r := Int32.toInt_lt ((x &&& 255).toInt32)
  have r' := Int32.le_toInt ((x &&& 255).toInt32)
  rw [Int32.lt_iff_toInt_lt, Int32.lt_iff_toInt_lt, e, e0]
  omega
theorem rem_ushr (x q : Int32) (k : Nat) (m : Nat) (hk : q.toBitVec.toNat % 32 = k) (h0 : 0 < k) (hm : 0 < m) (hm' : m ≤ 1000) : ∃ i : Nat, i < m ∧ (((x.toUInt32 >>> (q &&& 31).toUInt32).toInt32) % Int32.ofNat m) = Int32.ofNat i := by
  have h1 := c_iushr x q k hk h0
  have h2 := c_iremV ((x.toUInt32 >>> (q &&& 31).toUInt32).toInt32) (Int32.ofNat m)
  have e := n32i (i := m) (by omega)
  have h3 := h2.1 (by rw [h1]; exact Int.ediv_nonneg (by omega) (by exact_mod_cast Nat.zero_le _)) (by rw [e]; omega)
  exact toInt_cases h3.1 (by rw [e] at h3; exact h3.2.1) hm'
end Jvm.OwnK
namespace Jvm.OwnK
open Jvm Jvm.ClassFile Sem Op Lib Jvm.Free Jvm.Stand Jvm.LawKit Jvm.RoadKit Bundle
section Z
variable {l : Launch} {Z : State} {a0 : Array Value} {EL : List (String × Nat)} {y : MethodName} {bytes : ByteArray} {maxL : Nat} {ret : Option FieldType} {rm : Room} {Q : Option Value → Heap → Prop} {h : Heap} {k n : Nat} {sf : List Addr} {pc pc' : Nat} {L : Array Slot} {S : List Value}
theorem Seg.baloadZ {a : Addr} {kc : ClassId} {z j : Int32} {vs : List Value} {dv v : Value} (F : Arv Z h a kc .boolean z vs dv) (hj : ¬ j < 0 ∧ j < z) (hv : vs.getD j.toNatClampNeg dv = v) (hd : decode bytes pc = .ok (.baload, 1)) (hp : pc + 1 = pc')
    (g : Seg l Z a0 EL y bytes maxL ret rm Q h k n sf pc' L (v :: S)) : Seg l Z a0 EL y bytes maxL ret rm Q h k n sf pc L (.int j :: .ref a :: S) := by
  subst hp
  intro p e s m args below meth c T C' w'
  obtain ⟨vm0, locs, k0, X, r1, r2, r3, r4, r⟩ := w'
  obtain ⟨cl, A, q, Sz, N, H, G⟩ := F
  exact Gl.st (X.baloadBooleans C'.1 (by rw [r1]; exact A.1) (State.isArrayOf_alike r4.alike A.2.1) A.2.2 (inb_of Sz hj) (H.at (inb_of Sz hj) hv) (g := mkF m pc L (.int j :: .ref a :: S)) rfl rfl (hb C'.2.1 hd)) (g p e s m args below meth c T C' ⟨vm0, locs, k0, X, r1, r2, r3, r4, r⟩)
theorem no_inst {C K O : String} {nn : Nat} (w : (Cond.superclass C O).before a0 Z = true) (w0 : (Cond.noSuperclass O).before a0 Z = true) (wi : (Cond.instantiable K nn).before a0 Z = true) (h1 : C ≠ K) (h2 : O ≠ K) : ∃ c t, Z.vm.findClass C = some c ∧ Z.vm.findClass K = some t ∧ Z.vm.assignable c t = false := by
  obtain ⟨t, kt, g0, g2, g5, g7, -⟩ := Cond.instantiable_spec (show (Cond.instantiable K nn).holds a0 Z none Z [] = true from wi)
  have g7' : kt.isInterface = false := by cases q : kt.isInterface <;> simp [q] at g7 ⊢
  obtain ⟨co, ko, o1, o2, o3, -, -⟩ := Cond.noSuperclass_spec w0
  have ne0 := ids_ne o1 g0 h2
  have n : NS Z O K := ⟨co, t, o1, g0, fun fuel => by cases fuel with | zero => rfl | succ f => simp [Vm.isSubclassAux, ne0, o2, o3]⟩
  obtain ⟨c, t', h0, g0', n3⟩ := NS.step w n h1
  cases g0.symm.trans g0'
  obtain ⟨p, k, kp, h1', h2', h3, h4, h5, -, h7⟩ := Cond.superclass_spec h0 w
  have ne := ids_ne h0 g0 h1
  refine ⟨c, t, h0, g0, ?_⟩
  show Z.vm.assignableAux (255 + 1) c t = false
  simp [Vm.assignableAux, ne, h2', g2, h5, g5, g7', Vm.isSubclass, n3]
end Z
theorem len_small {Z : State} {args : Array Value} {t : Term} {n : Int32} {a : Addr} (ev : t.eval args Z none [] Z = some (.ref a)) (hlen : (Term.length t).eval args Z none [] Z = some (.int n)) : ∃ cl, Z.arrayAt? a = some cl ∧ Z.heap[a]? = some cl ∧ cl.slots.size < 2 ^ 31 ∧ cl.slots.size.toInt32 = n := by
  obtain ⟨cl, e1, e2⟩ := length_at hlen ev
  simp only [Term.eval, Option.bind_eq_bind] at hlen
  rw [ev] at hlen
  simp only [Option.bind_some] at hlen
  cases hat : Z.arrayAt? a with
  | none => simp [hat] at hlen
  | some c1 =>
    cases e1.symm.trans (State.arrayAt?_spec hat).1
    simp only [hat, Option.bind_some] at hlen
    by_cases q : cl.slots.size < 2 ^ 31
    · exact ⟨cl, rfl, e1, q, e2⟩
    · simp [q] at hlen
theorem hasL_all (c : Cell) : ∀ (i : Nat) (vs : List Value), c.slots.toList.drop i = vs → HasL c i vs
  | _, [], _ => trivial
  | i, v :: r, h => by
    refine ⟨?_, hasL_all c (i + 1) r ?_⟩
    · have := congrArg (·[0]?) h
      simpa using this
    · have := congrArg (List.drop 1) h
      simpa [List.drop_drop, Nat.add_comm] using this
theorem arv_startX {Z : State} {args : Array Value} {t : Term} {ty : FieldType} {n : Int32} {a : Addr} (dv : Value) (hf : Fit Z) (ev : t.eval args Z none [] Z = some (.ref a)) (hx : (Cond.arrayOf t ty).value args Z none Z [] = some true) (hlen : (Term.length t).eval args Z none [] Z = some (.int n)) (hz : ¬ n < 0) :
    ∃ kc cl, Z.arrayAt? a = some cl ∧ Z.heap[a]? = some cl ∧ cl.slots.size = n.toNatClampNeg ∧ Arv Z Z.heap a kc ty n cl.slots.toList dv := by
  obtain ⟨cl, A⟩ := Arr.start ev hx
  obtain ⟨cl', e0, e1, q, e2⟩ := len_small ev hlen
  cases A.1.symm.trans e1
  have S : cl.slots.size = n.toNatClampNeg := by rw [← e2]; simp only [Int32.toNatClampNeg, len_toInt q]; rfl
  exact ⟨_, cl, e0, e1, S, Arv.start hf A q e2 hz (by rw [← S]; simp) (hasL_all cl 0 _ rfl)⟩
theorem all_rng {Z : State} {args : Array Value} {t : Term} {a : Addr} {cl : Cell} {lo hi v : Int32} (ev : ∀ i, t.eval args Z none [i] Z = some (.ref a)) (ev0 : t.eval args Z none [] Z = some (.ref a)) (hat : Z.arrayAt? a = some cl) (hc : Z.heap[a]? = some cl)
    (h : (Cond.all t (.or (.lt (.index 0) (.int lo)) (.or (.le (.int hi) (.index 0)) (.eq (.elem t (.index 0)) (.int v))))).value args Z none Z [] = some true) {i : Nat} (hi' : i < cl.slots.size) (hs : i ≤ 100000) (h1 : ¬ Int32.ofNat i < lo) (h2 : Int32.ofNat i < hi) : cl.slots[i]? = some (.int v) := by
  have q := Cond.all_elim ev0 hat h i hi'
  have ei : (Term.index 0).eval args Z none [i] Z = some (.int (Int32.ofNat i)) := by simp [Term.eval]
  have h2' : ¬ hi ≤ Int32.ofNat i := Int32.not_le.mpr h2
  have e1 : (Cond.lt (.index 0) (.int lo)).value args Z none Z [i] = some false := by rw [Cond.lt_ints ei (Term.int_eval lo)]; simp [h1]
  have e2 : (Cond.le (.int hi) (.index 0)).value args Z none Z [i] = some false := by rw [Cond.le_ints (Term.int_eval hi) ei]; simp [h2]
  rw [Cond.or_of_right e1, Cond.or_of_right e2] at q
  obtain ⟨x, y, g1, g2, g3, -⟩ := cmp_v (Or.inl q)
  have r := (elem_in g1 (ev i) ei hc).2
  rw [n32c hs] at r
  rw [r]
  cases g2
  cases x <;> simp [Cond.value, g1, Term.int_eval] at q ⊢
  exact q
end Jvm.OwnK
namespace Jvm.OwnK
open Jvm Jvm.ClassFile Sem Op Lib Jvm.Free Jvm.Stand Jvm.LawKit Jvm.RoadKit Bundle
section A
variable {l : Launch} {Z : State} {a0 : Array Value} {EL : List (String × Nat)} {y : MethodName} {bytes : ByteArray} {maxL : Nat} {ret : Option FieldType} {rm : Room} {Q : Option Value → Heap → Prop} {h : Heap} {k n : Nat} {sf : List Addr} {pc pc' : Nat} {L : Array Slot} {S : List Value}
theorem safe_arr {vm : Vm} {r : Addr} {kr : ClassId} {ty : FieldType} {z : Int32} {vs : List Value} {d : Value} (hZ : Z.Warmed39 vm) (hw : ∀ p ∈ EL, ∃ text : String, (Cond.stringLink p.1 p.2 text).before a0 Z = true ∧ (∀ c ∈ text.toList, c.toNat < 256) ∧ ¬ text.toList.length = z.toNatClampNeg) (F : Arv Z h r kr ty z vs d) : Safe Z EL vm h r := by
  rintro ⟨p, hp, u, a, ⟨c, k', cf, i, hc', hk', hcf', hpool, hu, hor⟩, q, hqa, B, hy⟩
  obtain ⟨text, wl, ht, hlen⟩ := hw p hp
  obtain ⟨cl, A, q1, Sz, N, H, G⟩ := F
  rcases hy with rfl | rfl
  · have hA : h[q.sa]? = some q.sC := B.ha
    obtain rfl : cl = q.sC := Option.some.inj (A.1.symm.trans hA)
    obtain ⟨cS, S1, ⟨kS, e1, e2, e3⟩, -⟩ := B
    obtain ⟨hs, k, hk, comp, hkind⟩ := A.2.1
    obtain ⟨k2, e4, e5⟩ := hZ.alike.2.2 _ _ hk
    rw [S1.2.2] at e4
    cases e1.symm.trans e4
    rw [e5] at e2
    exact absurd (hkind.symm.trans e2) (fun q => nomatch q)
  · have hD : h[q.sd]? = some q.SA := B.hd
    obtain rfl : cl = q.SA := Option.some.inj (A.1.symm.trans hD)
    obtain ⟨cS, -, -, -, e4⟩ := B
    have wl' : (Cond.stringLink p.1 p.2 text).before a0 (Wst Z vm h) = true := mvS (s := { Z with heap := h }) hZ wl
    obtain ⟨k, cf0, i0, units0, hk, hcf, hp0, hu0, hnm, htext, -⟩ := Cond.stringLink_spec (s := Wst Z vm h) hc' wl'
    cases hk'.symm.trans hk
    cases hcf'.symm.trans hcf
    cases hpool.symm.trans hp0
    cases hu.symm.trans hu0
    have hlat := Jvm.ClassFile.lat_of_text htext ht
    have hun := Jvm.ClassFile.units_of_text htext ht
    refine hlen ?_
    rw [← Sz, e4]
    simp only [stringBytes, hlat, if_true, Array.size_map]
    rw [← Array.length_toList, hun, List.length_map]
theorem Seg.adopt {r : Addr} {kr : ClassId} {ty : FieldType} {z : Int32} {vs : List Value} {d : Value} (F : Arv Z h r kr ty z vs d) (hr : Ext Z.heap h → Z.heap.size ≤ r) (hw : ∀ p ∈ EL, ∃ text : String, (Cond.stringLink p.1 p.2 text).before a0 Z = true ∧ (∀ c ∈ text.toList, c.toNat < 256) ∧ ¬ text.toList.length = z.toNatClampNeg)
    (g : Seg l Z a0 EL y bytes maxL ret rm Q h k n (r :: sf) pc L S) : Seg l Z a0 EL y bytes maxL ret rm Q h k n sf pc L S := by
  intro p e s m args below meth c T C' w'
  obtain ⟨vm0, locs, k0, X, r1, r2, r3, r4, r5, r6, r7, r8, r9, r10⟩ := w'
  exact g p e s m args below meth c T C' ⟨vm0, locs, k0, X, r1, r2, r3, r4, r5, r6, r7, r8, r9, r10.cons (hr r8) F.lt (safe_arr r4 hw F)⟩
end A
end Jvm.OwnK
namespace Jvm.OwnK
open Jvm Jvm.ClassFile Sem Op Lib Jvm.Free Jvm.Stand Jvm.LawKit Jvm.RoadKit Bundle
/-! own kit, part 9: class mirrors, arrays of references, private methods -/
section B
variable {l : Launch} {Z : State} {a0 : Array Value} {EL : List (String × Nat)} {y : MethodName} {bytes : ByteArray} {maxL : Nat} {ret : Option FieldType} {rm : Room} {Q : Option Value → Heap → Prop} {h h' : Heap} {k n : Nat} {sf : List Addr} {pc pc' : Nat} {L : Array Slot} {S : List Value}
def Mirr (Z : State) (C : String) (a : Addr) : Prop := ∃ (c : ClassId) (k : Class), Z.vm.findClass C = some c ∧ Z.vm.classes[c]? = some k ∧ k.mirror = some a
theorem Mirr.at {C : String} {a : Addr} {vm0 : Vm} (hZ : Z.Warmed39 vm0) (M : Mirr Z C a) : ∃ (c : ClassId) (k : Class), vm0.findClass C = some c ∧ vm0.classes[c]? = some k ∧ k.mirror = some a := by
  obtain ⟨c, k, m1, m2, m3⟩ := M
  obtain ⟨k', q1, q2⟩ := hZ.alike.2.2 _ _ m2
  exact ⟨c, k', by rw [hZ.alike.findClass]; exact m1, q1, by rw [q2]; exact m3⟩
theorem Mirr.eval {C : String} {a : Addr} {vm0 : Vm} {s : State} {args : Array Value} (hZ : Z.Warmed39 vm0) (M : Mirr Z C a) : (Term.mirror C).eval args (s.setVm vm0) none [] (s.setVm vm0) = some (.ref a) := by
  obtain ⟨c, k, m1, m2, m3⟩ := M.at hZ
  simp [Term.eval, m1, m2, m3]
theorem Seg.ldcM {C : String} {idx : Nat} {a : Addr} (w : (Cond.classLink y.cls idx C).before a0 Z = true) (M : Mirr Z C a) (hd : decode bytes pc = .ok (.ldc idx, 2)) (hp : pc + 2 = pc')
    (g : Seg l Z a0 EL y bytes maxL ret rm Q h k n sf pc' L (.ref a :: S)) : Seg l Z a0 EL y bytes maxL ret rm Q h k n sf pc L S := by
  subst hp
  intro p e s m args below meth c T C' w'
  obtain ⟨vm0, locs, k0, X, r1, r2, r3, r4, r5, r⟩ := w'
  obtain ⟨vm1, X', st⟩ := X.ldcMirror C'.1 r5 (mvT r4 w) (M.eval r4) (g := mkF m pc L S) rfl (hb C'.2.1 hd)
  exact Gl.st st (g p e s m args below meth c (T.setVm vm1) C' ⟨vm0, locs, k0, X', r1, r2, r3, r4, r5, r⟩)
theorem Seg.getC {C : String} {idx : Nat} {a mir : Addr} (w1 : (Cond.methodLink y.cls idx Jvm.Stand.gcN).before a0 Z = true) (w2 : (Cond.declares Jvm.Stand.gcN).before a0 Z = true) (hnf : ∀ (s : State) (vm0 : Vm), Z.Warmed39 vm0 → Free.NotFace (s.setVm vm0) Jvm.Stand.gcN) (w3 : (Cond.selects C Jvm.Stand.gcN Jvm.Stand.gcN).before a0 Z = true) (w4 : (Cond.instanceMethod Jvm.Stand.gcN).before a0 Z = true) (w5 : (Cond.native Jvm.Stand.gcN).before a0 Z = true)
    (E : Exa Z h a C) (M : Mirr Z C mir) (hsz : L.size = maxL) (hd : decode bytes pc = .ok (.invokevirtual idx, 3)) (hp : pc + 3 = pc') (hf : 1 ≤ rm.frames) {W : Nat} (hW : (S.map fun v => v.category).sum ≤ W) (hl : W + 14 ≤ rm.locals)
    (g : Seg l Z a0 EL y bytes maxL ret rm Q h k n sf pc' L (.ref mir :: S)) : Seg l Z a0 EL y bytes maxL ret rm Q h k n sf pc L (.ref a :: S) := by
  subst hp
  intro p e s m args below meth c T C' w'
  obtain ⟨vm0, locs, k0, X, r1, r2, r3, r4, r5, r⟩ := w'
  obtain ⟨cq, kq, qa, qb, qc⟩ := isOf (s := s.setVm vm0) r4 r1 E
  obtain ⟨cm, km, m1, m2, m3⟩ := M.at r4
  cases (show vm0.findClass C = some cq from qa).symm.trans m1
  obtain ⟨vm1, X', st⟩ := X.getClassOf C'.1 r5 (mvT r4 w1) (mvT r4 w2) (hnf s vm0 r4) (mvT r4 w3) (mvT r4 w4) (mvT r4 w5) qa qc m2 m3 (g := mkF m pc L (.ref a :: S)) rfl (hsz.trans C'.2.2.1.symm) rfl (hb C'.2.1 hd) hf (by rw [show nativeFrameWords "java/lang/Object" "getClass" 1 = 3 from by decide]; show 2 * 0 + _ + _ ≤ _; omega)
  exact Gl.st st (g p e s m args below meth c (T.setVm vm1) C' ⟨vm0, locs, k0, X', r1, r2, r3, r4, r5, r⟩)
theorem Seg.getCI {C : String} {idx count : Nat} {xi : MethodName} {a mir : Addr} (w1 : (Cond.methodLink y.cls idx xi).before a0 Z = true) (w2 : (Cond.declares Jvm.Stand.gcN).before a0 Z = true) (w6 : (Cond.interfaceMethod xi.cls "java/lang/Object" xi.name xi.desc).before a0 Z = true)
    (w3 : (Cond.selects C xi Jvm.Stand.gcN).before a0 Z = true) (w4 : (Cond.instanceMethod Jvm.Stand.gcN).before a0 Z = true) (w7 : (Cond.publicMethod Jvm.Stand.gcN).before a0 Z = true) (w8 : (Cond.unhidden C xi.name xi.desc).before a0 Z = true) (w9 : (Cond.castable C xi.cls).before a0 Z = true) (w5 : (Cond.native Jvm.Stand.gcN).before a0 Z = true) (hx : xi.cls ≠ "java/lang/invoke/MethodHandle" ∧ xi.cls ≠ "java/lang/invoke/VarHandle") (hxo : xi.cls ≠ "java/lang/Object") (hname : xi.name = "getClass") (hdesc : xi.desc = "()Ljava/lang/Class;")
    (E : Exa Z h a C) (M : Mirr Z C mir) (hsz : L.size = maxL) (hd : decode bytes pc = .ok (.invokeinterface idx count, 5)) (hp : pc + 5 = pc') (hf : 1 ≤ rm.frames) {W : Nat} (hW : (S.map fun v => v.category).sum ≤ W) (hl : W + 14 ≤ rm.locals)
    (g : Seg l Z a0 EL y bytes maxL ret rm Q h k n sf pc' L (.ref mir :: S)) : Seg l Z a0 EL y bytes maxL ret rm Q h k n sf pc L (.ref a :: S) := by
  subst hp
  intro p e s m args below meth c T C' w'
  obtain ⟨vm0, locs, k0, X, r1, r2, r3, r4, r5, r⟩ := w'
  obtain ⟨cq, kq, qa, qb, qc⟩ := isOf (s := s.setVm vm0) r4 r1 E
  obtain ⟨cm, km, m1, m2, m3⟩ := M.at r4
  cases (show vm0.findClass C = some cq from qa).symm.trans m1
  obtain ⟨vm1, X', st⟩ := X.getClassOfI C'.1 r5 (mvT r4 w1) (mvT r4 w2) (Jvm.Free.ULB.iface_rides r4.alike w6) (mvT r4 w3) (mvT r4 w4) (mvT r4 w7) (mvT r4 w8) (mvT r4 w9) (mvT r4 w5) hx hxo hname hdesc qa m2 qc m3 (g := mkF m pc L (.ref a :: S)) rfl (hsz.trans C'.2.2.1.symm) rfl (hb C'.2.1 hd) hf (by rw [show nativeFrameWords "java/lang/Object" "getClass" 1 = 3 from by decide]; show 2 * 0 + _ + _ ≤ _; omega)
  exact Gl.st st (g p e s m args below meth c (T.setVm vm1) C' ⟨vm0, locs, k0, X', r1, r2, r3, r4, r5, r⟩)
theorem Seg.newR {C ad : String} {idx : Nat} {z : Int32} (w1 : (Cond.classLink y.cls idx C).before a0 Z = true) (w2 : (Cond.arrayOver (.object C)).before a0 Z = true) (had : "[" ++ (FieldType.object C).toString = ad) (hd : decode bytes pc = .ok (.anewarray idx, 3)) (hp : pc + 3 = pc') (hz : ¬ z < 0) {cap : Nat} (hcap : z.toNatClampNeg ≤ cap) (hb8 : cap * 8 ≤ 536870912) {k' n' : Nat} (hk : k + 1 = k') (hn : n + cap = n') (hk2 : k' ≤ rm.cells) (hn2 : n' ≤ rm.slots)
    (g : ∀ (x : Addr) (h' : Heap) (kc : ClassId), Ext h h' → h.size = x → x < h'.size → Arv Z h' x kc (.object C) z [] .null → Exa Z h' x ad → Ovr Z kc C → Seg l Z a0 EL y bytes maxL ret rm Q h' k' n' (x :: sf) pc' L (.ref x :: S)) :
    Seg l Z a0 EL y bytes maxL ret rm Q h k n sf pc L (.int z :: S) := by
  subst hp hk hn
  intro p e s m args below meth c T C' w'
  obtain ⟨vm0, locs, k0, X, r1, r2, r3, r4, r5, r6, r7, r8, r9, r10⟩ := w'
  obtain ⟨T', h', cA, X', e', E, A, Ex, O, st⟩ := RoadKit.newRE X C'.1 r4 r5 w1 w2 r1 (g := mkF m pc L (.int z :: S)) rfl (hb C'.2.1 hd) rfl hz hcap hb8 hk2 hn2 had
  have V := Arv.new A hz
  refine Gl.st st (g _ h' cA E rfl A.lt V Ex O p e s m args below meth c T' C' ⟨vm0, locs, k0, X', e', r2, Nat.le_trans r3 E.1, r4, r5, r6.trans (CHr.ext E r6.1), r7, ext_tr r8 E, r9, ?_⟩)
  exact (r10.chr (CHr.ext E r6.1)).cons r8.1 A.lt ((Safe.new (Nat.le_refl _)).ext E r6.1)
theorem Seg.aastore {a : Addr} {kc : ClassId} {ty : FieldType} {z j : Int32} {v : Value} {vs : List Value} {dv : Value} {i : Nat} (hty : ty.isReference = true) (F : Arv Z h a kc ty z vs dv) (hj : ¬ j < 0 ∧ j < z) (hi : j.toNatClampNeg = i) (hil : i < vs.length) (St : Sto Z h a v) (hv : fits ty v = true) (hsf : a ∈ sf) (hd : decode bytes pc = .ok (.aastore, 1)) (hp : pc + 1 = pc')
    (g : ∀ h', Wr h h' a i v → Arv Z h' a kc ty z (vs.set i v) dv → Seg l Z a0 EL y bytes maxL ret rm Q h' k n sf pc' L S) : Seg l Z a0 EL y bytes maxL ret rm Q h k n sf pc L (v :: .int j :: .ref a :: S) := by
  subst hp hi
  intro p e s m args below meth c T C' w'
  obtain ⟨vm0, locs, k0, X, r1, r2, r3, r4, r5, r⟩ := w'
  obtain ⟨cl, A, q, Sz, N, H, G⟩ := F
  obtain ⟨T', h', X', e', W, st⟩ := RoadKit.stR X C'.1 r4 r1 A (inb_of Sz hj) hty St (g := mkF m pc L (v :: .int j :: .ref a :: S)) rfl rfl (hb C'.2.1 hd)
  exact Gl.st st (g h' W (Arv.set A q Sz N H G hv W _ rfl hil) p e s m args below meth c T' C' (wkWr W hsf X' e' ⟨r2, r3, r4, r5, r⟩))
/-- null or an Integer -/
def IoN (Z : State) (h : Heap) (v : Value) : Prop := v = .null ∨ ∃ r, v = .ref r ∧ Exa Z h r "java/lang/Integer"
theorem IoN.isRef {v : Value} (F : IoN Z h v) : v.isRef = true := by rcases F with rfl | ⟨r, rfl, -⟩ <;> rfl
theorem IoN.ext {v : Value} (F : IoN Z h v) (E : Ext h h') : IoN Z h' v := F.imp id fun ⟨r, q, x⟩ => ⟨r, q, x.ext E⟩
theorem IoN.wr {v u : Value} {a : Addr} {i : Nat} (F : IoN Z h v) (W : Wr h h' a i u) : IoN Z h' v := F.imp id fun ⟨r, q, x⟩ => ⟨r, q, x.wr W⟩
theorem IoN.keep {v : Value} {ws : List Addr} (F : IoN Z h v) (K : Keep h h' ws) : IoN Z h' v := F.imp id fun ⟨r, q, x⟩ => ⟨r, q, x.keep K⟩
theorem IoN.fits {v : Value} {C : String} (F : IoN Z h v) : fits (.object C) v = true := by rcases F with rfl | ⟨r, rfl, -⟩ <;> rfl
theorem IoN.sto {v : Value} {a : Addr} {kc : ClassId} {ty : FieldType} {z : Int32} {vs : List Value} {dv : Value} (F : IoN Z h v) (A : Arv Z h a kc ty z vs dv) (O : Ovr Z kc "java/lang/Object") (w : (Cond.castable "java/lang/Integer" "java/lang/Object").before a0 Z = true) : Sto Z h a v := by
  rcases F with rfl | ⟨r, rfl, x⟩
  · exact Or.inl rfl
  · obtain ⟨cl, A', rfl, -⟩ := A
    exact Sto.of A' O (Ins.of_exa x w)
theorem nfits {C : String} : fits (.object C) .null = true := rfl
end B
section P
variable {l : Launch} {Z : State} {a0 : Array Value} {EL : List (String × Nat)} {y y' : MethodName} {bytes : ByteArray} {maxL : Nat} {ret : Option FieldType} {rm : Room} {Q Q' : Option Value → Heap → Prop} {h : Heap} {k n k' n' rc rs W idx : Nat} {sf : List Addr} {pc pc' : Nat} {L : Array Slot} {S rest argsL : List Value} {as' : Array Value}
theorem Seg.callPr {a : Addr} {C : String} {bytes' : ByteArray} {maxL' : Nat} {ret' : Option FieldType} (w1 : (Cond.methodLink y.cls idx y').before a0 Z = true) (w2 : (Cond.instanceMethod y').before a0 Z = true) (w3 : (Cond.selects y'.cls y' y').before a0 Z = true) (wp : (Cond.privateMethod y').before a0 Z = true) (w4 : (Cond.code y' bytes' maxL' ret').before a0 Z = true) (hy : y'.cls ≠ "java/lang/invoke/MethodHandle" ∧ y'.cls ≠ "java/lang/invoke/VarHandle") (E : Exa Z h a C)
    (hP : Pays l rm Z a0 EL sf y' 3 W as' h rc rs Q') (has : (.ref a :: argsL).toArray = as') (hlen : ∀ sig, parseMethodDescriptor y'.desc = some sig → argsL.length = sig.parameters.length) (hst : S = argsL.reverse ++ .ref a :: rest) (hW : (rest.map fun v => v.category).sum ≤ W) (hsz : L.size = maxL) (hd : decode bytes pc = .ok (.invokevirtual idx, 3)) (hp : pc + 3 = pc')
    (hk : k + rc = k') (hn : n + rs = n') (hk2 : k' ≤ rm.cells) (hn2 : n' ≤ rm.slots)
    (g : ∀ (v : Option Value) (h' : Heap), h.size ≤ h'.size → Q' v h' → Seg l Z a0 EL y bytes maxL ret rm Q h' k' n' sf pc' L (v.toList ++ rest)) : Seg l Z a0 EL y bytes maxL ret rm Q h k n sf pc L S := by
  subst hp hk hn hst has
  intro p e s m args below meth c T C' w'
  obtain ⟨vm0, locs, k0, X, r1, r2, r3, r4, r5, r6, r7, r8, r9, r10⟩ := w'
  obtain ⟨cq, kq, qa, qb, cell, qc, qd, qe⟩ := isOf (s := s.setVm vm0) r4 r1 E
  obtain ⟨v, vm1, B, -, X', hS, hg, ⟨L0, ⟨q1, q2, q3⟩, hl, hc, hs, q4⟩, st⟩ := X.privateBackS C'.1 r5 (mvT r4 w1) (mvT r4 w2) (mvT r4 w3) (Cond.privateMethod_at (args := args) (mvP r4 wp)) (mvT r4 w4) hy (hP p e below s args vm0 r4 r6.1 r10 r8 r9) (g := mkF m pc L (argsL.reverse ++ .ref a :: rest)) rfl (hsz.trans C'.2.2.1.symm) (Steps.refl _) qc (fun z q => by rw [q] at qe; cases qe) (argsL := argsL) (rest := rest) hlen rfl (by show 2 * 0 + _ ≤ _; omega) (hb C'.2.1 hd) (fun _ _ => ⟨rfl, r1, hk2, hn2⟩)
  rw [r1] at hg
  exact Gl.st (fun t hr => st.trans hr) (g v B.U.heap hg q3 p e s m args below meth c B.U C' (wkBack ⟨r2, r3, r4, r5, r6, r7, r8, r9, r10⟩ X' hS hg ⟨q1, q2⟩ hl hc hs q4))
end P
theorem all_exa {Z : State} {args : Array Value} {C0 n0 d0 K : String} {B : Cond} {a : Addr} {cl : Cell} (ev0 : (Term.static C0 n0 d0).eval args Z none [] Z = some (.ref a)) (hat : Z.arrayAt? a = some cl) (hc : Z.heap[a]? = some cl)
    (h : (Cond.all (.static C0 n0 d0) (.and (.exactly (.elem (.static C0 n0 d0) (.index 0)) K) B)).value args Z none Z [] = some true) {i : Nat} (hi : i < cl.slots.size) (hs : i ≤ 100000) : ∃ r, cl.slots[i]? = some (.ref r) ∧ Exa Z Z.heap r K := by
  have q := Cond.all_elim ev0 hat h i hi
  obtain ⟨q1, -⟩ := and_e q
  have e : (Term.elem (.static C0 n0 d0) (.int (Int32.ofNat i))).eval args Z none [] Z = (Term.elem (.static C0 n0 d0) (.index 0)).eval args Z none [i] Z := by simp [Term.eval]
  have q2 : (Cond.exactly (.elem (.static C0 n0 d0) (.int (Int32.ofNat i))) K).value args Z none Z [] = some true := by
    simp only [Cond.value, e] at q1 ⊢
    exact q1
  obtain ⟨r, er⟩ := exa_v q2
  refine ⟨r, ?_, Exa.start er q2⟩
  have g := (elem_in er ev0 (Term.int_eval _) hc).2
  rw [n32c hs] at g
  exact g
end Jvm.OwnK
namespace Jvm.OwnK
open Jvm Jvm.ClassFile Sem Op Lib Jvm.Free Jvm.Stand Jvm.LawKit Jvm.RoadKit Bundle
/-! own kit, part 10: calls of a superclass's methods, private methods met by a subclass's word -/
section P
variable {l : Launch} {Z : State} {a0 : Array Value} {EL : List (String × Nat)} {y y' : MethodName} {bytes : ByteArray} {maxL : Nat} {ret : Option FieldType} {rm : Room} {Q Q' : Option Value → Heap → Prop} {h : Heap} {k n k' n' rc rs W idx : Nat} {sf : List Addr} {pc pc' : Nat} {L : Array Slot} {S rest argsL : List Value} {as' : Array Value}
theorem sel_self {C : String} (ws : (Cond.selects C y y).before a0 Z = true) (wp : (Cond.privateMethod y).before a0 Z = true) (wi : (Cond.instanceMethod y).before a0 Z = true) (hy : y.cls ≠ "java/lang/invoke/MethodHandle" ∧ y.cls ≠ "java/lang/invoke/VarHandle") : (Cond.selects y.cls y y).before a0 Z = true := by
  obtain ⟨c2, r2, m2, -, -, q3, -, kP, hkP, hkPi⟩ := Cond.selects_spec ws
  exact Jvm.Stand.selects_self_of_private (findClass_of_methodNamed q3) hkP hkPi (Cond.privateMethod_at wp) wi hy
theorem same_of {z : MethodName} {C : String} (wi : (Cond.instanceMethod y).before a0 Z = true) (ws : (Cond.selects C z z).before a0 Z = true) (hc : z.cls = y.cls) (hy : y.cls ≠ "java/lang/invoke/MethodHandle" ∧ y.cls ≠ "java/lang/invoke/VarHandle") : (Cond.sameMethod y.cls y.cls y.name y.desc).before a0 Z = true := by
  obtain ⟨mk, methM, hnamed, hmethM, -, -⟩ := Cond.instanceMethod_spec wi
  have hfound := State.methodFound?_of_named hnamed hy
  obtain ⟨c2, r2, m2, -, -, q3, -, kP, hkP, hkPi⟩ := Cond.selects_spec ws
  have f1 := findClass_of_methodNamed q3
  have f2 := findClass_of_methodNamed hnamed
  rw [hc] at f1
  have e : m2.cls = mk.cls := Option.some.inj (f1.symm.trans f2)
  rw [e] at hkP
  simp only [Cond.before, Cond.holds, Cond.value, f2, hfound, hnamed, hkP]
  simp [hkPi]
theorem nf_cls {z : MethodName} {C : String} (ws : (Cond.selects C z z).before a0 Z = true) (hc : z.cls = y'.cls) (s : State) (vm0 : Vm) (hZ : Z.Warmed39 vm0) : Free.NotFace (s.setVm vm0) y' := by
  have w := mvT (s := s.setVm vm0) (args := #[]) hZ ws
  obtain ⟨c2, r2, m2, -, -, q3, -, kP, hkP, hkPi⟩ := Cond.selects_spec w
  intro r0 hn
  have f1 := findClass_of_methodNamed q3
  have f2 := findClass_of_methodNamed hn
  rw [hc] at f1
  have e : m2.cls = r0.cls := Option.some.inj (f1.symm.trans f2)
  exact ⟨kP, by rw [← e]; exact hkP, hkPi⟩
theorem Seg.callSup {K : String} {a : Addr} {bytes' : ByteArray} {maxL' : Nat} {ret' : Option FieldType} (w1 : (Cond.methodLink y.cls idx y').before a0 Z = true) (w2 : (Cond.sameMethod y'.cls y'.cls y'.name y'.desc).before a0 Z = true) (w3 : (Cond.instanceMethod y').before a0 Z = true) (w4 : (Cond.superclass y.cls y'.cls).before a0 Z = true) (hn' : y'.name ≠ "<init>") (wc : (Cond.code y' bytes' maxL' ret').before a0 Z = true) (E : Ins Z h a K true)
    (hP : Pays l rm Z a0 EL sf y' 3 W as' h rc rs Q') (has : (.ref a :: argsL).toArray = as') (hlen : ∀ sig, parseMethodDescriptor y'.desc = some sig → argsL.length = sig.parameters.length) (hst : S = argsL.reverse ++ .ref a :: rest) (hW : (rest.map fun v => v.category).sum ≤ W) (hsz : L.size = maxL) (hd : decode bytes pc = .ok (.invokespecial idx, 3)) (hp : pc + 3 = pc')
    (hk : k + rc = k') (hn : n + rs = n') (hk2 : k' ≤ rm.cells) (hn2 : n' ≤ rm.slots)
    (g : ∀ (v : Option Value) (h' : Heap), h.size ≤ h'.size → Q' v h' → Seg l Z a0 EL y bytes maxL ret rm Q h' k' n' sf pc' L (v.toList ++ rest)) : Seg l Z a0 EL y bytes maxL ret rm Q h k n sf pc L S := by
  subst hp hk hn hst has
  intro p e s m args below meth c T C' w'
  obtain ⟨vm0, locs, k0, X, r1, r2, r3, r4, r5, r6, r7, r8, r9, r10⟩ := w'
  obtain ⟨v, vm1, B, -, X', hS, hg, ⟨L0, ⟨q1, q2, q3⟩, hl, hc, hs, q4⟩, st⟩ := RoadKit.superBackS X C'.1 r4 r5 w1 w2 w3 w4 hn' (hP p e below s args vm0 r4 r6.1 r10 r8 r9) r1 E (g := mkF m pc L (argsL.reverse ++ .ref a :: rest)) rfl (hsz.trans C'.2.2.1.symm) wc (argsL := argsL) (rest := rest) hlen rfl (by show 2 * 0 + _ ≤ _; omega) (hb C'.2.1 hd) (fun _ _ => ⟨rfl, r1, hk2, hn2⟩)
  rw [r1] at hg
  exact Gl.st (fun t hr => st.trans hr) (g v B.U.heap hg q3 p e s m args below meth c B.U C' (wkBack ⟨r2, r3, r4, r5, r6, r7, r8, r9, r10⟩ X' hS hg ⟨q1, q2⟩ hl hc hs q4))
end P
end Jvm.OwnK
/- laws to paste: Road.backV, Road.codOf, Road.lenW, Road.chN, Road.eqW, Road.empW (cut by pick.py; bodies as the Statement names them) -/
namespace Jvm.Pilot.@@N@@
namespace StrChars
open Jvm Sem ClassFile Op Lib Jvm.Stand Jvm.Free.XT Jvm.Free.ALB Jvm.Free.JM Jvm.Free
open Jvm.Lib.Cold (StaticIs)
/-- a char array whose places are chars -/
def Ch (a : Addr) (A : Cell) (U : State) : Prop := Arr .char a A U ∧ Typed .char A
theorem Ch.mv {a : Addr} {A : Cell} {U U' : State} (h : Ch a A U) (hal : U.vm.Alike U'.vm) (hh : U'.heap = U.heap) : Ch a A U' := ⟨h.1.mv hal hh, h.2⟩
theorem Ch.keep {a : Addr} {A : Cell} {U U' : State} (h : Ch a A U) (hal : U.vm.Alike U'.vm) (hk : U'.heap[a]? = some A) : Ch a A U' := ⟨h.1.keep hal hk, h.2⟩
/-- what place i of a char[]'s cell holds -/
def cv (A : Cell) (i : Nat) : Int32 := match A.slots[i]? with | some (.int x) => x | _ => 0
theorem Ch.get {a : Addr} {A : Cell} {U : State} (h : Ch a A U) {i : Nat} (hi : i < A.slots.size) : A.slots[i]? = some (.int (cv A i)) := by
  have e := Array.getElem?_eq_getElem hi
  have f := h.2 i _ e
  unfold cv; rw [e]
  generalize A.slots[i] = v at f
  cases v <;> simp [fits] at f ⊢
/-- the byte that i2b leaves of a char -/
def lo8 (x : Int32) : Int32 := x.toInt8.toInt32
theorem fits_lo8 (y : Int32) : fits .byte (.int (lo8 y)) = true := by
  have h1 := y.toInt8.le_toInt
  have h2 := y.toInt8.toInt_lt
  simp only [lo8, fits, Bool.and_eq_true, decide_eq_true_eq, Int32.le_iff_toInt_le, Int8.toInt_toInt32, show (-128 : Int32).toInt = -128 from by decide, show (127 : Int32).toInt = 127 from by decide]
  omega
/-- A' is A but that each place j of lo .. hi - 1 holds f j -/
def Laid (A A' : Cell) (lo hi : Nat) (f : Nat → Value) : Prop := A'.cls = A.cls ∧ A'.vm = A.vm ∧ A'.slots.size = A.slots.size ∧ ∀ i, A'.slots[i]? = if lo ≤ i ∧ i < hi then some (f i) else A.slots[i]?
theorem Laid.zero (A : Cell) (lo : Nat) (f : Nat → Value) : Laid A A lo (lo + 0) f := ⟨rfl, rfl, rfl, fun i => by rw [if_neg (by omega)]⟩
theorem Laid.step {A Ak : Cell} {lo k : Nat} {f : Nat → Value} {v : Value} (h : Laid A Ak lo k f) (hlo : lo ≤ k) (hk : k < Ak.slots.size) (hv : v = f k) : Laid A (Ak.setSlot k v) lo (k + 1) f := by
  refine ⟨h.1, h.2.1, by simpa [Cell.setSlot] using h.2.2.1, fun i => ?_⟩
  by_cases e : k = i
  · subst e; rw [Cell.slots_setSlot_self v hk, if_pos (by omega), hv]
  · rw [Cell.slots_setSlot_ne v e, h.2.2.2 i]
    by_cases q : lo ≤ i ∧ i < k
    · rw [if_pos q, if_pos (by omega)]
    · rw [if_neg q, if_neg (by omega)]
def U16 : String := "java/lang/StringUTF16"
namespace Cmp5
def yN : MethodName := ⟨"java/lang/StringUTF16", "compress", "([CI[BII)I"⟩
abbrev yB : ByteArray := jdk_52_method_21_code
theorem d0 : decode yB 0 = .ok (.iconst 0, 1) := by decide +kernel
theorem d1 : decode yB 1 = .ok (.istore 5, 2) := by decide +kernel
theorem d3 : decode yB 3 = .ok (.iload 5, 2) := by decide +kernel
theorem d5 : decode yB 5 = .ok (.iload 4, 2) := by decide +kernel
theorem d7 : decode yB 7 = .ok (.if_icmp (.ge) 37, 3) := by decide +kernel
theorem d10 : decode yB 10 = .ok (.aload_n 0, 1) := by decide +kernel
theorem d11 : decode yB 11 = .ok (.iload_n 1, 1) := by decide +kernel
theorem d12 : decode yB 12 = .ok (.caload, 1) := by decide +kernel
theorem d13 : decode yB 13 = .ok (.istore 6, 2) := by decide +kernel
theorem d15 : decode yB 15 = .ok (.iload 6, 2) := by decide +kernel
theorem d17 : decode yB 17 = .ok (.sipush 255, 3) := by decide +kernel
theorem d20 : decode yB 20 = .ok (.if_icmp (.le) 6, 3) := by decide +kernel
theorem d26 : decode yB 26 = .ok (.aload_n 2, 1) := by decide +kernel
theorem d27 : decode yB 27 = .ok (.iload_n 3, 1) := by decide +kernel
theorem d28 : decode yB 28 = .ok (.iload 6, 2) := by decide +kernel
theorem d30 : decode yB 30 = .ok (.i2b, 1) := by decide +kernel
theorem d31 : decode yB 31 = .ok (.bastore, 1) := by decide +kernel
theorem d32 : decode yB 32 = .ok (.iinc 1 1, 3) := by decide +kernel
theorem d35 : decode yB 35 = .ok (.iinc 3 1, 3) := by decide +kernel
theorem d38 : decode yB 38 = .ok (.iinc 5 1, 3) := by decide +kernel
theorem d41 : decode yB 41 = .ok (.goto (-38), 3) := by decide +kernel
theorem d44 : decode yB 44 = .ok (.iload 4, 2) := by decide +kernel
theorem d46 : decode yB 46 = .ok (.ireturn, 1) := by decide +kernel
def site : List Cond := []
def tab : Cond := tabOf yN yB 7 (some .int) site
def P (b : Addr) (A : Cell) (d : Addr) (B : Cell) (o q len : Nat) (args : Array Value) (s : State) : Prop := args = #[.ref b, .int (Int32.ofNat o), .ref d, .int (Int32.ofNat q), .int (Int32.ofNat len)] ∧ Ch b A s ∧ Arr .byte d B s ∧ b ≠ d ∧ o + len ≤ A.slots.size ∧ q + len ≤ B.slots.size ∧ ∀ i, i < len → ¬ 255 < cv A (o + i)
def E (b : Addr) (A : Cell) (d : Addr) (B : Cell) (o q len : Nat) (r : Option Value) (s u : State) : Prop := r = some (.int (Int32.ofNat len)) ∧ ∃ B', Put d B' s u ∧ Laid B B' q (q + len) (fun j => Value.int (lo8 (cv A (o + (j - q)))))
/-- no char of the range above 255: len; the places written hold each char's low byte -/
theorem law (l : Launch) (b : Addr) (A : Cell) (d : Addr) (B : Cell) (o q len : Nat) : Law l yN 5 5 0 0 yB 7 (some .int) site (P b A d B o q len) (E b A d B o q len) (copyLocs d q len) 0 0 := by
  refine Law.of_walk (plainFor_of_name (by decide +kernel)) (by decide +kernel) (by decide +kernel) (by decide) (fun _ _ h => by rw [h.1]; rfl) (fun _ U U' hal hh h => ⟨h.1, h.2.1.mv hal hh, h.2.2.1.mv hal hh, h.2.2.2⟩) (fun r U U' V V' h1 hal h2 h => ⟨h.1, h.2.elim fun B' q => ⟨B', q.1.mv h1 h2, q.2⟩⟩) ?_
  intro p e s m args below meth c s₁ X0 hexec hbytes hml hret hlk hnm hown hh0 W hP
  obtain ⟨rfl, hA, hB, hne, l1, l2, hp⟩ := hP
  have c1 : Steps p.tables e below (s₁.setTop (entryFrame m #[.ref b, .int (Int32.ofNat o), .ref d, .int (Int32.ofNat q), .int (Int32.ofNat len)] 7)) (s₁.setTop (mkF m 0 #[.val (.ref b), .val (.int (Int32.ofNat o)), .val (.ref d), .val (.int (Int32.ofNat q)), .val (.int (Int32.ofNat len)), .unset, .unset] [])) := entry rfl
  have hA0 := hA.1.mv X0.warmed.alike hh0
  have hB0 := hB.mv X0.warmed.alike hh0
  have a31 := hA.1.2.2.2
  have c2 : Steps p.tables e below (s₁.setTop (entryFrame m #[.ref b, .int (Int32.ofNat o), .ref d, .int (Int32.ofNat q), .int (Int32.ofNat len)] 7)) (s₁.setTop (mkF m 3 #[.val (.ref b), .val (.int (Int32.ofNat o)), .val (.ref d), .val (.int (Int32.ofNat q)), .val (.int (Int32.ofNat len)), .val (.int 0), .unset] [])) := c1.trans (by
    refine iconstV X0.here hexec rfl 0 (hb hbytes d0) (by decide) ?_
    refine XS.istore X0.here hexec rfl (hb hbytes d1) rfl rfl ?_
    exact Steps.refl _)
  have loop : ∀ (r i : Nat), i + r = len → ∀ (z : Slot), (z = .unset ∨ ∃ w, z = .val w ∧ w.category = 1) → ∀ (Tl : State) (Bk : Cell), Stand p l e { frames := 0, locals := 0, cells := 0, slots := 0 } s m #[.ref b, .int (Int32.ofNat o), .ref d, .int (Int32.ofNat q), .int (Int32.ofNat len)] below meth c Tl ([] ++ copyLocs d q i) 0 0 → Put d Bk s₁ Tl → Laid B Bk q (q + i) (fun j => Value.int (lo8 (cv A (o + (j - q))))) →
      Steps p.tables e below (s₁.setTop (entryFrame m #[.ref b, .int (Int32.ofNat o), .ref d, .int (Int32.ofNat q), .int (Int32.ofNat len)] 7)) (Tl.setTop (mkF m 3 #[.val (.ref b), .val (.int (Int32.ofNat (o + i))), .val (.ref d), .val (.int (Int32.ofNat (q + i))), .val (.int (Int32.ofNat len)), .val (.int (Int32.ofNat i)), z] [])) → ∃ (T' : State) (B' : Cell) (z' : Slot), Stand p l e { frames := 0, locals := 0, cells := 0, slots := 0 } s m #[.ref b, .int (Int32.ofNat o), .ref d, .int (Int32.ofNat q), .int (Int32.ofNat len)] below meth c T' ([] ++ copyLocs d q len) 0 0 ∧ Put d B' s₁ T' ∧ Laid B B' q (q + len) (fun j => Value.int (lo8 (cv A (o + (j - q))))) ∧
      Steps p.tables e below (s₁.setTop (entryFrame m #[.ref b, .int (Int32.ofNat o), .ref d, .int (Int32.ofNat q), .int (Int32.ofNat len)] 7)) (T'.setTop (mkF m 3 #[.val (.ref b), .val (.int (Int32.ofNat (o + len))), .val (.ref d), .val (.int (Int32.ofNat (q + len))), .val (.int (Int32.ofNat len)), .val (.int (Int32.ofNat len)), z'] [])) := by
    intro r
    induction r with
    | zero =>
      intro i hi z hz Tl Bk Xl pl fl cl
      have hil : i = len := by omega
      rw [hil] at Xl fl cl
      exact ⟨Tl, Bk, z, Xl, pl, fl, cl⟩
    | succ r ih =>
      intro i hi z hz Tl Bk Xl pl fl cl
      have all := X0.warmed.alike.symm.trans Xl.warmed.alike
      have hAl := hA0.keep all (pl.other hne hA0.1)
      have hBk := hB0.like all pl.1 fl.1 fl.2.1 fl.2.2.1
      have hlt : q + i < Bk.slots.size := by rw [fl.2.2.1]; omega
      have c3 : Steps p.tables e below (s₁.setTop (entryFrame m #[.ref b, .int (Int32.ofNat o), .ref d, .int (Int32.ofNat q), .int (Int32.ofNat len)] 7)) (Tl.setTop (mkF m 12 #[.val (.ref b), .val (.int (Int32.ofNat (o + i))), .val (.ref d), .val (.int (Int32.ofNat (q + i))), .val (.int (Int32.ofNat len)), .val (.int (Int32.ofNat i)), z] [.int (Int32.ofNat (o + i)), .ref b])) := cl.trans (by
        refine XS.iload Xl.here hexec rfl (hb hbytes d3) rfl ?_
        refine XS.iload Xl.here hexec rfl (hb hbytes d5) rfl ?_
        refine XS.icmpNo Xl.here hexec rfl (hb hbytes d7) rfl (ii_ge_f (lt32 (by omega) (by omega))) ?_
        refine XS.aloadN Xl.here hexec rfl (hb hbytes d10) rfl rfl ?_
        refine XS.iloadN Xl.here hexec rfl (hb hbytes d11) rfl ?_
        exact Steps.refl _)
      have c4 : Steps p.tables e below (s₁.setTop (entryFrame m #[.ref b, .int (Int32.ofNat o), .ref d, .int (Int32.ofNat q), .int (Int32.ofNat len)] 7)) (Tl.setTop (mkF m 13 #[.val (.ref b), .val (.int (Int32.ofNat (o + i))), .val (.ref d), .val (.int (Int32.ofNat (q + i))), .val (.int (Int32.ofNat len)), .val (.int (Int32.ofNat i)), z] [.int (cv A (o + i))])) := c3.trans (by
        refine Xl.aget hexec hAl rfl (hA.get (i := o + i) (by omega)) rfl rfl (hb hbytes d12) ?_
        exact Steps.refl _)
      have c5 : Steps p.tables e below (s₁.setTop (entryFrame m #[.ref b, .int (Int32.ofNat o), .ref d, .int (Int32.ofNat q), .int (Int32.ofNat len)] 7)) (Tl.setTop (mkF m 15 #[.val (.ref b), .val (.int (Int32.ofNat (o + i))), .val (.ref d), .val (.int (Int32.ofNat (q + i))), .val (.int (Int32.ofNat len)), .val (.int (Int32.ofNat i)), .val (.int (cv A (o + i)))] [])) := c4.trans (by
        refine XS.istoreS Xl.here hexec rfl (hb hbytes d13) rfl rfl hz ?_
        exact Steps.refl _)
      have c6 : Steps p.tables e below (s₁.setTop (entryFrame m #[.ref b, .int (Int32.ofNat o), .ref d, .int (Int32.ofNat q), .int (Int32.ofNat len)] 7)) (Tl.setTop (mkF m 31 #[.val (.ref b), .val (.int (Int32.ofNat (o + i))), .val (.ref d), .val (.int (Int32.ofNat (q + i))), .val (.int (Int32.ofNat len)), .val (.int (Int32.ofNat i)), .val (.int (cv A (o + i)))] [.int (lo8 (cv A (o + i))), .int (Int32.ofNat (q + i)), .ref d])) := c5.trans (by
        refine XS.iload Xl.here hexec rfl (hb hbytes d15) rfl ?_
        refine sipushV Xl.here hexec rfl 255 (hb hbytes d17) (by decide) ?_
        refine XS.icmpYes Xl.here hexec rfl (pc0 := 20) rfl (hb hbytes d20) rfl (ii_le_t (hp i (by omega))) (by decide) rfl ?_
        refine XS.aloadN Xl.here hexec rfl (hb hbytes d26) rfl rfl ?_
        refine XS.iloadN Xl.here hexec rfl (hb hbytes d27) rfl ?_
        refine XS.iload Xl.here hexec rfl (hb hbytes d28) rfl ?_
        refine i2b Xl.here hexec rfl (hb hbytes d30) rfl ?_
        exact Steps.refl _)
      obtain ⟨T7, X7, p7, st7⟩ := Xl.aput hexec hBk rfl hlt rfl (fits_lo8 (cv A (o + i))) (g := (mkF m 31 #[.val (.ref b), .val (.int (Int32.ofNat (o + i))), .val (.ref d), .val (.int (Int32.ofNat (q + i))), .val (.int (Int32.ofNat len)), .val (.int (Int32.ofNat i)), .val (.int (cv A (o + i)))] [.int (lo8 (cv A (o + i))), .int (Int32.ofNat (q + i)), .ref d])) rfl (rest := []) rfl (hb hbytes d31)
      have c8 : Steps p.tables e below (s₁.setTop (entryFrame m #[.ref b, .int (Int32.ofNat o), .ref d, .int (Int32.ofNat q), .int (Int32.ofNat len)] 7)) (T7.setTop (mkF m 32 #[.val (.ref b), .val (.int (Int32.ofNat (o + i))), .val (.ref d), .val (.int (Int32.ofNat (q + i))), .val (.int (Int32.ofNat len)), .val (.int (Int32.ofNat i)), .val (.int (cv A (o + i)))] [])) := c6.trans (st7 _ (Steps.refl _))
      have c9 : Steps p.tables e below (s₁.setTop (entryFrame m #[.ref b, .int (Int32.ofNat o), .ref d, .int (Int32.ofNat q), .int (Int32.ofNat len)] 7)) (T7.setTop (mkF m 3 #[.val (.ref b), .val (.int (Int32.ofNat (o + i) + 1)), .val (.ref d), .val (.int (Int32.ofNat (q + i) + 1)), .val (.int (Int32.ofNat len)), .val (.int (Int32.ofNat i + 1)), .val (.int (cv A (o + i)))] [])) := c8.trans (by
        refine iincV X7.here hexec rfl 1 (hb hbytes d32) (by decide) rfl rfl ?_
        refine iincV X7.here hexec rfl 1 (hb hbytes d35) (by decide) rfl rfl ?_
        refine iincV X7.here hexec rfl 1 (hb hbytes d38) (by decide) rfl rfl ?_
        refine XS.goto X7.here hexec rfl (pc0 := 41) rfl (hb hbytes d41) (by decide) rfl ?_
        exact Steps.refl _)
      have c10 : Steps p.tables e below (s₁.setTop (entryFrame m #[.ref b, .int (Int32.ofNat o), .ref d, .int (Int32.ofNat q), .int (Int32.ofNat len)] 7)) (T7.setTop (mkF m 3 #[.val (.ref b), .val (.int (Int32.ofNat (o + (i + 1)))), .val (.ref d), .val (.int (Int32.ofNat (q + (i + 1)))), .val (.int (Int32.ofNat len)), .val (.int (Int32.ofNat (i + 1))), .val (.int (cv A (o + i)))] [])) := by
        have := c9
        rw [succ32, succ32, succ32] at this
        exact this
      exact ih (i + 1) (by omega) _ (Or.inr ⟨_, rfl, rfl⟩) T7 _ (by rw [copyLocs_step, ← List.append_assoc]; exact X7) (pl.trans p7) (fl.step (by omega) hlt (by simp)) c10
  obtain ⟨T9, B9, z9, X9, p9, f9, g9⟩ := loop len 0 (by omega) .unset (Or.inl rfl) s₁ B (by simpa [copyLocs] using X0) ⟨hB0.1, fun _ _ => rfl, rfl⟩ (Laid.zero _ _ _) c2
  have c11 : Steps p.tables e below (s₁.setTop (entryFrame m #[.ref b, .int (Int32.ofNat o), .ref d, .int (Int32.ofNat q), .int (Int32.ofNat len)] 7)) (T9.setTop (mkF m 46 #[.val (.ref b), .val (.int (Int32.ofNat (o + len))), .val (.ref d), .val (.int (Int32.ofNat (q + len))), .val (.int (Int32.ofNat len)), .val (.int (Int32.ofNat len)), z9] [.int (Int32.ofNat len)])) := g9.trans (by
    refine XS.iload X9.here hexec rfl (hb hbytes d3) rfl ?_
    refine XS.iload X9.here hexec rfl (hb hbytes d5) rfl ?_
    refine XS.icmpYes X9.here hexec rfl (pc0 := 7) rfl (hb hbytes d7) rfl (ii_ge_t (nlt32 (by omega) (Nat.le_refl _))) (by decide) rfl ?_
    refine XS.iload X9.here hexec rfl (hb hbytes d44) rfl ?_
    exact Steps.refl _)
  exact ⟨T9, some (.int (Int32.ofNat len)), _, _, _, X9, by simp, rfl, rfl, (fun h => by cases h), ⟨rfl, B9, p9.from hh0, f9⟩, fun fs hl => c11.trans (X9.ireturnOut hexec hret rfl (Or.inl rfl) (hb hbytes d46) hl)⟩
end Cmp5
namespace Cmp3
def yN : MethodName := ⟨"java/lang/StringUTF16", "compress", "([CII)[B"⟩
abbrev yB : ByteArray := jdk_52_method_16_code
theorem d0 : decode yB 0 = .ok (.iload_n 2, 1) := by decide +kernel
theorem d1 : decode yB 1 = .ok (.newarray .byte, 2) := by decide +kernel
theorem d3 : decode yB 3 = .ok (.astore_n 3, 1) := by decide +kernel
theorem d4 : decode yB 4 = .ok (.aload_n 0, 1) := by decide +kernel
theorem d5 : decode yB 5 = .ok (.iload_n 1, 1) := by decide +kernel
theorem d6 : decode yB 6 = .ok (.aload_n 3, 1) := by decide +kernel
theorem d7 : decode yB 7 = .ok (.iconst 0, 1) := by decide +kernel
theorem d8 : decode yB 8 = .ok (.iload_n 2, 1) := by decide +kernel
theorem d9 : decode yB 9 = .ok (.invokestatic 115, 3) := by decide +kernel
theorem d12 : decode yB 12 = .ok (.istore 4, 2) := by decide +kernel
theorem d14 : decode yB 14 = .ok (.iload 4, 2) := by decide +kernel
theorem d16 : decode yB 16 = .ok (.iload_n 2, 1) := by decide +kernel
theorem d17 : decode yB 17 = .ok (.if_icmp (.eq) 40, 3) := by decide +kernel
theorem d57 : decode yB 57 = .ok (.aload_n 3, 1) := by decide +kernel
theorem d58 : decode yB 58 = .ok (.areturn, 1) := by decide +kernel
def site : List Cond := [.arrayClass .byte, Cmp5.tab] ++ staticW U16 115 Cmp5.yN
def tab : Cond := tabOf yN yB 6 (some (.array .byte)) site
def P (b : Addr) (A : Cell) (o len : Nat) (args : Array Value) (s : State) : Prop := args = #[.ref b, .int (Int32.ofNat o), .int (Int32.ofNat len)] ∧ Ch b A s ∧ o + len ≤ A.slots.size ∧ len ≤ 536870912 ∧ ∀ i, i < len → ¬ 255 < cv A (o + i)
def E (b : Addr) (A : Cell) (o len : Nat) (r : Option Value) (s u : State) : Prop := NewArr .byte "[B" len (fun j => .int (lo8 (cv A (o + j)))) r s u ∧ u.heap.size = s.heap.size + 1
/-- no char of the range above 255: a new byte[] of their low bytes -/
theorem law (l : Launch) (b : Addr) (A : Cell) (o len : Nat) : Law l yN 3 3 1 18 yB 6 (some (.array .byte)) site (P b A o len) (E b A o len) [] 1 len := by
  refine Law.of_walk (plainFor_of_name (by decide +kernel)) (by decide +kernel) (by decide +kernel) (by decide) (fun _ _ h => by rw [h.1]; rfl) (fun _ U U' hal hh h => ⟨h.1, h.2.1.mv hal hh, h.2.2⟩) (fun r U U' V V' h1 hal h2 h => ⟨NewArr.mv r U U' V V' h1 hal h2 h.1, by rw [h1, h2]; exact h.2⟩) ?_
  intro p e s m args below meth c s₁ X0 hexec hbytes hml hret hlk hnm hown hh0 W hP
  obtain ⟨rfl, hA, l1, l2, hp⟩ := hP
  have a31 := hA.1.2.2.2
  have c1 : Steps p.tables e below (s₁.setTop (entryFrame m #[.ref b, .int (Int32.ofNat o), .int (Int32.ofNat len)] 6)) (s₁.setTop (mkF m 0 #[.val (.ref b), .val (.int (Int32.ofNat o)), .val (.int (Int32.ofNat len)), .unset, .unset, .unset] [])) := entry rfl
  have c2 : Steps p.tables e below (s₁.setTop (entryFrame m #[.ref b, .int (Int32.ofNat o), .int (Int32.ofNat len)] 6)) (s₁.setTop (mkF m 1 #[.val (.ref b), .val (.int (Int32.ofNat o)), .val (.int (Int32.ofNat len)), .unset, .unset, .unset] [.int (Int32.ofNat len)])) := c1.trans (by
    refine XS.iloadN X0.here hexec rfl (hb hbytes d0) rfl ?_
    exact Steps.refl _)
  obtain ⟨T3, B3, X3, ba3, bs3, bv3, bh3, bf3, st3⟩ := X0.anew hexec (atype := .byte) (wk W (.arrayClass .byte)) rfl (by show len * 1 ≤ _; omega) (by omega) (g := (mkF m 1 #[.val (.ref b), .val (.int (Int32.ofNat o)), .val (.int (Int32.ofNat len)), .unset, .unset, .unset] [.int (Int32.ofNat len)])) rfl (hb hbytes d1) (rest := []) rfl (Nat.le_refl _) (by show 0 + len ≤ len; omega)
  rw [hh0] at ba3 st3
  have kp3 : XT.Kept s T3 := (XT.Kept.of_eq hh0).push bh3
  have hA3 := hA.keep X3.warmed.alike (kp3 _ _ hA.1.1)
  have hne : b ≠ s.heap.size := hA.1.ne
  have c4 : Steps p.tables e below (s₁.setTop (entryFrame m #[.ref b, .int (Int32.ofNat o), .int (Int32.ofNat len)] 6)) (T3.setTop (mkF m 3 #[.val (.ref b), .val (.int (Int32.ofNat o)), .val (.int (Int32.ofNat len)), .unset, .unset, .unset] [.ref s.heap.size])) := c2.trans (st3 _ (Steps.refl _))
  have c5 : Steps p.tables e below (s₁.setTop (entryFrame m #[.ref b, .int (Int32.ofNat o), .int (Int32.ofNat len)] 6)) (T3.setTop (mkF m 9 #[.val (.ref b), .val (.int (Int32.ofNat o)), .val (.int (Int32.ofNat len)), .val (.ref s.heap.size), .unset, .unset] [.int (Int32.ofNat len), .int 0, .ref s.heap.size, .int (Int32.ofNat o), .ref b])) := c4.trans (by
    refine XS.astoreN X3.here hexec rfl (hb hbytes d3) rfl rfl rfl ?_
    refine XS.aloadN X3.here hexec rfl (hb hbytes d4) rfl rfl ?_
    refine XS.iloadN X3.here hexec rfl (hb hbytes d5) rfl ?_
    refine XS.aloadN X3.here hexec rfl (hb hbytes d6) rfl rfl ?_
    refine iconstV X3.here hexec rfl 0 (hb hbytes d7) (by decide) ?_
    refine XS.iloadN X3.here hexec rfl (hb hbytes d8) rfl ?_
    exact Steps.refl _)
  obtain ⟨v6, T6, X6, E6, g6⟩ := X3.callS hexec (Cmp5.law l b A s.heap.size B3 o 0 len) hown (wks W (staticW U16 115 Cmp5.yN)) (wk W Cmp5.tab) (W := 0) (Nat.le_of_ble_eq_true rfl) (Nat.le_of_ble_eq_true rfl) (Nat.le_refl _) (by show 0 + len + 0 ≤ len; omega) (g := (mkF m 9 #[.val (.ref b), .val (.int (Int32.ofNat o)), .val (.int (Int32.ofNat len)), .val (.ref s.heap.size), .unset, .unset] [.int (Int32.ofNat len), .int (Int32.ofNat 0), .ref s.heap.size, .int (Int32.ofNat o), .ref b])) rfl (by rw [hml]; rfl) c5 (argsL := [.ref b, .int (Int32.ofNat o), .ref s.heap.size, .int (Int32.ofNat 0), .int (Int32.ofNat len)]) (rest := []) rfl rfl (by show 2 * 0 + 0 ≤ _; decide) (hb hbytes d9) (⟨rfl, hA3, ba3, hne, l1, by rw [bs3]; simp, hp⟩)
  obtain ⟨rfl, B6, p6, f6⟩ := E6
  have c7 : Steps p.tables e below (s₁.setTop (entryFrame m #[.ref b, .int (Int32.ofNat o), .int (Int32.ofNat len)] 6)) (T6.setTop (mkF m 12 #[.val (.ref b), .val (.int (Int32.ofNat o)), .val (.int (Int32.ofNat len)), .val (.ref s.heap.size), .unset, .unset] [.int (Int32.ofNat len)])) := g6
  have c8 : Steps p.tables e below (s₁.setTop (entryFrame m #[.ref b, .int (Int32.ofNat o), .int (Int32.ofNat len)] 6)) (T6.setTop (mkF m 58 #[.val (.ref b), .val (.int (Int32.ofNat o)), .val (.int (Int32.ofNat len)), .val (.ref s.heap.size), .val (.int (Int32.ofNat len)), .unset] [.ref s.heap.size])) := c7.trans (by
    refine XS.istore X6.here hexec rfl (hb hbytes d12) rfl rfl ?_
    refine XS.iload X6.here hexec rfl (hb hbytes d14) rfl ?_
    refine XS.iloadN X6.here hexec rfl (hb hbytes d16) rfl ?_
    refine XS.icmpYes X6.here hexec rfl (pc0 := 17) rfl (hb hbytes d17) rfl (ii_eq_t rfl) (by decide) rfl ?_
    refine XS.aloadN X6.here hexec rfl (hb hbytes d57) rfl rfl ?_
    exact Steps.refl _)
  have X8 := X6.wide (L' := []) (cells' := 1) (slots' := len) (fun x hx hlt => by
    simp only [List.nil_append, copyLocs, List.mem_map, List.mem_range] at hx
    obtain ⟨i, -, rfl⟩ := hx
    exact absurd hlt (Nat.lt_irrefl _)) (Nat.le_refl _) (by omega)
  exact ⟨T6, some (.ref s.heap.size), _, _, _, X8, rfl, rfl, rfl, (fun h => by cases h), ⟨⟨rfl, B6, ba3.like (X3.warmed.alike.symm.trans X6.warmed.alike) p6.1 f6.1 f6.2.1 f6.2.2.1, f6.2.1.trans bv3, by rw [X6.warmed.alike.findClass, f6.1]; exact bf3, by rw [f6.2.2.1, bs3]; simp, fun j hj => by rw [f6.2.2.2 j, if_pos (by omega)]; rfl, kp3.put p6 (Nat.le_refl _)⟩, by rw [p6.2.2, bh3, hh0]; simp⟩, fun fs hl => c8.trans (X8.areturnOut hexec rfl hret rfl (hb hbytes d58) hl)⟩
end Cmp3
namespace CodL
def yN : MethodName := ⟨"java/lang/StringUTF16", "coderFromArrayLen", "([BI)B"⟩
abbrev yB : ByteArray := jdk_52_method_15_code
theorem d0 : decode yB 0 = .ok (.iload_n 1, 1) := by decide +kernel
theorem d1 : decode yB 1 = .ok (.aload_n 0, 1) := by decide +kernel
theorem d2 : decode yB 2 = .ok (.arraylength, 1) := by decide +kernel
theorem d3 : decode yB 3 = .ok (.isub, 1) := by decide +kernel
theorem d4 : decode yB 4 = .ok (.bipush 31, 2) := by decide +kernel
theorem d6 : decode yB 6 = .ok (.iushr, 1) := by decide +kernel
theorem d7 : decode yB 7 = .ok (.i2b, 1) := by decide +kernel
theorem d8 : decode yB 8 = .ok (.ireturn, 1) := by decide +kernel
def site : List Cond := []
def tab : Cond := tabOf yN yB 2 (some .byte) site
def P (d : Addr) (B : Cell) (args : Array Value) (s : State) : Prop := args = #[.ref d, .int (Int32.ofNat B.slots.size)] ∧ Arr .byte d B s
def E (r : Option Value) (s u : State) : Prop := XT.PureE (some (.int 0)) r s u
/-- an array as long as the number of chars: LATIN1 -/
theorem law (l : Launch) (d : Addr) (B : Cell) : Law l yN 2 2 0 0 yB 2 (some .byte) site (P d B) E [] 0 0 := by
  refine Law.of_walk (plainFor_of_name (by decide +kernel)) (by decide +kernel) (by decide +kernel) (by decide) (fun _ _ h => by rw [h.1]; rfl) (fun _ U U' hal hh h => ⟨h.1, h.2.mv hal hh⟩) (fun r U U' V V' h1 hal h2 h => XT.PureE.mv r U U' V V' h1 hal h2 h) ?_
  intro p e s m args below meth c s₁ X0 hexec hbytes hml hret hlk hnm hown hh0 W hP
  obtain ⟨rfl, hB⟩ := hP
  have hB0 := hB.mv X0.warmed.alike hh0
  have c1 : Steps p.tables e below (s₁.setTop (entryFrame m #[.ref d, .int (Int32.ofNat B.slots.size)] 2)) (s₁.setTop (mkF m 0 #[.val (.ref d), .val (.int (Int32.ofNat B.slots.size))] [])) := entry rfl
  have c2 : Steps p.tables e below (s₁.setTop (entryFrame m #[.ref d, .int (Int32.ofNat B.slots.size)] 2)) (s₁.setTop (mkF m 2 #[.val (.ref d), .val (.int (Int32.ofNat B.slots.size))] [.ref d, .int (Int32.ofNat B.slots.size)])) := c1.trans (by
    refine XS.iloadN X0.here hexec rfl (hb hbytes d0) rfl ?_
    refine XS.aloadN X0.here hexec rfl (hb hbytes d1) rfl rfl ?_
    exact Steps.refl _)
  have c3 : Steps p.tables e below (s₁.setTop (entryFrame m #[.ref d, .int (Int32.ofNat B.slots.size)] 2)) (s₁.setTop (mkF m 8 #[.val (.ref d), .val (.int (Int32.ofNat B.slots.size))] [.int (lo8 (ushr (Int32.ofNat B.slots.size - Int32.ofNat B.slots.size) 31))])) := c2.trans (by
    refine X0.alen hexec hB0 rfl rfl (hb hbytes d2) ?_
    refine XS.isub X0.here hexec rfl (hb hbytes d3) rfl ?_
    refine bipushV X0.here hexec rfl 31 (hb hbytes d4) (by decide) ?_
    refine iushr X0.here hexec rfl (hb hbytes d6) rfl ?_
    refine i2b X0.here hexec rfl (hb hbytes d7) rfl ?_
    exact Steps.refl _)
  have e0 : lo8 (ushr (Int32.ofNat B.slots.size - Int32.ofNat B.slots.size) 31) = 0 := by rw [Int32.sub_self]; decide
  rw [e0] at c3
  exact ⟨s₁, some (.int 0), _, _, _, X0, rfl, rfl, rfl, (fun h => by cases h), ⟨rfl, hh0⟩, fun fs hl => c3.trans (X0.ireturnOut hexec hret rfl (Or.inr (Or.inr (Or.inl rfl))) (hb hbytes d8) hl)⟩
end CodL
/-- the String at a is Latin-1 over a new byte[] (the heap's one new cell): the low bytes of the len chars of A from o on; every cell but a is kept -/
def Got (a : Addr) (D : Cell) (fV fC : Field) (A : Cell) (o len : Nat) (r : Option Value) (s u : State) : Prop := r = none ∧ ∃ D' V : Cell, Blank "java/lang/String" a D' u ∧ Same D D' [fV.slot, fC.slot] ∧ D'.slots[fV.slot]? = some (.ref s.heap.size) ∧ D'.slots[fC.slot]? = some (.int 0) ∧ Arr .byte s.heap.size V u ∧ V.vm = .none ∧ u.vm.findClass "[B" = some V.cls ∧ V.slots.size = len ∧ (∀ j, j < len → V.slots[j]? = some (.int (lo8 (cv A (o + j))))) ∧ (∀ (y : Addr) (c : Cell), y ≠ a → s.heap[y]? = some c → u.heap[y]? = some c) ∧ u.heap.size = s.heap.size + 1
theorem Got.mv {a : Addr} {D A : Cell} {fV fC : Field} {o len : Nat} : ∀ r (U U' V V' : State), U'.heap = U.heap → V.vm.Alike V'.vm → V'.heap = V.heap → Got a D fV fC A o len r U V → Got a D fV fC A o len r U' V' :=
  fun r U U' V V' h1 hal h2 ⟨e0, D', X, a1, a2, a3, a4, a5, a6, a7, a8, a9, a10, a11⟩ => ⟨e0, D', X, a1.mv hal h2, a2, by rw [h1]; exact a3, a4, by rw [h1]; exact a5.mv hal h2, a6, by rw [hal.findClass]; exact a7, a8, a9, by rw [h1, h2]; exact a10, by rw [h1, h2]; exact a11⟩
namespace New4
def yN : MethodName := ⟨"java/lang/String", "<init>", "([CIILjava/lang/Void;)V"⟩
abbrev yB : ByteArray := jdk_42_method_149_code
theorem d0 : decode yB 0 = .ok (.aload_n 0, 1) := by decide +kernel
theorem d1 : decode yB 1 = .ok (.invokespecial 1, 3) := by decide +kernel
theorem d4 : decode yB 4 = .ok (.iload_n 3, 1) := by decide +kernel
theorem d5 : decode yB 5 = .ok (.ifCond (.ne) 22, 3) := by decide +kernel
theorem d27 : decode yB 27 = .ok (.getstatic 38, 3) := by decide +kernel
theorem d30 : decode yB 30 = .ok (.ifCond (.eq) 28, 3) := by decide +kernel
theorem d33 : decode yB 33 = .ok (.aload_n 1, 1) := by decide +kernel
theorem d34 : decode yB 34 = .ok (.iload_n 2, 1) := by decide +kernel
theorem d35 : decode yB 35 = .ok (.iload_n 3, 1) := by decide +kernel
theorem d36 : decode yB 36 = .ok (.invokestatic 177, 3) := by decide +kernel
theorem d39 : decode yB 39 = .ok (.astore 5, 2) := by decide +kernel
theorem d41 : decode yB 41 = .ok (.aload_n 0, 1) := by decide +kernel
theorem d42 : decode yB 42 = .ok (.aload 5, 2) := by decide +kernel
theorem d44 : decode yB 44 = .ok (.iload_n 3, 1) := by decide +kernel
theorem d45 : decode yB 45 = .ok (.invokestatic 47, 3) := by decide +kernel
theorem d48 : decode yB 48 = .ok (.putfield 15, 3) := by decide +kernel
theorem d51 : decode yB 51 = .ok (.aload_n 0, 1) := by decide +kernel
theorem d52 : decode yB 52 = .ok (.aload 5, 2) := by decide +kernel
theorem d54 : decode yB 54 = .ok (.putfield 9, 3) := by decide +kernel
theorem d57 : decode yB 57 = .ok (.return_, 1) := by decide +kernel
def site : List Cond := [.fieldLink "java/lang/String" 38 "java/lang/String" "COMPACT_STRINGS" "Z", Cmp3.tab, CodL.tab, .laysFinal "java/lang/String" "java/lang/String" "value" "[B", .fieldLink "java/lang/String" 9 "java/lang/String" "value" "[B", .laysFinal "java/lang/String" "java/lang/String" "coder" "B", .fieldLink "java/lang/String" 15 "java/lang/String" "coder" "B"] ++ objW "java/lang/String" 1 ++ staticW "java/lang/String" 177 Cmp3.yN ++ staticW "java/lang/String" 47 CodL.yN
def tab : Cond := tabOf yN yB 6 none site
def P (a : Addr) (D : Cell) (fV fC : Field) (b : Addr) (A : Cell) (z : Int32) (o len : Nat) (args : Array Value) (s : State) : Prop := args = #[.ref a, .ref b, .int (Int32.ofNat o), .int (Int32.ofNat len), .null] ∧ Blank "java/lang/String" a D s ∧ Found "java/lang/String" "value" "[B" fV s ∧ Found "java/lang/String" "coder" "B" fC s ∧ Ch b A s ∧ StaticIs s "java/lang/String" "COMPACT_STRINGS" "Z" (.int z) ∧ ¬ z = 0 ∧ 0 < len ∧ o + len ≤ A.slots.size ∧ len ≤ 536870912 ∧ ∀ i, i < len → ¬ 255 < cv A (o + i)
def E (a : Addr) (D : Cell) (fV fC : Field) (A : Cell) (o len : Nat) (r : Option Value) (s u : State) : Prop := Got a D fV fC A o len r s u
/-- len > 0, no char of the range above 255: a Latin-1 String of their low bytes -/
theorem law (l : Launch) (a : Addr) (D : Cell) (fV fC : Field) (b : Addr) (A : Cell) (z : Int32) (o len : Nat) : Law l yN 5 4 2 35 yB 6 none site (P a D fV fC b A z o len) (E a D fV fC A o len) [⟨a, fC.slot⟩, ⟨a, fV.slot⟩] 1 len := by
  refine Law.of_walk (plainFor_of_name (by decide +kernel)) (by decide +kernel) (by decide +kernel) (by decide) (fun _ _ h => by rw [h.1]; rfl) (fun _ U U' hal hh h => ⟨h.1, h.2.1.mv hal hh, h.2.2.1.al hal, h.2.2.2.1.al hal, h.2.2.2.2.1.mv hal hh, h.2.2.2.2.2.1.there hal hh, h.2.2.2.2.2.2⟩) (fun r U U' V V' h1 hal h2 h => Got.mv r U U' V V' h1 hal h2 h) ?_
  intro p e s m args below meth c s₁ X0 hexec hbytes hml hret hlk hnm hown hh0 W hP
  obtain ⟨rfl, hB, f1, f2, hA, s1, hz, l0, l1, l2, hp⟩ := hP
  have a31 := hA.1.2.2.2
  have c1 : Steps p.tables e below (s₁.setTop (entryFrame m #[.ref a, .ref b, .int (Int32.ofNat o), .int (Int32.ofNat len), .null] 6)) (s₁.setTop (mkF m 0 #[.val (.ref a), .val (.ref b), .val (.int (Int32.ofNat o)), .val (.int (Int32.ofNat len)), .val .null, .unset] [])) := entry rfl
  have c2 : Steps p.tables e below (s₁.setTop (entryFrame m #[.ref a, .ref b, .int (Int32.ofNat o), .int (Int32.ofNat len), .null] 6)) (s₁.setTop (mkF m 1 #[.val (.ref a), .val (.ref b), .val (.int (Int32.ofNat o)), .val (.int (Int32.ofNat len)), .val .null, .unset] [.ref a])) := c1.trans (by
    refine XS.aloadN X0.here hexec rfl (hb hbytes d0) rfl rfl ?_
    exact Steps.refl _)
  obtain ⟨T3, X3, q3, st3⟩ := X0.oinit hexec hown (wks W (objW "java/lang/String" 1)) (g := (mkF m 1 #[.val (.ref a), .val (.ref b), .val (.int (Int32.ofNat o)), .val (.int (Int32.ofNat len)), .val .null, .unset] [.ref a])) rfl (by rw [hml]; rfl) (rest := []) rfl (hb hbytes d1) (W := 0) (by show 2 * 0 + 0 ≤ _; decide) (Nat.le_of_ble_eq_true rfl) (Nat.le_of_ble_eq_true rfl)
  have hh3 := q3.trans hh0
  have c4 : Steps p.tables e below (s₁.setTop (entryFrame m #[.ref a, .ref b, .int (Int32.ofNat o), .int (Int32.ofNat len), .null] 6)) (T3.setTop (mkF m 27 #[.val (.ref a), .val (.ref b), .val (.int (Int32.ofNat o)), .val (.int (Int32.ofNat len)), .val .null, .unset] [])) := (c2.trans (st3 _ (Steps.refl _))).trans (by
    refine XS.iloadN X3.here hexec rfl (hb hbytes d4) rfl ?_
    refine XS.ifYes X3.here hexec rfl (pc0 := 5) rfl (hb hbytes d5) rfl (i0_ne_t (nz32 (by omega) l0)) (by decide) rfl ?_
    exact Steps.refl _)
  obtain ⟨T5, X5, q5, st5⟩ := X3.sget hexec hown (wk W (.fieldLink "java/lang/String" 38 "java/lang/String" "COMPACT_STRINGS" "Z")) s1 (fun _ _ h => by rw [hh3]; exact h) (g := (mkF m 27 #[.val (.ref a), .val (.ref b), .val (.int (Int32.ofNat o)), .val (.int (Int32.ofNat len)), .val .null, .unset] [])) rfl (hb hbytes d27)
  have hh5 := q5.trans hh3
  have c6 : Steps p.tables e below (s₁.setTop (entryFrame m #[.ref a, .ref b, .int (Int32.ofNat o), .int (Int32.ofNat len), .null] 6)) (T5.setTop (mkF m 30 #[.val (.ref a), .val (.ref b), .val (.int (Int32.ofNat o)), .val (.int (Int32.ofNat len)), .val .null, .unset] [.int z])) := c4.trans (st5 _ (Steps.refl _))
  have c7 : Steps p.tables e below (s₁.setTop (entryFrame m #[.ref a, .ref b, .int (Int32.ofNat o), .int (Int32.ofNat len), .null] 6)) (T5.setTop (mkF m 36 #[.val (.ref a), .val (.ref b), .val (.int (Int32.ofNat o)), .val (.int (Int32.ofNat len)), .val .null, .unset] [.int (Int32.ofNat len), .int (Int32.ofNat o), .ref b])) := c6.trans (by
    refine XS.ifNo X5.here hexec rfl (hb hbytes d30) rfl (i0_eq_f hz) ?_
    refine XS.aloadN X5.here hexec rfl (hb hbytes d33) rfl rfl ?_
    refine XS.iloadN X5.here hexec rfl (hb hbytes d34) rfl ?_
    refine XS.iloadN X5.here hexec rfl (hb hbytes d35) rfl ?_
    exact Steps.refl _)
  obtain ⟨v8, T8, X8, E8, g8⟩ := X5.callS hexec (Cmp3.law l b A o len) hown (wks W (staticW "java/lang/String" 177 Cmp3.yN)) (wk W Cmp3.tab) (W := 0) (Nat.le_of_ble_eq_true rfl) (Nat.le_of_ble_eq_true rfl) (Nat.le_refl _) (by show 0 + len ≤ len; omega) (g := (mkF m 36 #[.val (.ref a), .val (.ref b), .val (.int (Int32.ofNat o)), .val (.int (Int32.ofNat len)), .val .null, .unset] [.int (Int32.ofNat len), .int (Int32.ofNat o), .ref b])) rfl (by rw [hml]; rfl) c7 (argsL := [.ref b, .int (Int32.ofNat o), .int (Int32.ofNat len)]) (rest := []) rfl rfl (by show 2 * 0 + 0 ≤ _; decide) (hb hbytes d36) (⟨rfl, hA.mv X5.warmed.alike hh5, l1, l2, hp⟩)
  obtain ⟨e8, z8⟩ := E8
  obtain ⟨rfl, N, n1, n2, n3, n4, n5, n6⟩ := NewArr.mv _ T5 s _ _ hh5.symm (Vm.Alike.refl _) rfl e8
  rw [hh5] at z8
  have hB1 := hB.keep X8.warmed.alike (n6 _ _ hB.1)
  have hne : s.heap.size ≠ a := (Nat.ne_of_lt (Array.getElem?_eq_some_iff.mp hB.1).1).symm
  have c9 : Steps p.tables e below (s₁.setTop (entryFrame m #[.ref a, .ref b, .int (Int32.ofNat o), .int (Int32.ofNat len), .null] 6)) (T8.setTop (mkF m 39 #[.val (.ref a), .val (.ref b), .val (.int (Int32.ofNat o)), .val (.int (Int32.ofNat len)), .val .null, .unset] [.ref s.heap.size])) := g8
  have c10 : Steps p.tables e below (s₁.setTop (entryFrame m #[.ref a, .ref b, .int (Int32.ofNat o), .int (Int32.ofNat len), .null] 6)) (T8.setTop (mkF m 45 #[.val (.ref a), .val (.ref b), .val (.int (Int32.ofNat o)), .val (.int (Int32.ofNat len)), .val .null, .val (.ref s.heap.size)] [.int (Int32.ofNat N.slots.size), .ref s.heap.size, .ref a])) := by
    have hc : Steps p.tables e below (s₁.setTop (entryFrame m #[.ref a, .ref b, .int (Int32.ofNat o), .int (Int32.ofNat len), .null] 6)) (T8.setTop (mkF m 45 #[.val (.ref a), .val (.ref b), .val (.int (Int32.ofNat o)), .val (.int (Int32.ofNat len)), .val .null, .val (.ref s.heap.size)] [.int (Int32.ofNat len), .ref s.heap.size, .ref a])) := c9.trans (by
      refine XS.astore X8.here hexec rfl (hb hbytes d39) rfl rfl rfl ?_
      refine XS.aloadN X8.here hexec rfl (hb hbytes d41) rfl rfl ?_
      refine XS.aload X8.here hexec rfl (hb hbytes d42) rfl rfl ?_
      refine XS.iloadN X8.here hexec rfl (hb hbytes d44) rfl ?_
      exact Steps.refl _)
    rw [n4]; exact hc
  obtain ⟨v11, T11, X11, E11, g11⟩ := X8.callS hexec (CodL.law l s.heap.size N) hown (wks W (staticW "java/lang/String" 47 CodL.yN)) (wk W CodL.tab) (W := 1) (Nat.le_of_ble_eq_true rfl) (Nat.le_of_ble_eq_true rfl) (Nat.le_refl _) (by show 0 + len + 0 ≤ len; omega) (g := (mkF m 45 #[.val (.ref a), .val (.ref b), .val (.int (Int32.ofNat o)), .val (.int (Int32.ofNat len)), .val .null, .val (.ref s.heap.size)] [.int (Int32.ofNat N.slots.size), .ref s.heap.size, .ref a])) rfl (by rw [hml]; rfl) c10 (argsL := [.ref s.heap.size, .int (Int32.ofNat N.slots.size)]) (rest := [.ref a]) rfl rfl (by show 2 * 0 + (1 + 0) ≤ _; decide) (hb hbytes d45) (⟨rfl, n1⟩)
  obtain ⟨rfl, q11⟩ := E11
  have hB11 := hB1.mv (X8.warmed.alike.symm.trans X11.warmed.alike) q11
  have c12 : Steps p.tables e below (s₁.setTop (entryFrame m #[.ref a, .ref b, .int (Int32.ofNat o), .int (Int32.ofNat len), .null] 6)) (T11.setTop (mkF m 48 #[.val (.ref a), .val (.ref b), .val (.int (Int32.ofNat o)), .val (.int (Int32.ofNat len)), .val .null, .val (.ref s.heap.size)] [.int 0, .ref a])) := g11
  obtain ⟨T13, X13, p13, bl13, sl13, st13⟩ := X11.finit hexec hown (wk W (.fieldLink "java/lang/String" 15 "java/lang/String" "coder" "B")) (Or.inr ⟨_, (wk W (.laysFinal "java/lang/String" "java/lang/String" "coder" "B"))⟩) (Or.inl ⟨rfl, hnm⟩) f2 (Or.inl rfl) hB11 (t := .byte) (by decide +kernel) rfl (g := (mkF m 48 #[.val (.ref a), .val (.ref b), .val (.int (Int32.ofNat o)), .val (.int (Int32.ofNat len)), .val .null, .val (.ref s.heap.size)] [.int 0, .ref a])) rfl (rest := []) rfl (hb hbytes d48)
  have c14 : Steps p.tables e below (s₁.setTop (entryFrame m #[.ref a, .ref b, .int (Int32.ofNat o), .int (Int32.ofNat len), .null] 6)) (T13.setTop (mkF m 54 #[.val (.ref a), .val (.ref b), .val (.int (Int32.ofNat o)), .val (.int (Int32.ofNat len)), .val .null, .val (.ref s.heap.size)] [.ref s.heap.size, .ref a])) := (c12.trans (st13 _ (Steps.refl _))).trans (by
    refine XS.aloadN X13.here hexec rfl (hb hbytes d51) rfl rfl ?_
    refine XS.aload X13.here hexec rfl (hb hbytes d52) rfl rfl ?_
    exact Steps.refl _)
  obtain ⟨T15, X15, p15, bl15, sl15, st15⟩ := X13.finit hexec hown (wk W (.fieldLink "java/lang/String" 9 "java/lang/String" "value" "[B")) (Or.inr ⟨_, (wk W (.laysFinal "java/lang/String" "java/lang/String" "value" "[B"))⟩) (Or.inl ⟨rfl, hnm⟩) f1 (Or.inl rfl) bl13 (t := (.array .byte)) (by decide +kernel) rfl (g := (mkF m 54 #[.val (.ref a), .val (.ref b), .val (.int (Int32.ofNat o)), .val (.int (Int32.ofNat len)), .val .null, .val (.ref s.heap.size)] [.ref s.heap.size, .ref a])) rfl (rest := []) rfl (hb hbytes d54)
  have c16 : Steps p.tables e below (s₁.setTop (entryFrame m #[.ref a, .ref b, .int (Int32.ofNat o), .int (Int32.ofNat len), .null] 6)) (T15.setTop (mkF m 57 #[.val (.ref a), .val (.ref b), .val (.int (Int32.ofNat o)), .val (.int (Int32.ofNat len)), .val .null, .val (.ref s.heap.size)] [])) := c14.trans (st15 _ (Steps.refl _))
  have ap := apart (Or.inr ⟨_, (wk W (.laysFinal "java/lang/String" "java/lang/String" "value" "[B"))⟩) (Or.inr ⟨_, (wk W (.laysFinal "java/lang/String" "java/lang/String" "coder" "B"))⟩) f1 f2 (t₁ := .array .byte) (t₂ := .byte) (by decide +kernel) (by decide +kernel) (by decide)
  have al := X8.warmed.alike.symm.trans X15.warmed.alike
  have n7 : T11.heap[s.heap.size]? = some N := by rw [q11]; exact n1.1
  exact ⟨T15, none, _, _, _, X15, by simp, rfl, by omega, (fun _ => rfl), ⟨rfl, _, N, bl15, ((Same.refl D _).set _ (by simp)).set _ (by simp), sl15, (Cell.slots_setSlot_ne _ ap).trans sl13, n1.keep al (p15.other hne (p13.other hne n7)), n2, by rw [al.findClass]; exact n3, n4, n5, fun y c h1 h2 => p15.other h1 (p13.other h1 (by rw [q11]; exact n6 y c h2)), by rw [p15.2.2, p13.2.2, q11]; exact z8⟩, fun fs hl => c16.trans (X15.returnOut hexec hret (hb hbytes d57) hl)⟩
end New4
namespace New1
def yN : MethodName := ⟨"java/lang/String", "<init>", "([C)V"⟩
abbrev yB : ByteArray := jdk_42_method_3_code
theorem d0 : decode yB 0 = .ok (.aload_n 0, 1) := by decide +kernel
theorem d1 : decode yB 1 = .ok (.aload_n 1, 1) := by decide +kernel
theorem d2 : decode yB 2 = .ok (.iconst 0, 1) := by decide +kernel
theorem d3 : decode yB 3 = .ok (.aload_n 1, 1) := by decide +kernel
theorem d4 : decode yB 4 = .ok (.arraylength, 1) := by decide +kernel
theorem d5 : decode yB 5 = .ok (.aconst_null, 1) := by decide +kernel
theorem d6 : decode yB 6 = .ok (.invokespecial 27, 3) := by decide +kernel
theorem d9 : decode yB 9 = .ok (.return_, 1) := by decide +kernel
def site : List Cond := [New4.tab] ++ initW "java/lang/String" 27 New4.yN
def tab : Cond := tabOf yN yB 2 none site
def P (a : Addr) (D : Cell) (fV fC : Field) (b : Addr) (A : Cell) (z : Int32) (args : Array Value) (s : State) : Prop := args = #[.ref a, .ref b] ∧ Blank "java/lang/String" a D s ∧ Found "java/lang/String" "value" "[B" fV s ∧ Found "java/lang/String" "coder" "B" fC s ∧ Ch b A s ∧ StaticIs s "java/lang/String" "COMPACT_STRINGS" "Z" (.int z) ∧ ¬ z = 0 ∧ 0 < A.slots.size ∧ A.slots.size ≤ 536870912 ∧ ∀ i, i < A.slots.size → ¬ 255 < cv A i
def E (a : Addr) (D : Cell) (fV fC : Field) (A : Cell) (r : Option Value) (s u : State) : Prop := Got a D fV fC A 0 A.slots.size r s u
/-- new String(chars), not empty, no char above 255: a Latin-1 String of their low bytes -/
theorem law (l : Launch) (a : Addr) (D : Cell) (fV fC : Field) (b : Addr) (A : Cell) (z : Int32) : Law l yN 2 1 3 52 yB 2 none site (P a D fV fC b A z) (E a D fV fC A) [⟨a, fC.slot⟩, ⟨a, fV.slot⟩] 1 A.slots.size := by
  refine Law.of_walk (plainFor_of_name (by decide +kernel)) (by decide +kernel) (by decide +kernel) (by decide) (fun _ _ h => by rw [h.1]; rfl) (fun _ U U' hal hh h => ⟨h.1, h.2.1.mv hal hh, h.2.2.1.al hal, h.2.2.2.1.al hal, h.2.2.2.2.1.mv hal hh, h.2.2.2.2.2.1.there hal hh, h.2.2.2.2.2.2⟩) (fun r U U' V V' h1 hal h2 h => Got.mv r U U' V V' h1 hal h2 h) ?_
  intro p e s m args below meth c s₁ X0 hexec hbytes hml hret hlk hnm hown hh0 W hP
  obtain ⟨rfl, hB, f1, f2, hA, s1, hz, l0, l2, hp⟩ := hP
  have c1 : Steps p.tables e below (s₁.setTop (entryFrame m #[.ref a, .ref b] 2)) (s₁.setTop (mkF m 0 #[.val (.ref a), .val (.ref b)] [])) := entry rfl
  have c2 : Steps p.tables e below (s₁.setTop (entryFrame m #[.ref a, .ref b] 2)) (s₁.setTop (mkF m 6 #[.val (.ref a), .val (.ref b)] [.null, .int (Int32.ofNat A.slots.size), .int 0, .ref b, .ref a])) := c1.trans (by
    refine XS.aloadN X0.here hexec rfl (hb hbytes d0) rfl rfl ?_
    refine XS.aloadN X0.here hexec rfl (hb hbytes d1) rfl rfl ?_
    refine iconstV X0.here hexec rfl 0 (hb hbytes d2) (by decide) ?_
    refine XS.aloadN X0.here hexec rfl (hb hbytes d3) rfl rfl ?_
    refine X0.alen hexec (hA.1.mv X0.warmed.alike hh0) rfl rfl (hb hbytes d4) ?_
    refine XS.aconstNull X0.here hexec rfl (hb hbytes d5) ?_
    exact Steps.refl _)
  obtain ⟨v3, T3, X3, E3, g3⟩ := X0.callN hexec (New4.law l a D fV fC b A z 0 A.slots.size) rfl hown (wks W (initW "java/lang/String" 27 New4.yN)) (W New4.tab (by simp only [site, List.mem_cons, List.mem_append, true_or, or_true])) (W := 0) (Nat.le_of_ble_eq_true rfl) (Nat.le_of_ble_eq_true rfl) (Nat.le_refl _) (by show 0 + A.slots.size ≤ A.slots.size; omega) (g := (mkF m 6 #[.val (.ref a), .val (.ref b)] [.null, .int (Int32.ofNat A.slots.size), .int (Int32.ofNat 0), .ref b, .ref a])) rfl (by rw [hml]; rfl) c2 (argsL := [.ref b, .int (Int32.ofNat 0), .int (Int32.ofNat A.slots.size), .null]) (rest := []) rfl rfl (by show 2 * 0 + 0 ≤ _; decide) (hb hbytes d6) (⟨rfl, hB.mv X0.warmed.alike hh0, f1.al X0.warmed.alike, f2.al X0.warmed.alike, hA.mv X0.warmed.alike hh0, s1.there X0.warmed.alike hh0, hz, l0, by omega, l2, fun i hi => by rw [Nat.zero_add]; exact hp i hi⟩)
  have e0 := Got.mv _ s₁ s _ _ hh0.symm (Vm.Alike.refl _) rfl E3
  obtain rfl := e0.1
  have c4 : Steps p.tables e below (s₁.setTop (entryFrame m #[.ref a, .ref b] 2)) (T3.setTop (mkF m 9 #[.val (.ref a), .val (.ref b)] [])) := g3
  exact ⟨T3, none, _, _, _, X3, by simp, rfl, by omega, (fun _ => rfl), e0, fun fs hl => c4.trans (X3.returnOut hexec hret (hb hbytes d9) hl)⟩
theorem pays {l : Launch} {R : Room} {p : Program} {e : Env} {below : List Frame} {s : State} {sargs : Array Value} {len W : Nat} (a : Addr) (D : Cell) (fV fC : Field) (b : Addr) (A : Cell) (z : Int32) (htab : tab.before sargs s = true) (hfr : 4 ≤ R.frames) (hlo : W + 65 ≤ R.locals) :
    Back l R p e below s sargs yN len W (fun A₁ a₁ => A₁.cells + 1 ≤ R.cells ∧ A₁.slots + A.slots.size ≤ R.slots ∧ P a D fV fC b A z a₁ A₁.U) (fun A₁ _ v₁ B₁ => E a D fV fC A v₁ A₁.U B₁.U ∧ B₁.locs = A₁.locs ++ [⟨a, fC.slot⟩, ⟨a, fV.slot⟩] ∧ B₁.cells = A₁.cells + 1 ∧ B₁.slots = A₁.slots + A.slots.size) :=
  (law l a D fV fC b A z).pays htab hfr (by omega)
end New1
/-- the byte, read back as charAt reads it, is the char -/
theorem lo8_mask {x : Int32} (h0 : ¬ x < 0) (h1 : ¬ 255 < x) : lo8 x &&& 255 = x := by
  have t : ∀ k : Fin 256, lo8 (Int32.ofNat k.val) &&& 255 = Int32.ofNat k.val := by decide +kernel
  rw [Int32.lt_iff_toInt_lt] at h0 h1
  have e0 : (0 : Int32).toInt = 0 := rfl
  have e1 : (255 : Int32).toInt = 255 := rfl
  obtain ⟨k, hk⟩ : ∃ k : Nat, x.toInt = k := ⟨x.toInt.toNat, by omega⟩
  have hx : x = Int32.ofNat k := Int32.toInt_inj.mp (by rw [hk, Int32.toInt_ofNat_small (by omega)])
  rw [hx]
  exact t ⟨k, by omega⟩
end StrChars
namespace StrChars.Road
open Jvm Sem ClassFile Op Lib Jvm.Stand Jvm.Free Jvm.Free.XT
open Jvm.Lib.Cold (StaticIs)
abbrev ST : String := "java/lang/String"
/-- every table word that New1's law asks, flat -/
abbrev words : List Jvm.Cond := [.code New1.yN New1.yB 2 none, .initialized ST, .methodLink ST 27 New4.yN, .instanceMethod New4.yN,
  .code New4.yN New4.yB 6 none, .fieldLink ST 38 ST "COMPACT_STRINGS" "Z", .laysFinal ST ST "value" "[B", .fieldLink ST 9 ST "value" "[B", .laysFinal ST ST "coder" "B", .fieldLink ST 15 ST "coder" "B",
  .methodLink ST 1 Lib.objectInit, .instanceMethod Lib.objectInit, .code Lib.objectInit ⟨#[0xb1]⟩ 1 none, .methodLink ST 177 Cmp3.yN, .static Cmp3.yN, .methodLink ST 47 CodL.yN, .static CodL.yN,
  .code Cmp3.yN Cmp3.yB 6 (some (.array .byte)), .initialized U16, .arrayClass .byte, .methodLink U16 115 Cmp5.yN, .static Cmp5.yN, .code Cmp5.yN Cmp5.yB 7 (some .int), .code CodL.yN CodL.yB 2 (some .byte)]
theorem tab_of {a : Array Value} {s : State} (h : ∀ w ∈ words, w.before a s = true) : New1.tab.before a s = true := by
  have h5 : Cmp5.tab.before a s = true := unparts (wk h (.code Cmp5.yN Cmp5.yB 7 (some .int))) (wks h (.initialized Cmp5.yN.cls :: Cmp5.site))
  have hc : CodL.tab.before a s = true := unparts (wk h (.code CodL.yN CodL.yB 2 (some .byte))) (wks h (.initialized CodL.yN.cls :: CodL.site))
  have q5 : ∀ w ∈ Cmp5.tab :: words, w.before a s = true := fun w hw => (List.mem_cons.mp hw).elim (fun e => e ▸ h5) (h w)
  have h3 : Cmp3.tab.before a s = true := unparts (wk q5 (.code Cmp3.yN Cmp3.yB 6 (some (.array .byte)))) (wks q5 (.initialized Cmp3.yN.cls :: Cmp3.site))
  have q3 : ∀ w ∈ Cmp3.tab :: CodL.tab :: words, w.before a s = true := fun w hw => (List.mem_cons.mp hw).elim (fun e => e ▸ h3) fun hw => (List.mem_cons.mp hw).elim (fun e => e ▸ hc) (h w)
  have h4 : New4.tab.before a s = true := unparts (wk q3 (.code New4.yN New4.yB 6 none)) (wks q3 (.initialized New4.yN.cls :: New4.site))
  have q4 : ∀ w ∈ New4.tab :: words, w.before a s = true := fun w hw => (List.mem_cons.mp hw).elim (fun e => e ▸ h4) (h w)
  exact unparts (wk q4 (.code New1.yN New1.yB 2 none)) (wks q4 (.initialized New1.yN.cls :: New1.site))
/-- the words ride from the start Z to the walk's own state -/
theorem moved {Z s : State} {a0 args : Array Value} (hZ : Z.Warmed39 s.vm) (hw : ∀ d ∈ words, d.before a0 Z = true) : ∀ d ∈ words, d.before args s = true := fun d hd => by
  have q := hw d hd
  have t : ∀ d ∈ words, d = .arrayClass .byte ∨ (d.onTables && d.keepsFace) = true := by decide +kernel
  rcases t d hd with rfl | t
  · exact RoadKit.mvA hZ q
  · exact RoadKit.mv hZ q t
/-- WHAT COMES BACK, over the tables of the start Z: h the heap at the call, h' behind it -/
def Q (Z : State) (x : Addr) (A : Cell) (h : Heap) (v : Option Value) (h' : Heap) (L : List Loc) : Prop := v = none ∧ (∀ y ∈ L, y.base = x) ∧ RoadKit.Keep h h' [x] ∧ h'.size = h.size + 1 ∧ RoadKit.Exa Z h' x ST ∧ RoadKit.Fld Z h' x ST "value" "[B" (.ref h.size) ∧ RoadKit.Fld Z h' x ST "coder" "B" (.int 0) ∧
  (∃ V : Cell, RoadKit.Arr Z h' h.size V .byte ∧ V.vm = .none ∧ Z.vm.findClass "[B" = some V.cls ∧ V.slots.size = A.slots.size ∧ ∀ j, j < A.slots.size → V.slots[j]? = some (.int (lo8 (cv A j)))) ∧
  ∀ (O n d : String) (w : Value), RoadKit.Fld Z h x O n d w → RoadKit.slotOf Z O n d ≠ RoadKit.slotOf Z ST "value" "[B" → RoadKit.slotOf Z O n d ≠ RoadKit.slotOf Z ST "coder" "B" → RoadKit.Fld Z h' x O n d w
/-- **new String(chars) AT A CALL, IN THE ROAD'S FORM**: for specialBack behind newO: x the fresh String, b the char[] with the cell A -/
theorem back {p : Program} {l : Launch} {e : Env} {R : Room} {s : State} {args : Array Value} {below : List Frame} {len W : Nat} {Z : State} {a0 : Array Value} {h : Heap} (hZ : Z.Warmed39 s.vm) (hw : ∀ d ∈ words, d.before a0 Z = true) {kI : Nat} (wi : (Jvm.Cond.instantiable ST kI).before a0 Z = true)
    {x b : Addr} {A : Cell} {z : Int32} {v0 c0 : Value} (E : RoadKit.Exa Z h x ST) (V : RoadKit.Fld Z h x ST "value" "[B" v0) (C : RoadKit.Fld Z h x ST "coder" "B" c0) (K : RoadKit.Arr Z h b A .char) (hty : Typed .char A) (S : RoadKit.Sta Z h ST "COMPACT_STRINGS" "Z" (.int z)) (hz : ¬ z = 0)
    (l0 : 0 < A.slots.size) (l2 : A.slots.size ≤ 536870912) (hp : ∀ i, i < A.slots.size → ¬ 255 < cv A i) (hfr : 4 ≤ R.frames) (hlo : W + 65 ≤ R.locals) :
    Back l R p e below s args New1.yN len W (fun P a => a = #[.ref x, .ref b] ∧ P.U.heap = h ∧ P.cells + 1 ≤ R.cells ∧ P.slots + A.slots.size ≤ R.slots)
      (fun P _ v B => ∃ L, Q Z x A h v B.U.heap L ∧ B.locs = P.locs ++ L ∧ B.cells = P.cells + 1 ∧ B.slots = P.slots + A.slots.size) := by
  intro m meth c P g ig mk a X hg hsize hdg hW hn hp'
  obtain ⟨rfl, rfl, r1, r2⟩ := hp'
  have al : Z.vm.Alike P.U.vm := hZ.alike.trans X.warmed.alike
  obtain ⟨D, cfV, kV, iV, fV, hD, gV, stV, knV, obV, asV, slV⟩ := id V
  obtain ⟨D', cfC, kC, iC, fC, hD', gC, stC, -, -, asC, slC⟩ := id C
  cases hD.symm.trans hD'
  obtain ⟨D2, kD, e1, e2, e3, e4, e5⟩ := id E
  cases hD.symm.trans e1
  obtain ⟨c2, k2, i1, i2, i3, -⟩ := Cond.instantiable_spec wi
  cases e2.symm.trans i1
  cases e3.symm.trans i2
  obtain ⟨kU, u1, u2⟩ := al.2.2 _ _ e3
  have hB : Blank ST x D P.U := ⟨hD, ⟨knV, fun q hq => by rw [hq] at obV; cases obV⟩, by rw [al.findClass]; exact e2, kU, u1, by rw [u2]; exact i3, by rw [u2]; exact e5 i3⟩
  have F1 : Found ST "value" "[B" fV P.U := ⟨SBG.found_only al ⟨cfV, kV, iV, gV⟩, stV⟩
  have F2 : Found ST "coder" "B" fC P.U := ⟨SBG.found_only al ⟨cfC, kC, iC, gC⟩, stC⟩
  have hA : Ch b A P.U := ⟨⟨K.1, State.isArrayOf_alike al K.2.1, K.2.2, by omega⟩, hty⟩
  have hS : StaticIs P.U ST "COMPACT_STRINGS" "Z" (.int z) := by
    obtain ⟨cfS, iS, kS, fS, st, cS, t1, t2, t3, t4, t5, t6, t7⟩ := S
    exact StaticIs.there (s := { Z with heap := P.U.heap }) ⟨cfS, iS, kS, fS, st, cS, t1, t2, t3, t4, t5, (fun q => by rw [q] at t6; cases t6), t7⟩ al rfl
  obtain ⟨v, B, X', ⟨⟨hv, E', V', q1, q2, q3, q4, q5, q6, q7, q8, q9, q10, q11⟩, hl, hc, hs⟩, st⟩ := New1.pays x D fV fC b A z (tab_of (moved hZ hw)) hfr hlo m meth c P g ig mk _ X hg hsize hdg hW hn ⟨r1, r2, rfl, hB, F1, F2, hA, hS, hz, l0, l2, hp⟩
  have al' : Z.vm.Alike B.U.vm := hZ.alike.trans X'.warmed.alike
  have hsz : E'.slots.size = D.slots.size := by
    obtain ⟨-, -, -, kB, w1, w2, w3⟩ := q1
    obtain ⟨kB', y1, y2⟩ := al'.2.2 _ _ e3
    rw [q2.2.1] at w1
    cases w1.symm.trans y1
    rw [w3, e5 i3, y2]
  refine ⟨v, B, X', ⟨_, ⟨hv, ?_, ⟨by omega, fun y cy hy hn' => q10 y cy (by simpa using hn') hy, fun y cy hy => ?_⟩, q11, ⟨E', _, q1.1, by rw [q2.2.1]; exact e2, by rw [q2.2.1]; exact e3, by rw [q2.1]; exact obV, fun _ => by rw [hsz]; exact e5 i3⟩,
    ⟨E', cfV, kV, iV, fV, q1.1, gV, stV, by rw [q2.1]; exact knV, by rw [q2.1]; exact obV, by rw [q2.2.1]; exact asV, q3⟩, ⟨E', cfC, kC, iC, fC, q1.1, gC, stC, by rw [q2.1]; exact knV, by rw [q2.1]; exact obV, by rw [q2.2.1]; exact asC, q4⟩,
    ⟨V', ⟨q5.1, State.isArrayOf_alike al'.symm q5.2.1, q5.2.2.1⟩, q6, by rw [← al'.findClass]; exact q7, q8, fun j hj => by have := q9 j hj; rwa [Nat.zero_add] at this⟩, fun O n d w F n1 n2 => ?_⟩, hl, hc, hs⟩, st⟩
  · intro y hy
    simp only [List.mem_cons, List.not_mem_nil, or_false] at hy
    rcases hy with rfl | rfl <;> rfl
  · by_cases q : y = x
    · subst q
      cases hD.symm.trans hy
      exact ⟨E', q1.1, q2.2.1, q2.1, hsz⟩
    · exact ⟨cy, q10 y cy q hy, rfl, rfl, rfl⟩
  · obtain ⟨D3, cf, k, i, f, g1, g2, g3, g4, g5, g6, g7⟩ := F
    cases hD.symm.trans g1
    simp only [RoadKit.slotOf, g2, gV, gC, Option.map_some, Option.getD_some] at n1 n2
    exact ⟨E', cf, k, i, f, q1.1, g2, g3, by rw [q2.1]; exact g4, by rw [q2.1]; exact g5, by rw [q2.2.1]; exact g6, by rw [q2.2.2 f.slot (by simp [n1, n2])]; exact g7⟩
end StrChars.Road
namespace StrChars.Road
open Jvm Sem ClassFile Op Lib Jvm.Stand Jvm.Free Jvm.Free.XT
/-- WHAT COMES BACK, the byte[] as a list of values -/
def QA (Z : State) (x : Addr) (zn : Int32) (cs : List Int32) (h : Heap) (v : Option Value) (h' : Heap) (L : List Loc) : Prop := v = none ∧ (∀ y ∈ L, y.base = x) ∧ RoadKit.Keep h h' [x] ∧ h'.size = h.size + 1 ∧ RoadKit.Exa Z h' x ST ∧ RoadKit.Fld Z h' x ST "value" "[B" (.ref h.size) ∧ RoadKit.Fld Z h' x ST "coder" "B" (.int 0) ∧
  (∃ kb, Z.vm.findClass "[B" = some kb ∧ RoadKit.Arv Z h' h.size kb .byte zn (cs.map fun c => .int (lo8 c)) (.int 0)) ∧
  ∀ (O n d : String) (w : Value), RoadKit.Fld Z h x O n d w → RoadKit.slotOf Z O n d ≠ RoadKit.slotOf Z ST "value" "[B" → RoadKit.slotOf Z O n d ≠ RoadKit.slotOf Z ST "coder" "B" → RoadKit.Fld Z h' x O n d w
/-- **new String(chars) AT A CALL, THE ARRAYS AS LISTS**: the char[] at b holds cs, not empty, no char above 255 -/
theorem backArv {p : Program} {l : Launch} {e : Env} {R : Room} {s : State} {args : Array Value} {below : List Frame} {len W : Nat} {Z : State} {a0 : Array Value} {h : Heap} (hZ : Z.Warmed39 s.vm) (hw : ∀ d ∈ words, d.before a0 Z = true) {kI : Nat} (wi : (Jvm.Cond.instantiable ST kI).before a0 Z = true)
    {x b : Addr} {k : ClassId} {zn z : Int32} {cs : List Int32} {dv v0 c0 : Value} (E : RoadKit.Exa Z h x ST) (V : RoadKit.Fld Z h x ST "value" "[B" v0) (C : RoadKit.Fld Z h x ST "coder" "B" c0) (K : RoadKit.Arv Z h b k .char zn (cs.map Value.int) dv) (S : RoadKit.Sta Z h ST "COMPACT_STRINGS" "Z" (.int z)) (hz : ¬ z = 0)
    (hlen : zn.toNatClampNeg = cs.length) (h0 : 0 < cs.length) (hbig : cs.length ≤ 536870912) (hall : ∀ c ∈ cs, ¬ 255 < c) (hfr : 4 ≤ R.frames) (hlo : W + 65 ≤ R.locals) :
    Back l R p e below s args New1.yN len W (fun P a => a = #[.ref x, .ref b] ∧ P.U.heap = h ∧ P.cells + 1 ≤ R.cells ∧ P.slots + cs.length ≤ R.slots)
      (fun P _ v B => ∃ L, QA Z x zn cs h v B.U.heap L ∧ B.locs = P.locs ++ L ∧ B.cells = P.cells + 1 ∧ B.slots = P.slots + cs.length) := by
  obtain ⟨A, K1, K2, K3, K4, K5, K6⟩ := K
  have e : A.slots.size = cs.length := K3.trans hlen
  have hat : ∀ (i : Nat) (hi : i < cs.length), A.slots[i]? = some (.int cs[i]) := fun i hi => by rw [K5 i (by omega)]; simp [List.getD_eq_getElem?_getD, hi]
  have hcv : ∀ (i : Nat) (hi : i < cs.length), cv A i = cs[i] := fun i hi => by unfold cv; rw [hat i hi]
  have hty : Typed .char A := fun i v hv => by
    have hi : i < A.slots.size := (Array.getElem?_eq_some_iff.mp hv).1
    have q := K5 i hi
    rw [hv] at q
    rw [Option.some.inj q]
    exact K6 i hi
  refine Back.mono (back hZ hw wi E V C K1 hty S hz (by omega) (by omega) (fun i hi => by rw [hcv i (by omega)]; exact hall _ (List.getElem_mem _)) hfr hlo) (fun P a hp => ⟨hp.1, hp.2.1, hp.2.2.1, by rw [e]; exact hp.2.2.2⟩) (fun P a v B hp hq => ?_)
  obtain ⟨L, ⟨q1, q2, q3, q4, q5, q6, q7, ⟨V', v1, v2, v3, v4, v5⟩, q9⟩, hl, hc, hs⟩ := hq
  refine ⟨L, ⟨q1, q2, q3, q4, q5, q6, q7, ⟨V'.cls, v3, V', v1, rfl, by rw [v4, e, hlen], K4, fun i hi => ?_, fun i hi => ?_⟩, q9⟩, hl, hc, by rw [hs, e]⟩
  · have hi' : i < cs.length := by omega
    rw [v5 i (by omega), hcv i hi']; simp [List.getD_eq_getElem?_getD, hi']
  · have hi' : i < cs.length := by omega
    simp only [List.getD_eq_getElem?_getD, List.getElem?_map, List.getElem?_eq_getElem hi', Option.map_some, Option.getD_some]
    exact fits_lo8 _
end StrChars.Road
namespace StrChars.Road
open Jvm Sem ClassFile Op Lib Jvm.Stand Jvm.Free Jvm.Free.XT
/-- WHAT COMES BACK, in the writer's own shape -/
def QV (Z : State) (x : Addr) (N : Int32) (bs : List Int32) (h : Heap) (n0 : Nat) (v : Option Value) (h' : Heap) (L : List Loc) : Prop := v = none ∧ RoadKit.Fr n0 L ∧ RoadKit.Keep h h' [x] ∧ RoadKit.Exa Z h' x ST ∧ RoadKit.Fld Z h' x ST "coder" "B" (.int 0) ∧
  ∃ (t : Addr) (kb : ClassId), n0 ≤ t ∧ h.size ≤ t ∧ ¬ t = x ∧ RoadKit.Fld Z h' x ST "value" "[B" (.ref t) ∧ RoadKit.Arv Z h' t kb .byte N (bs.map Value.int) (.int 0)
/-- **new String(chars) AT A CALL, FOR THE WRITER**: a char[] of n known ints, each 0 to 255 -/
theorem backV {p : Program} {l : Launch} {e : Env} {R : Room} {s : State} {args : Array Value} {below : List Frame} {len W : Nat} {Z : State} {a0 : Array Value} {h : Heap} (hZ : Z.Warmed39 s.vm) (hw : ∀ d ∈ words, d.before a0 Z = true) {kI : Nat} (wi : (Jvm.Cond.instantiable ST kI).before a0 Z = true)
    {x b : Addr} {kC : ClassId} {cs bs : List Int32} {d v0 c0 : Value} {z N : Int32} {n n0 : Nat} (hx0 : n0 ≤ x) (hh0 : n0 ≤ h.size) (E : RoadKit.Exa Z h x ST) (V : RoadKit.Fld Z h x ST "value" "[B" v0) (C : RoadKit.Fld Z h x ST "coder" "B" c0) (K : RoadKit.Arv Z h b kC .char N (cs.map Value.int) d) (S : RoadKit.Sta Z h ST "COMPACT_STRINGS" "Z" (.int z)) (hz : ¬ z = 0)
    (hn : cs.length = n) (hN : N = Int32.ofNat n) (l0 : 0 < n) (l2 : n ≤ 4000) (hp : ∀ c ∈ cs, ¬ c < 0 ∧ ¬ (255 : Int32) < c) (hb : bs = cs.map (fun c => c.toInt8.toInt32)) (hfr : 4 ≤ R.frames) (hlo : W + 65 ≤ R.locals) :
    Back l R p e below s args (⟨"java/lang/String", "<init>", "([C)V"⟩ : MethodName) len W (fun P a => a = #[.ref x, .ref b] ∧ P.U.heap = h ∧ P.cells + 1 ≤ R.cells ∧ P.slots + n ≤ R.slots)
      (fun P _ v B => ∃ L, QV Z x N bs h n0 v B.U.heap L ∧ B.locs = P.locs ++ L ∧ B.cells = P.cells + 1 ∧ B.slots = P.slots + n) := by
  subst hn hN hb
  refine Back.mono (backArv hZ hw wi E V C K S hz (n32 (by omega)) l0 (by omega) (fun c hc => (hp c hc).2) hfr hlo) (fun P a hp => hp) (fun P a v B hp hq => ?_)
  obtain ⟨L, ⟨q1, q2, q3, q4, q5, q6, q7, ⟨kb, v1, v2⟩, q9⟩, hl, hc, hs⟩ := hq
  exact ⟨L, ⟨q1, fun y hy => by rw [q2 y hy]; exact hx0, q3, q5, q7, h.size, kb, hh0, Nat.le_refl _, Nat.ne_of_gt E.lt, q6, by rw [List.map_map]; exact v2⟩, hl, hc, hs⟩
end StrChars.Road
namespace StrChars
open Jvm Sem ClassFile Op Lib Jvm.Stand Jvm.Free.XT Jvm.Free.ALB Jvm.Free.JM Jvm.Free
open Jvm.Lib.Cold (StaticIs)
def hi8 (x : Int32) : Int32 := lo8 (x >>> ((8 : Int32) &&& 31))
/-- what StringUTF16.getChar makes of two bytes -/
def pairCh (u v : Int32) : Int32 := (((u &&& 255) <<< ((0 : Int32) &&& 31)) ||| ((v &&& 255) <<< ((8 : Int32) &&& 31))).toUInt32.toUInt16.toUInt32.toInt32
theorem shr0 (c : Int32) : c >>> ((0 : Int32) &&& 31) = c := by
  have e : ((0 : Int32) &&& 31) = 0 := by decide
  rw [e]
  apply Int32.toBitVec_inj.mp
  rw [Int32.toBitVec_shiftRight]
  have e1 : ((0 : Int32).toBitVec.smod 32) = 0#32 := by decide
  rw [e1, BitVec.sshiftRight_eq']
  exact BitVec.sshiftRight_zero
theorem lo8_and (x : Int32) : (lo8 x &&& 255).toBitVec.toNat = x.toBitVec.toNat % 256 := by
  have h : (lo8 x).toBitVec = (x.toBitVec.signExtend 8).signExtend 32 := by rw [lo8, Int8.toBitVec_toInt32, Int32.toBitVec_toInt8]
  rw [Int32.toBitVec_and, BitVec.toNat_and, h]
  have e : ((x.toBitVec.signExtend 8).signExtend 32).toNat % 256 = x.toBitVec.toNat % 256 := by
    rw [BitVec.toNat_signExtend]
    have hlt := x.toBitVec.isLt
    simp only [BitVec.toNat_setWidth, BitVec.toNat_signExtend]
    split <;> split <;> omega
  rw [← e]
  exact Nat.and_two_pow_sub_one_eq_mod _ 8
theorem pair_says {c : Int32} (h0 : ¬ c < 0) (h1 : ¬ 65535 < c) : pairCh (lo8 c) (hi8 c) = c := by
  rw [Int32.lt_iff_toInt_lt] at h0 h1
  have e0 : (0 : Int32).toInt = 0 := rfl
  have e1 : (65535 : Int32).toInt = 65535 := rfl
  have hc : c.toInt = c.toBitVec.toNat := by
    have := c.toBitVec.isLt
    have e : c.toInt = c.toBitVec.toInt := rfl
    rw [e] at h0 h1
    rw [e]
    rw [BitVec.toInt_eq_toNat_cond] at h0 h1 ⊢
    split at h0 <;> split <;> omega
  have hn : c.toBitVec.toNat < 65536 := by omega
  have a1 := lo8_and c
  have a2 : (hi8 c &&& 255).toBitVec.toNat = c.toBitVec.toNat / 256 := by
    rw [hi8, lo8_and]
    have e : ((8 : Int32) &&& 31) = 8 := by decide
    rw [e, Int32.toBitVec_shiftRight]
    have e2 : ((8 : Int32).toBitVec.smod 32) = 8#32 := by decide
    rw [e2, BitVec.sshiftRight_eq', BitVec.toNat_sshiftRight_of_msb_false (by rw [BitVec.msb_eq_false_iff_two_mul_lt]; omega)]
    show c.toBitVec.toNat >>> 8 % 256 = _
    rw [Nat.shiftRight_eq_div_pow]
    omega
  unfold pairCh
  apply Int32.toBitVec_inj.mp
  apply BitVec.eq_of_toNat_eq
  have f0 : ((0 : Int32) &&& 31) = 0 := by decide
  have f8 : ((8 : Int32) &&& 31) = 8 := by decide
  rw [f0, f8]
  have g : (((lo8 c &&& 255) <<< (0 : Int32)) ||| ((hi8 c &&& 255) <<< (8 : Int32))).toBitVec.toNat = c.toBitVec.toNat := by
    rw [Int32.toBitVec_or, Int32.toBitVec_shiftLeft, Int32.toBitVec_shiftLeft]
    have s0 : ((0 : Int32).toBitVec.smod 32) = 0#32 := by decide
    have s8 : ((8 : Int32).toBitVec.smod 32) = 8#32 := by decide
    rw [s0, s8, BitVec.toNat_or]
    simp only [BitVec.shiftLeft_eq', BitVec.toNat_shiftLeft, a1, a2]
    show (c.toBitVec.toNat % 256) <<< 0 % 2 ^ 32 ||| (c.toBitVec.toNat / 256) <<< 8 % 2 ^ 32 = _
    rw [Nat.shiftLeft_zero, Nat.mod_eq_of_lt (show c.toBitVec.toNat % 256 < 2 ^ 32 by omega), Nat.mod_eq_of_lt (show (c.toBitVec.toNat / 256) <<< 8 < 2 ^ 32 by rw [Nat.shiftLeft_eq]; omega), Nat.or_comm, ← Nat.shiftLeft_add_eq_or_of_lt (by omega), Nat.shiftLeft_eq]
    omega
  show BitVec.toNat (((((lo8 c &&& 255) <<< (0 : Int32)) ||| ((hi8 c &&& 255) <<< (8 : Int32))).toBitVec.setWidth 16).setWidth 32) = _
  rw [BitVec.toNat_setWidth, BitVec.toNat_setWidth, g]
  omega
end StrChars
namespace StrChars
open Jvm Sem ClassFile Op Lib Jvm.Stand Jvm.Free.XT Jvm.Free.ALB Jvm.Free.JM Jvm.Free
open Jvm.Lib.Cold (StaticIs)
theorem shr1 {n : Nat} (h : 2 * n < 2 ^ 31) : Int32.ofNat (2 * n) >>> ((1 : Int32) &&& 31) = Int32.ofNat n := by
  have e : ((1 : Int32) &&& 31) = 1 := by decide
  rw [e]
  apply Int32.toBitVec_inj.mp
  rw [Int32.toBitVec_shiftRight]
  have e1 : ((1 : Int32).toBitVec.smod 32) = 1#32 := by decide
  have hm : (BitVec.ofNat 32 (2 * n)).toNat = 2 * n := by rw [BitVec.toNat_ofNat, Nat.mod_eq_of_lt (by omega)]
  rw [e1, BitVec.sshiftRight_eq']
  apply BitVec.eq_of_toNat_eq
  show ((BitVec.ofNat 32 (2 * n)).sshiftRight 1).toNat = (BitVec.ofNat 32 n).toNat
  rw [BitVec.toNat_sshiftRight_of_msb_false (by rw [BitVec.msb_eq_false_iff_two_mul_lt, hm]; omega), hm, BitVec.toNat_ofNat, Nat.shiftRight_eq_div_pow]
  omega
/-- charAt's cast of a byte read back -/
def chr8 (u : Int32) : Int32 := (u &&& 255).toUInt32.toUInt16.toUInt32.toInt32
theorem chr8_lo8 {c : Int32} (h0 : ¬ c < 0) (h1 : ¬ 255 < c) : chr8 (lo8 c) = c := by
  have t : ∀ k : Fin 256, (Int32.ofNat k.val).toUInt32.toUInt16.toUInt32.toInt32 = Int32.ofNat k.val := by decide +kernel
  unfold chr8
  rw [lo8_mask h0 h1]
  rw [Int32.lt_iff_toInt_lt] at h0 h1
  have e0 : (0 : Int32).toInt = 0 := rfl
  have e1 : (255 : Int32).toInt = 255 := rfl
  obtain ⟨k, hk⟩ : ∃ k : Nat, c.toInt = k := ⟨c.toInt.toNat, by omega⟩
  have hx : c = Int32.ofNat k := Int32.toInt_inj.mp (by rw [hk, Int32.toInt_ofNat_small (by omega)])
  rw [hx]
  exact t ⟨k, by omega⟩
theorem narrow_ch {c : Int32} (h0 : ¬ c < 0) (h1 : ¬ 65535 < c) : narrow .char (.int c) = .int c := by
  have q : narrow .char (.int (pairCh (lo8 c) (hi8 c))) = .int (pairCh (lo8 c) (hi8 c)) := narrow_c _
  rwa [pair_says h0 h1] at q
/-- the array's cell V codes the n chars f 0 .. f (n - 1) by the coder cd, as the JDK does: coder 1 just where some char is above 255 -/
def Cod (cd : Int32) (n : Nat) (f : Nat → Int32) (V : Cell) : Prop := (cd = 0 ∧ V.slots.size = n ∧ ∀ j, j < n → V.slots[j]? = some (.int (lo8 (f j))) ∧ ¬ 255 < f j) ∨ (cd = 1 ∧ V.slots.size = 2 * n ∧ (∀ j, j < n → V.slots[2 * j]? = some (.int (lo8 (f j))) ∧ V.slots[2 * j + 1]? = some (.int (hi8 (f j)))) ∧ ∃ j, j < n ∧ 255 < f j)
theorem Cod.cd {cd : Int32} {n : Nat} {f : Nat → Int32} {V : Cell} (h : Cod cd n f V) : cd = 0 ∨ cd = 1 := h.imp (fun q => q.1) fun q => q.1
theorem Cod.len {cd : Int32} {n : Nat} {f : Nat → Int32} {V : Cell} (h : Cod cd n f V) (hs : V.slots.size < 2 ^ 31) : Int32.ofNat V.slots.size >>> (cd &&& 31) = Int32.ofNat n := by
  rcases h with ⟨rfl, h, -⟩ | ⟨rfl, h, -⟩
  · rw [shr0, h]
  · rw [h, shr1 (by omega)]
/-- **x is a String of the n chars f 0 .. f (n - 1)**, Latin-1 or UTF-16; its array at t has the cell V -/
def Txt (x t : Addr) (V : Cell) (cd : Int32) (n : Nat) (f : Nat → Int32) (U : State) : Prop := Exact "java/lang/String" x U ∧ Has x "java/lang/String" "value" "[B" (.ref t) U ∧ Has x "java/lang/String" "coder" "B" (.int cd) U ∧ XT.Arr .byte t V U ∧ Cod cd n f V ∧ ∀ j, j < n → ¬ f j < 0 ∧ ¬ 65535 < f j
theorem Txt.mv {x t : Addr} {V : Cell} {cd : Int32} {n : Nat} {f : Nat → Int32} {U U' : State} (h : Txt x t V cd n f U) (hal : U.vm.Alike U'.vm) (hh : U'.heap = U.heap) : Txt x t V cd n f U' := ⟨h.1.mv hal hh, h.2.1.mv hal hh, h.2.2.1.mv hal hh, h.2.2.2.1.mv hal hh, h.2.2.2.2⟩
namespace Cdr
def yN : MethodName := ⟨"java/lang/String", "coder", "()B"⟩
abbrev yB : ByteArray := jdk_42_method_152_code
theorem d0 : decode yB 0 = .ok (.getstatic 38, 3) := by decide +kernel
theorem d3 : decode yB 3 = .ok (.ifCond (.eq) 10, 3) := by decide +kernel
theorem d6 : decode yB 6 = .ok (.aload_n 0, 1) := by decide +kernel
theorem d7 : decode yB 7 = .ok (.getfield 15, 3) := by decide +kernel
theorem d10 : decode yB 10 = .ok (.goto 4, 3) := by decide +kernel
theorem d14 : decode yB 14 = .ok (.ireturn, 1) := by decide +kernel
def site : List Cond := [.fieldLink "java/lang/String" 38 "java/lang/String" "COMPACT_STRINGS" "Z", .fieldLink "java/lang/String" 15 "java/lang/String" "coder" "B"]
def tab : Cond := tabOf yN yB 1 (some .byte) site
def P (x : Addr) (cd z : Int32) (args : Array Value) (s : State) : Prop := args = #[.ref x] ∧ Has x "java/lang/String" "coder" "B" (.int cd) s ∧ (cd = 0 ∨ cd = 1) ∧ StaticIs s "java/lang/String" "COMPACT_STRINGS" "Z" (.int z) ∧ ¬ z = 0
def E (cd : Int32) (r : Option Value) (s u : State) : Prop := XT.PureE (some (.int cd)) r s u
theorem law (l : Launch) (x : Addr) (cd z : Int32) : Law l yN 1 0 0 0 yB 1 (some .byte) site (P x cd z) (E cd) [] 0 0 := by
  refine Law.of_walk (plainFor_of_name (by decide +kernel)) (by decide +kernel) (by decide +kernel) (by decide) (fun _ _ h => by rw [h.1]; rfl) (fun _ U U' hal hh h => ⟨h.1, h.2.1.mv hal hh, h.2.2.1, h.2.2.2.1.there hal hh, h.2.2.2.2⟩) (fun r U U' V V' h1 hal h2 h => XT.PureE.mv r U U' V V' h1 hal h2 h) ?_
  intro p e s m args below meth c s₁ X0 hexec hbytes hml hret hlk hnm hown hh0 W hP
  obtain ⟨rfl, hx, hc, s1, hz⟩ := hP
  have c1 : Steps p.tables e below (s₁.setTop (entryFrame m #[.ref x] 1)) (s₁.setTop (mkF m 0 #[.val (.ref x)] [])) := entry rfl
  obtain ⟨T2, X2, q2, st2⟩ := X0.sget hexec hown (wk W (.fieldLink "java/lang/String" 38 "java/lang/String" "COMPACT_STRINGS" "Z")) s1 (fun _ _ h => by rw [hh0]; exact h) (g := (mkF m 0 #[.val (.ref x)] [])) rfl (hb hbytes d0)
  have hh2 := q2.trans hh0
  have c3 : Steps p.tables e below (s₁.setTop (entryFrame m #[.ref x] 1)) (T2.setTop (mkF m 7 #[.val (.ref x)] [.ref x])) := (c1.trans (st2 _ (Steps.refl _))).trans (by
    refine XS.ifNo X2.here hexec rfl (hb hbytes d3) rfl (i0_eq_f hz) ?_
    refine XS.aloadN X2.here hexec rfl (hb hbytes d6) rfl rfl ?_
    exact Steps.refl _)
  obtain ⟨T4, X4, q4, st4⟩ := X2.hget hexec hown (wk W (.fieldLink "java/lang/String" 15 "java/lang/String" "coder" "B")) (hx.mv X2.warmed.alike hh2) (g := (mkF m 7 #[.val (.ref x)] [.ref x])) rfl (rest := []) rfl (hb hbytes d7)
  have c5 : Steps p.tables e below (s₁.setTop (entryFrame m #[.ref x] 1)) (T4.setTop (mkF m 14 #[.val (.ref x)] [.int cd])) := (c3.trans (st4 _ (Steps.refl _))).trans (by
    refine XS.goto X4.here hexec rfl (pc0 := 10) rfl (hb hbytes d10) (by decide) rfl ?_
    exact Steps.refl _)
  exact ⟨T4, some (.int cd), _, _, _, X4, rfl, rfl, rfl, (fun h => by cases h), ⟨rfl, q4.trans hh2⟩, fun fs hl => c5.trans (X4.ireturnOut hexec hret (by rcases hc with rfl | rfl <;> rfl) (Or.inr (Or.inr (Or.inl rfl))) (hb hbytes d14) hl)⟩
end Cdr
namespace Len
def yN : MethodName := ⟨"java/lang/String", "length", "()I"⟩
abbrev yB : ByteArray := jdk_42_method_54_code
theorem d0 : decode yB 0 = .ok (.aload_n 0, 1) := by decide +kernel
theorem d1 : decode yB 1 = .ok (.getfield 9, 3) := by decide +kernel
theorem d4 : decode yB 4 = .ok (.arraylength, 1) := by decide +kernel
theorem d5 : decode yB 5 = .ok (.aload_n 0, 1) := by decide +kernel
theorem d6 : decode yB 6 = .ok (.invokevirtual 335, 3) := by decide +kernel
theorem d9 : decode yB 9 = .ok (.ishr, 1) := by decide +kernel
theorem d10 : decode yB 10 = .ok (.ireturn, 1) := by decide +kernel
def site : List Cond := [.fieldLink "java/lang/String" 9 "java/lang/String" "value" "[B", Cdr.tab] ++ virtW "java/lang/String" 335 "java/lang/String" Cdr.yN Cdr.yN
def tab : Cond := tabOf yN yB 1 (some .int) site
def P (x t : Addr) (V : Cell) (cd : Int32) (n : Nat) (f : Nat → Int32) (z : Int32) (args : Array Value) (s : State) : Prop := args = #[.ref x] ∧ Txt x t V cd n f s ∧ StaticIs s "java/lang/String" "COMPACT_STRINGS" "Z" (.int z) ∧ ¬ z = 0
def E (n : Nat) (r : Option Value) (s u : State) : Prop := XT.PureE (some (.int (Int32.ofNat n))) r s u
/-- length() of a String of n chars, in either coding -/
theorem law (l : Launch) (x t : Addr) (V : Cell) (cd : Int32) (n : Nat) (f : Nat → Int32) (z : Int32) : Law l yN 1 0 1 13 yB 1 (some .int) site (P x t V cd n f z) (E n) [] 0 0 := by
  refine Law.of_walk (plainFor_of_name (by decide +kernel)) (by decide +kernel) (by decide +kernel) (by decide) (fun _ _ h => by rw [h.1]; rfl) (fun _ U U' hal hh h => ⟨h.1, h.2.1.mv hal hh, h.2.2.1.there hal hh, h.2.2.2⟩) (fun r U U' V V' h1 hal h2 h => XT.PureE.mv r U U' V V' h1 hal h2 h) ?_
  intro p e s m args below meth c s₁ X0 hexec hbytes hml hret hlk hnm hown hh0 W hP
  obtain ⟨rfl, hx, s1, hz⟩ := hP
  have v31 := hx.2.2.2.1.2.2.2
  have c1 : Steps p.tables e below (s₁.setTop (entryFrame m #[.ref x] 1)) (s₁.setTop (mkF m 1 #[.val (.ref x)] [.ref x])) := Steps.trans (entry rfl) (by
    show Steps p.tables e below (s₁.setTop (mkF m 0 #[.val (.ref x)] [])) _
    refine XS.aloadN X0.here hexec rfl (hb hbytes d0) rfl rfl ?_
    exact Steps.refl _)
  obtain ⟨T2, X2, q2, st2⟩ := X0.hget hexec hown (wk W (.fieldLink "java/lang/String" 9 "java/lang/String" "value" "[B")) (hx.mv X0.warmed.alike hh0).2.1 (g := (mkF m 1 #[.val (.ref x)] [.ref x])) rfl (rest := []) rfl (hb hbytes d1)
  have hh2 := q2.trans hh0
  have hx2 := hx.mv X2.warmed.alike hh2
  have c3 : Steps p.tables e below (s₁.setTop (entryFrame m #[.ref x] 1)) (T2.setTop (mkF m 6 #[.val (.ref x)] [.ref x, .int (Int32.ofNat V.slots.size)])) := (c1.trans (st2 _ (Steps.refl _))).trans (by
    refine X2.alen hexec hx2.2.2.2.1 rfl rfl (hb hbytes d4) ?_
    refine XS.aloadN X2.here hexec rfl (hb hbytes d5) rfl rfl ?_
    exact Steps.refl _)
  obtain ⟨v4, T4, X4, E4, g4⟩ := X2.callV hexec (Cdr.law l x cd z) hown (wks W (virtW "java/lang/String" 335 "java/lang/String" Cdr.yN Cdr.yN)) rfl (by decide) (wk W Cdr.tab) (W := 1) (Nat.le_of_ble_eq_true rfl) (Nat.le_of_ble_eq_true rfl) (Nat.le_refl _) (Nat.le_refl _) (hx2.1.fc X2.warmed.alike) hx2.1.is (g := (mkF m 6 #[.val (.ref x)] [.ref x, .int (Int32.ofNat V.slots.size)])) rfl (by rw [hml]; rfl) c3 (argsL := []) (rest := [.int (Int32.ofNat V.slots.size)]) rfl rfl (by show 2 * 0 + (1 + 0) ≤ _; decide) (hb hbytes d6) (⟨rfl, hx2.2.2.1, hx.2.2.2.2.1.cd, s1.there X2.warmed.alike hh2, hz⟩)
  obtain ⟨rfl, q4⟩ := E4
  have c5 : Steps p.tables e below (s₁.setTop (entryFrame m #[.ref x] 1)) (T4.setTop (mkF m 10 #[.val (.ref x)] [.int (Int32.ofNat V.slots.size >>> (cd &&& 31))])) := Steps.trans g4 (by
    refine ishr X4.here hexec rfl (hb hbytes d9) rfl ?_
    exact Steps.refl _)
  rw [hx.2.2.2.2.1.len v31] at c5
  exact ⟨T4, some (.int (Int32.ofNat n)), _, _, _, X4, rfl, rfl, rfl, (fun h => by cases h), ⟨rfl, q4.trans hh2⟩, fun fs hl => c5.trans (X4.ireturnOut hexec hret rfl (Or.inl rfl) (hb hbytes d10) hl)⟩
theorem pays {l : Launch} {R : Room} {p : Program} {e : Env} {below : List Frame} {s : State} {sargs : Array Value} {len W : Nat} (x t : Addr) (V : Cell) (cd : Int32) (n : Nat) (f : Nat → Int32) (z : Int32) (htab : tab.before sargs s = true) (hfr : 2 ≤ R.frames) (hlo : W + 25 ≤ R.locals) :
    Back l R p e below s sargs yN len W (fun A₁ a₁ => A₁.cells + 0 ≤ R.cells ∧ A₁.slots + 0 ≤ R.slots ∧ P x t V cd n f z a₁ A₁.U) (fun A₁ _ v₁ B₁ => E n v₁ A₁.U B₁.U ∧ B₁.locs = A₁.locs ++ [] ∧ B₁.cells = A₁.cells + 0 ∧ B₁.slots = A₁.slots + 0) :=
  (law l x t V cd n f z).pays htab hfr (by omega)
end Len
namespace IsL
def yN : MethodName := ⟨"java/lang/String", "isLatin1", "()Z"⟩
abbrev yB : ByteArray := jdk_42_method_154_code
theorem d0 : decode yB 0 = .ok (.getstatic 38, 3) := by decide +kernel
theorem d3 : decode yB 3 = .ok (.ifCond (.eq) 14, 3) := by decide +kernel
theorem d6 : decode yB 6 = .ok (.aload_n 0, 1) := by decide +kernel
theorem d7 : decode yB 7 = .ok (.getfield 15, 3) := by decide +kernel
theorem d10 : decode yB 10 = .ok (.ifCond (.ne) 7, 3) := by decide +kernel
theorem d13 : decode yB 13 = .ok (.iconst 1, 1) := by decide +kernel
theorem d14 : decode yB 14 = .ok (.goto 4, 3) := by decide +kernel
theorem d17 : decode yB 17 = .ok (.iconst 0, 1) := by decide +kernel
theorem d18 : decode yB 18 = .ok (.ireturn, 1) := by decide +kernel
def site : List Cond := [.fieldLink "java/lang/String" 38 "java/lang/String" "COMPACT_STRINGS" "Z", .fieldLink "java/lang/String" 15 "java/lang/String" "coder" "B"]
def tab : Cond := tabOf yN yB 1 (some .boolean) site
def P (x : Addr) (cd z : Int32) (args : Array Value) (s : State) : Prop := args = #[.ref x] ∧ Has x "java/lang/String" "coder" "B" (.int cd) s ∧ (cd = 0 ∨ cd = 1) ∧ StaticIs s "java/lang/String" "COMPACT_STRINGS" "Z" (.int z) ∧ ¬ z = 0
def E (cd : Int32) (r : Option Value) (s u : State) : Prop := XT.PureE (some (.int (1 - cd))) r s u
theorem law (l : Launch) (x : Addr) (cd z : Int32) : Law l yN 1 0 0 0 yB 1 (some .boolean) site (P x cd z) (E cd) [] 0 0 := by
  refine Law.of_walk (plainFor_of_name (by decide +kernel)) (by decide +kernel) (by decide +kernel) (by decide) (fun _ _ h => by rw [h.1]; rfl) (fun _ U U' hal hh h => ⟨h.1, h.2.1.mv hal hh, h.2.2.1, h.2.2.2.1.there hal hh, h.2.2.2.2⟩) (fun r U U' V V' h1 hal h2 h => XT.PureE.mv r U U' V V' h1 hal h2 h) ?_
  intro p e s m args below meth c s₁ X0 hexec hbytes hml hret hlk hnm hown hh0 W hP
  obtain ⟨rfl, hx, hc, s1, hz⟩ := hP
  have c1 : Steps p.tables e below (s₁.setTop (entryFrame m #[.ref x] 1)) (s₁.setTop (mkF m 0 #[.val (.ref x)] [])) := entry rfl
  obtain ⟨T2, X2, q2, st2⟩ := X0.sget hexec hown (wk W (.fieldLink "java/lang/String" 38 "java/lang/String" "COMPACT_STRINGS" "Z")) s1 (fun _ _ h => by rw [hh0]; exact h) (g := (mkF m 0 #[.val (.ref x)] [])) rfl (hb hbytes d0)
  have hh2 := q2.trans hh0
  have c3 : Steps p.tables e below (s₁.setTop (entryFrame m #[.ref x] 1)) (T2.setTop (mkF m 7 #[.val (.ref x)] [.ref x])) := (c1.trans (st2 _ (Steps.refl _))).trans (by
    refine XS.ifNo X2.here hexec rfl (hb hbytes d3) rfl (i0_eq_f hz) ?_
    refine XS.aloadN X2.here hexec rfl (hb hbytes d6) rfl rfl ?_
    exact Steps.refl _)
  obtain ⟨T4, X4, q4, st4⟩ := X2.hget hexec hown (wk W (.fieldLink "java/lang/String" 15 "java/lang/String" "coder" "B")) (hx.mv X2.warmed.alike hh2) (g := (mkF m 7 #[.val (.ref x)] [.ref x])) rfl (rest := []) rfl (hb hbytes d7)
  have c5 : Steps p.tables e below (s₁.setTop (entryFrame m #[.ref x] 1)) (T4.setTop (mkF m 10 #[.val (.ref x)] [.int cd])) := c3.trans (st4 _ (Steps.refl _))
  have c6 : Steps p.tables e below (s₁.setTop (entryFrame m #[.ref x] 1)) (T4.setTop (mkF m 18 #[.val (.ref x)] [.int (1 - cd)])) := by
    rcases hc with rfl | rfl
    · exact c5.trans (by
        refine XS.ifNo X4.here hexec rfl (hb hbytes d10) rfl (i0_ne_f rfl) ?_
        refine iconstV X4.here hexec rfl 1 (hb hbytes d13) (by decide) ?_
        refine XS.goto X4.here hexec rfl (pc0 := 14) rfl (hb hbytes d14) (by decide) rfl ?_
        exact Steps.refl _)
    · exact c5.trans (by
        refine XS.ifYes X4.here hexec rfl (pc0 := 10) rfl (hb hbytes d10) rfl (i0_ne_t (by decide)) (by decide) rfl ?_
        refine iconstV X4.here hexec rfl 0 (hb hbytes d17) (by decide) ?_
        exact Steps.refl _)
  exact ⟨T4, some (.int (1 - cd)), _, _, _, X4, rfl, rfl, rfl, (fun h => by cases h), ⟨rfl, q4.trans hh2⟩, fun fs hl => c6.trans (X4.ireturnOut hexec hret (by rcases hc with rfl | rfl <;> rfl) (Or.inr (Or.inl rfl)) (hb hbytes d18) hl)⟩
end IsL
namespace LChA
def yN : MethodName := ⟨"java/lang/StringLatin1", "charAt", "([BI)C"⟩
abbrev yB : ByteArray := jdk_43_method_2_code
theorem d0 : decode yB 0 = .ok (.iload_n 1, 1) := by decide +kernel
theorem d1 : decode yB 1 = .ok (.aload_n 0, 1) := by decide +kernel
theorem d2 : decode yB 2 = .ok (.arraylength, 1) := by decide +kernel
theorem d3 : decode yB 3 = .ok (.invokestatic 9, 3) := by decide +kernel
theorem d6 : decode yB 6 = .ok (.aload_n 0, 1) := by decide +kernel
theorem d7 : decode yB 7 = .ok (.iload_n 1, 1) := by decide +kernel
theorem d8 : decode yB 8 = .ok (.baload, 1) := by decide +kernel
theorem d9 : decode yB 9 = .ok (.sipush 255, 3) := by decide +kernel
theorem d12 : decode yB 12 = .ok (.iand, 1) := by decide +kernel
theorem d13 : decode yB 13 = .ok (.i2c, 1) := by decide +kernel
theorem d14 : decode yB 14 = .ok (.ireturn, 1) := by decide +kernel
def site : List Cond := [JO.Str_checkIndex.tab] ++ staticW "java/lang/StringLatin1" 9 JO.Str_checkIndex.yN
def tab : Cond := tabOf yN yB 2 (some .char) site
def P (t : Addr) (V : Cell) (i : Nat) (u : Int32) (fm : Value) (args : Array Value) (s : State) : Prop := args = #[.ref t, .int (Int32.ofNat i)] ∧ XT.Arr .byte t V s ∧ V.slots[i]? = some (.int u) ∧ (StaticIs s "jdk/internal/util/Preconditions" "SIOOBE_FORMATTER" "Ljava/util/function/BiFunction;" fm ∧ fm.isRef = true)
def E (u : Int32) (r : Option Value) (s w : State) : Prop := XT.PureE (some (.int (chr8 u))) r s w
theorem law (l : Launch) (t : Addr) (V : Cell) (i : Nat) (u : Int32) (fm : Value) : Law l yN 2 2 2 27 yB 2 (some .char) site (P t V i u fm) (E u) [] 0 0 := by
  refine Law.of_walk (plainFor_of_name (by decide +kernel)) (by decide +kernel) (by decide +kernel) (by decide) (fun _ _ h => by rw [h.1]; rfl) (fun _ U U' hal hh h => ⟨h.1, h.2.1.mv hal hh, h.2.2.1, h.2.2.2.1.there hal hh, h.2.2.2.2⟩) (fun r U U' V V' h1 hal h2 h => XT.PureE.mv r U U' V V' h1 hal h2 h) ?_
  intro p e s m args below meth c s₁ X0 hexec hbytes hml hret hlk hnm hown hh0 W hP
  obtain ⟨rfl, hV, hu, s1, rf⟩ := hP
  have v31 := hV.2.2.2
  have hi : i < V.slots.size := (Array.getElem?_eq_some_iff.mp hu).1
  have c1 : Steps p.tables e below (s₁.setTop (entryFrame m #[.ref t, .int (Int32.ofNat i)] 2)) (s₁.setTop (mkF m 0 #[.val (.ref t), .val (.int (Int32.ofNat i))] [])) := entry rfl
  have c2 : Steps p.tables e below (s₁.setTop (entryFrame m #[.ref t, .int (Int32.ofNat i)] 2)) (s₁.setTop (mkF m 3 #[.val (.ref t), .val (.int (Int32.ofNat i))] [.int (Int32.ofNat V.slots.size), .int (Int32.ofNat i)])) := c1.trans (by
    refine XS.iloadN X0.here hexec rfl (hb hbytes d0) rfl ?_
    refine XS.aloadN X0.here hexec rfl (hb hbytes d1) rfl rfl ?_
    refine X0.alen hexec (hV.mv X0.warmed.alike hh0) rfl rfl (hb hbytes d2) ?_
    exact Steps.refl _)
  obtain ⟨v3, T3, X3, E3, g3⟩ := X0.callS hexec (JO.Str_checkIndex.law l (Int32.ofNat i) (Int32.ofNat V.slots.size) fm) hown (wks W (staticW "java/lang/StringLatin1" 9 JO.Str_checkIndex.yN)) (wk W JO.Str_checkIndex.tab) (W := 0) (Nat.le_of_ble_eq_true rfl) (Nat.le_of_ble_eq_true rfl) (Nat.le_refl _) (Nat.le_refl _) (g := (mkF m 3 #[.val (.ref t), .val (.int (Int32.ofNat i))] [.int (Int32.ofNat V.slots.size), .int (Int32.ofNat i)])) rfl (by rw [hml]; rfl) c2 (argsL := [.int (Int32.ofNat i), .int (Int32.ofNat V.slots.size)]) (rest := []) rfl rfl (by show 2 * 0 + 0 ≤ _; decide) (hb hbytes d3) (⟨rfl, rf, s1.there X0.warmed.alike hh0, Int32.ofNat_not_neg (by omega), lt32 v31 hi⟩)
  obtain ⟨rfl, q3⟩ := E3
  have hh3 := q3.trans hh0
  have c4 : Steps p.tables e below (s₁.setTop (entryFrame m #[.ref t, .int (Int32.ofNat i)] 2)) (T3.setTop (mkF m 14 #[.val (.ref t), .val (.int (Int32.ofNat i))] [.int (chr8 u)])) := Steps.trans g3 (by
    refine XS.aloadN X3.here hexec rfl (hb hbytes d6) rfl rfl ?_
    refine XS.iloadN X3.here hexec rfl (hb hbytes d7) rfl ?_
    refine X3.aget hexec (hV.mv X3.warmed.alike hh3) rfl hu rfl rfl (hb hbytes d8) ?_
    refine sipushV X3.here hexec rfl 255 (hb hbytes d9) (by decide) ?_
    refine XS.iand X3.here hexec rfl (hb hbytes d12) rfl ?_
    refine i2c X3.here hexec rfl (hb hbytes d13) rfl ?_
    exact Steps.refl _)
  exact ⟨T3, some (.int (chr8 u)), _, _, _, X3, rfl, rfl, rfl, (fun h => by cases h), ⟨rfl, hh3⟩, fun fs hl => c4.trans (X3.ireturnOut hexec hret (narrow_c _) (Or.inr (Or.inr (Or.inr (Or.inl rfl)))) (hb hbytes d14) hl)⟩
end LChA
end StrChars
namespace StrChars.Road
open Jvm Sem ClassFile Op Lib Jvm.Stand Jvm.Free Jvm.Free.XT
open Jvm.Lib.Cold (StaticIs)
theorem consq {a : Array Value} {s : State} {c : Jvm.Cond} {L : List Jvm.Cond} (h0 : c.before a s = true) (h : ∀ w ∈ L, w.before a s = true) : ∀ w ∈ c :: L, w.before a s = true := fun w hw => (List.mem_cons.mp hw).elim (fun e => e ▸ h0) (h w)
/-- the words of String.length(), either coding -/
abbrev wordsLen : List Jvm.Cond := [.code Len.yN Len.yB 1 (some .int), .initialized ST, .fieldLink ST 9 ST "value" "[B", .fieldLink ST 38 ST "COMPACT_STRINGS" "Z", .fieldLink ST 15 ST "coder" "B", .code Cdr.yN Cdr.yB 1 (some .byte), .methodLink ST 335 Cdr.yN, .declares Cdr.yN, .selects ST Cdr.yN Cdr.yN, .instanceMethod Cdr.yN]
theorem tabLen_of {a : Array Value} {s : State} (h : ∀ w ∈ wordsLen, w.before a s = true) : Len.tab.before a s = true := by
  have hc : Cdr.tab.before a s = true := unparts (wk h (.code Cdr.yN Cdr.yB 1 (some .byte))) (wks h (.initialized Cdr.yN.cls :: Cdr.site))
  have q := consq hc h
  exact unparts (wk q (.code Len.yN Len.yB 1 (some .int))) (wks q (.initialized Len.yN.cls :: Len.site))
theorem movedLen {Z s : State} {a0 args : Array Value} (hZ : Z.Warmed39 s.vm) (hw : ∀ d ∈ wordsLen, d.before a0 Z = true) : ∀ d ∈ wordsLen, d.before args s = true := fun d hd => by
  have q := hw d hd
  have t : ∀ d ∈ wordsLen, d = .arrayClass .byte ∨ (d.onTables && d.keepsFace) = true := by decide +kernel
  rcases t d hd with rfl | t
  · exact RoadKit.mvA hZ q
  · exact RoadKit.mv hZ q t
/-- the bytes of the chars cs, low before high -/
def wideBytes : List Int32 → List Value
  | [] => []
  | c :: cs => .int (lo8 c) :: .int (hi8 c) :: wideBytes cs
theorem wide_lo (d : Value) : ∀ (cs : List Int32) (j : Nat), j < cs.length → (wideBytes cs).getD (2 * j) d = .int (lo8 (cs.getD j 0))
  | [], j, h => absurd h (Nat.not_lt_zero j)
  | c :: cs, 0, _ => rfl
  | c :: cs, j + 1, h => by
    have q := wide_lo d cs j (by simpa using h)
    rw [show 2 * (j + 1) = 2 * j + 1 + 1 from by omega]
    simpa [wideBytes] using q
theorem wide_hi (d : Value) : ∀ (cs : List Int32) (j : Nat), j < cs.length → (wideBytes cs).getD (2 * j + 1) d = .int (hi8 (cs.getD j 0))
  | [], j, h => absurd h (Nat.not_lt_zero j)
  | c :: cs, 0, _ => rfl
  | c :: cs, j + 1, h => by
    have q := wide_hi d cs j (by simpa using h)
    rw [show 2 * (j + 1) + 1 = 2 * j + 1 + 1 + 1 from by omega]
    simpa [wideBytes] using q
theorem low_at (d : Value) (cs : List Int32) (j : Nat) (h : j < cs.length) : (cs.map fun c => Value.int (lo8 c)).getD j d = .int (lo8 (cs.getD j 0)) := by
  simp [List.getD_eq_getElem?_getD, h]
/-- an array of N2 bytes vs codes the chars cs by the coder cd -/
def CodA (cs : List Int32) (cd N2 : Int32) (vs : List Value) : Prop := (cd = 0 ∧ N2 = Int32.ofNat cs.length ∧ vs = (cs.map fun c => Value.int (lo8 c)) ∧ ∀ c ∈ cs, ¬ 255 < c) ∨ (cd = 1 ∧ N2 = Int32.ofNat (2 * cs.length) ∧ vs = wideBytes cs ∧ ∃ c ∈ cs, 255 < c)
theorem CodA.cod {cs : List Int32} {cd N2 : Int32} {vs : List Value} {V : Cell} (h : CodA cs cd N2 vs) (hn : 2 * cs.length < 2 ^ 31) (hs : V.slots.size = N2.toNatClampNeg) (hv : RoadKit.Has V vs (.int 0)) : Cod cd cs.length (fun j => cs.getD j 0) V := by
  rcases h with ⟨rfl, rfl, rfl, h⟩ | ⟨rfl, rfl, rfl, c, hc, hw⟩
  · rw [n32 (by omega)] at hs
    exact Or.inl ⟨rfl, hs, fun j hj => ⟨by rw [hv j (by omega), low_at _ _ _ hj], by
      have e : cs.getD j 0 = cs[j] := by simp [List.getD_eq_getElem?_getD, hj]
      show ¬ 255 < cs.getD j 0
      rw [e]; exact h _ (List.getElem_mem _)⟩⟩
  · rw [n32 (by omega)] at hs
    obtain ⟨j, hj, rfl⟩ := List.getElem_of_mem hc
    exact Or.inr ⟨rfl, hs, fun j hj => ⟨by rw [hv _ (by omega), wide_lo _ _ _ hj], by rw [hv _ (by omega), wide_hi _ _ _ hj]⟩, j, hj, by
      have e : cs.getD j 0 = cs[j] := by simp [List.getD_eq_getElem?_getD, hj]
      show 255 < cs.getD j 0
      rw [e]; exact hw⟩
/-- an object of exactly java/lang/String, its two fields found: as the laws ask it -/
theorem strObj {Z U : State} {a0 : Array Value} {kI : Nat} (wi : (Jvm.Cond.instantiable ST kI).before a0 Z = true) (al : Z.vm.Alike U.vm) {x : Addr} {v0 c0 : Value} (E : RoadKit.Exa Z U.heap x ST) (V : RoadKit.Fld Z U.heap x ST "value" "[B" v0) (C : RoadKit.Fld Z U.heap x ST "coder" "B" c0) :
    ∃ (D : Cell) (fV fC : Field), Blank ST x D U ∧ Found ST "value" "[B" fV U ∧ Found ST "coder" "B" fC U ∧ D.slots[fV.slot]? = some v0 ∧ D.slots[fC.slot]? = some c0 ∧ RoadKit.slotOf Z ST "value" "[B" = fV.slot ∧ RoadKit.slotOf Z ST "coder" "B" = fC.slot := by
  obtain ⟨D, cfV, kV, iV, fV, hD, gV, stV, knV, obV, asV, slV⟩ := V
  obtain ⟨D', cfC, kC, iC, fC, hD', gC, stC, -, -, asC, slC⟩ := C
  cases hD.symm.trans hD'
  obtain ⟨D2, kD, e1, e2, e3, e4, e5⟩ := E
  cases hD.symm.trans e1
  obtain ⟨c2, k2, i1, i2, i3, -⟩ := Cond.instantiable_spec wi
  cases e2.symm.trans i1
  cases e3.symm.trans i2
  obtain ⟨kU, u1, u2⟩ := al.2.2 _ _ e3
  exact ⟨D, fV, fC, ⟨hD, ⟨knV, fun q hq => by rw [hq] at obV; cases obV⟩, by rw [al.findClass]; exact e2, kU, u1, by rw [u2]; exact i3, by rw [u2]; exact e5 i3⟩, ⟨SBG.found_only al ⟨cfV, kV, iV, gV⟩, stV⟩, ⟨SBG.found_only al ⟨cfC, kC, iC, gC⟩, stC⟩, slV, slC, by simp [RoadKit.slotOf, gV], by simp [RoadKit.slotOf, gC]⟩
theorem sta_is {Z U : State} (al : Z.vm.Alike U.vm) {C n d : String} {v : Value} (S : RoadKit.Sta Z U.heap C n d v) : StaticIs U C n d v := by
  obtain ⟨cfS, iS, kS, fS, st, cS, t1, t2, t3, t4, t5, t6, t7⟩ := S
  exact StaticIs.there (s := { Z with heap := U.heap }) ⟨cfS, iS, kS, fS, st, cS, t1, t2, t3, t4, t5, (fun q => by rw [q] at t6; cases t6), t7⟩ al rfl
/-- **length() OF SUCH A STRING** -/
theorem lenW {p : Program} {l : Launch} {e : Env} {R : Room} {s : State} {args : Array Value} {below : List Frame} {len W : Nat} {Z : State} {a0 : Array Value} {h : Heap} (hZ : Z.Warmed39 s.vm) (hw : ∀ d ∈ wordsLen, d.before a0 Z = true) {kI : Nat} (wi : (Jvm.Cond.instantiable ST kI).before a0 Z = true)
    {x t : Addr} {kb : ClassId} {cs : List Int32} {cd N2 z : Int32} {vs : List Value} (E : RoadKit.Exa Z h x ST) (V : RoadKit.Fld Z h x ST "value" "[B" (.ref t)) (C : RoadKit.Fld Z h x ST "coder" "B" (.int cd)) (K : RoadKit.Arv Z h t kb .byte N2 vs (.int 0)) (hc : CodA cs cd N2 vs) (hb : ∀ c ∈ cs, ¬ c < 0 ∧ ¬ (65535 : Int32) < c)
    (S : RoadKit.Sta Z h ST "COMPACT_STRINGS" "Z" (.int z)) (hz : ¬ z = 0) (l2 : cs.length ≤ 4000) (hfr : 2 ≤ R.frames) (hlo : W + 25 ≤ R.locals) :
    Back l R p e below s args (⟨"java/lang/String", "length", "()I"⟩ : MethodName) len W (fun P a => a = #[.ref x] ∧ P.U.heap = h ∧ P.cells + 0 ≤ R.cells ∧ P.slots + 0 ≤ R.slots)
      (fun P _ v B => ∃ L, (v = some (.int (Int32.ofNat cs.length)) ∧ L = [] ∧ B.U.heap = h) ∧ B.locs = P.locs ++ L ∧ B.cells = P.cells + 0 ∧ B.slots = P.slots + 0) := by
  obtain ⟨A, K1, K2, K3, K4, K5, K6⟩ := K
  have hcod := hc.cod (by omega) K3 K5
  intro m meth c P g ig mk a X hg hsize hdg hW hn hp'
  obtain ⟨rfl, rfl, r1, r2⟩ := hp'
  have al : Z.vm.Alike P.U.vm := hZ.alike.trans X.warmed.alike
  obtain ⟨D, fV, fC, hB, F1, F2, g1, g2, -, -⟩ := strObj wi al E V C
  have hx : Txt x t A cd cs.length (fun j => cs.getD j 0) P.U := ⟨⟨_, hB.2.2.1, D, hB.1, rfl, by cases q : D.vm <;> first | rfl | exact absurd q (hB.2.1.2 _)⟩, Has.of hB F1 g1, Has.of hB F2 g2, ⟨K1.1, State.isArrayOf_alike al K1.2.1, K1.2.2, by rcases hcod with ⟨-, q, -⟩ | ⟨-, q, -⟩ <;> omega⟩, hcod, fun j hj => by
    have e : cs.getD j 0 = cs[j] := by simp [List.getD_eq_getElem?_getD, hj]
    show ¬ cs.getD j 0 < 0 ∧ ¬ 65535 < cs.getD j 0
    rw [e]; exact hb _ (List.getElem_mem _)⟩
  obtain ⟨v, B, X', ⟨⟨hv, hh⟩, hl, hk, hs⟩, st⟩ := Len.pays x t A cd cs.length (fun j => cs.getD j 0) z (tabLen_of (movedLen hZ hw)) hfr hlo m meth c P g ig mk _ X hg hsize hdg hW hn ⟨r1, r2, rfl, hx, sta_is al S, hz⟩
  exact ⟨v, B, X', ⟨[], ⟨hv, rfl, hh⟩, hl, hk, hs⟩, st⟩
end StrChars.Road
namespace StrChars
open Jvm Sem ClassFile Op Lib Jvm.Stand Jvm.Free.XT Jvm.Free.ALB Jvm.Free.JM Jvm.Free
open Jvm.Lib.Cold (StaticIs)
namespace Emp
def yN : MethodName := ⟨"java/lang/String", "isEmpty", "()Z"⟩
abbrev yB : ByteArray := jdk_42_method_55_code
theorem d0 : decode yB 0 = .ok (.aload_n 0, 1) := by decide +kernel
theorem d1 : decode yB 1 = .ok (.getfield 9, 3) := by decide +kernel
theorem d4 : decode yB 4 = .ok (.arraylength, 1) := by decide +kernel
theorem d5 : decode yB 5 = .ok (.ifCond (.ne) 7, 3) := by decide +kernel
theorem d8 : decode yB 8 = .ok (.iconst 1, 1) := by decide +kernel
theorem d9 : decode yB 9 = .ok (.goto 4, 3) := by decide +kernel
theorem d12 : decode yB 12 = .ok (.iconst 0, 1) := by decide +kernel
theorem d13 : decode yB 13 = .ok (.ireturn, 1) := by decide +kernel
def site : List Cond := [.fieldLink "java/lang/String" 9 "java/lang/String" "value" "[B"]
def tab : Cond := tabOf yN yB 1 (some .boolean) site
def P (x t : Addr) (V : Cell) (cd : Int32) (n : Nat) (f : Nat → Int32) (args : Array Value) (s : State) : Prop := args = #[.ref x] ∧ Txt x t V cd n f s
def E (n : Nat) (r : Option Value) (s u : State) : Prop := XT.PureE (some (.int (if n = 0 then 1 else 0))) r s u
/-- isEmpty() of a String of n chars -/
theorem law (l : Launch) (x t : Addr) (V : Cell) (cd : Int32) (n : Nat) (f : Nat → Int32) : Law l yN 1 0 0 0 yB 1 (some .boolean) site (P x t V cd n f) (E n) [] 0 0 := by
  refine Law.of_walk (plainFor_of_name (by decide +kernel)) (by decide +kernel) (by decide +kernel) (by decide) (fun _ _ h => by rw [h.1]; rfl) (fun _ U U' hal hh h => ⟨h.1, h.2.mv hal hh⟩) (fun r U U' V V' h1 hal h2 h => XT.PureE.mv r U U' V V' h1 hal h2 h) ?_
  intro p e s m args below meth c s₁ X0 hexec hbytes hml hret hlk hnm hown hh0 W hP
  obtain ⟨rfl, hx⟩ := hP
  have v31 := hx.2.2.2.1.2.2.2
  have c1 : Steps p.tables e below (s₁.setTop (entryFrame m #[.ref x] 1)) (s₁.setTop (mkF m 1 #[.val (.ref x)] [.ref x])) := Steps.trans (entry rfl) (by
    show Steps p.tables e below (s₁.setTop (mkF m 0 #[.val (.ref x)] [])) _
    refine XS.aloadN X0.here hexec rfl (hb hbytes d0) rfl rfl ?_
    exact Steps.refl _)
  obtain ⟨T2, X2, q2, st2⟩ := X0.hget hexec hown (wk W (.fieldLink "java/lang/String" 9 "java/lang/String" "value" "[B")) (hx.mv X0.warmed.alike hh0).2.1 (g := (mkF m 1 #[.val (.ref x)] [.ref x])) rfl (rest := []) rfl (hb hbytes d1)
  have hh2 := q2.trans hh0
  have hx2 := hx.mv X2.warmed.alike hh2
  have c3 : Steps p.tables e below (s₁.setTop (entryFrame m #[.ref x] 1)) (T2.setTop (mkF m 5 #[.val (.ref x)] [.int (Int32.ofNat V.slots.size)])) := (c1.trans (st2 _ (Steps.refl _))).trans (by
    refine X2.alen hexec hx2.2.2.2.1 rfl rfl (hb hbytes d4) ?_
    exact Steps.refl _)
  have hz : V.slots.size = 0 ↔ n = 0 := by
    rcases hx.2.2.2.2.1 with ⟨-, q, -⟩ | ⟨-, q, -⟩ <;> omega
  by_cases h0 : n = 0
  · have c4 : Steps p.tables e below (s₁.setTop (entryFrame m #[.ref x] 1)) (T2.setTop (mkF m 13 #[.val (.ref x)] [.int 1])) := c3.trans (by
      refine XS.ifNo X2.here hexec rfl (hb hbytes d5) rfl (i0_ne_f (by rw [hz.mpr h0]; rfl)) ?_
      refine iconstV X2.here hexec rfl 1 (hb hbytes d8) (by decide) ?_
      refine XS.goto X2.here hexec rfl (pc0 := 9) rfl (hb hbytes d9) (by decide) rfl ?_
      exact Steps.refl _)
    exact ⟨T2, some (.int 1), _, _, _, X2, rfl, rfl, rfl, (fun h => by cases h), ⟨by rw [if_pos h0], hh2⟩, fun fs hl => c4.trans (X2.ireturnOut hexec hret rfl (Or.inr (Or.inl rfl)) (hb hbytes d13) hl)⟩
  · have c4 : Steps p.tables e below (s₁.setTop (entryFrame m #[.ref x] 1)) (T2.setTop (mkF m 13 #[.val (.ref x)] [.int 0])) := c3.trans (by
      refine XS.ifYes X2.here hexec rfl (pc0 := 5) rfl (hb hbytes d5) rfl (i0_ne_t (nz32 v31 (by omega))) (by decide) rfl ?_
      refine iconstV X2.here hexec rfl 0 (hb hbytes d12) (by decide) ?_
      exact Steps.refl _)
    exact ⟨T2, some (.int 0), _, _, _, X2, rfl, rfl, rfl, (fun h => by cases h), ⟨by rw [if_neg h0], hh2⟩, fun fs hl => c4.trans (X2.ireturnOut hexec hret rfl (Or.inr (Or.inl rfl)) (hb hbytes d13) hl)⟩
theorem pays {l : Launch} {R : Room} {p : Program} {e : Env} {below : List Frame} {s : State} {sargs : Array Value} {len W : Nat} (x t : Addr) (V : Cell) (cd : Int32) (n : Nat) (f : Nat → Int32) (htab : tab.before sargs s = true) (hfr : 1 ≤ R.frames) (hlo : W + 12 ≤ R.locals) :
    Back l R p e below s sargs yN len W (fun A₁ a₁ => A₁.cells + 0 ≤ R.cells ∧ A₁.slots + 0 ≤ R.slots ∧ P x t V cd n f a₁ A₁.U) (fun A₁ _ v₁ B₁ => E n v₁ A₁.U B₁.U ∧ B₁.locs = A₁.locs ++ [] ∧ B₁.cells = A₁.cells + 0 ∧ B₁.slots = A₁.slots + 0) :=
  (law l x t V cd n f).pays htab hfr (by omega)
end Emp
/-- what place i of a byte[]'s cell holds -/
def yv (A : Cell) (i : Nat) : Int32 := match A.slots[i]? with | some (.int x) => x | _ => 0
theorem yv_get {a : Addr} {A : Cell} {U : State} (h : XT.Arr .byte a A U) (ht : Typed .byte A) {i : Nat} (hi : i < A.slots.size) : A.slots[i]? = some (.int (yv A i)) := by
  have e := Array.getElem?_eq_getElem hi
  have f := ht i _ e
  unfold yv; rw [e]
  generalize A.slots[i] = v at f
  cases v <;> simp [fits] at f ⊢
/-- the two arrays are equal, place for place -/
def EqC (A B : Cell) : Prop := A.slots.size = B.slots.size ∧ ∀ i, i < A.slots.size → yv A i = yv B i
/-- a boolean that says whether p -/
def Says01 (q : Prop) (r : Option Value) (s u : State) : Prop := ∃ v : Int32, r = some (.int v) ∧ u.heap = s.heap ∧ ((v = 1 ∧ q) ∨ (v = 0 ∧ ¬ q))
theorem Says01.mv {q : Prop} : ∀ r (U U' V V' : State), U'.heap = U.heap → V.vm.Alike V'.vm → V'.heap = V.heap → Says01 q r U V → Says01 q r U' V' :=
  fun r U U' V V' h1 _ h2 ⟨v, a, b, c⟩ => ⟨v, a, by rw [h1, h2]; exact b, c⟩
namespace LEq
def yN : MethodName := ⟨"java/lang/StringLatin1", "equals", "([B[B)Z"⟩
abbrev yB : ByteArray := jdk_43_method_13_code
theorem d0 : decode yB 0 = .ok (.aload_n 0, 1) := by decide +kernel
theorem d1 : decode yB 1 = .ok (.arraylength, 1) := by decide +kernel
theorem d2 : decode yB 2 = .ok (.aload_n 1, 1) := by decide +kernel
theorem d3 : decode yB 3 = .ok (.arraylength, 1) := by decide +kernel
theorem d4 : decode yB 4 = .ok (.if_icmp (.ne) 30, 3) := by decide +kernel
theorem d7 : decode yB 7 = .ok (.iconst 0, 1) := by decide +kernel
theorem d8 : decode yB 8 = .ok (.istore_n 2, 1) := by decide +kernel
theorem d9 : decode yB 9 = .ok (.iload_n 2, 1) := by decide +kernel
theorem d10 : decode yB 10 = .ok (.aload_n 0, 1) := by decide +kernel
theorem d11 : decode yB 11 = .ok (.arraylength, 1) := by decide +kernel
theorem d12 : decode yB 12 = .ok (.if_icmp (.ge) 20, 3) := by decide +kernel
theorem d15 : decode yB 15 = .ok (.aload_n 0, 1) := by decide +kernel
theorem d16 : decode yB 16 = .ok (.iload_n 2, 1) := by decide +kernel
theorem d17 : decode yB 17 = .ok (.baload, 1) := by decide +kernel
theorem d18 : decode yB 18 = .ok (.aload_n 1, 1) := by decide +kernel
theorem d19 : decode yB 19 = .ok (.iload_n 2, 1) := by decide +kernel
theorem d20 : decode yB 20 = .ok (.baload, 1) := by decide +kernel
theorem d21 : decode yB 21 = .ok (.if_icmp (.eq) 5, 3) := by decide +kernel
theorem d24 : decode yB 24 = .ok (.iconst 0, 1) := by decide +kernel
theorem d25 : decode yB 25 = .ok (.ireturn, 1) := by decide +kernel
theorem d26 : decode yB 26 = .ok (.iinc 2 1, 3) := by decide +kernel
theorem d29 : decode yB 29 = .ok (.goto (-20), 3) := by decide +kernel
theorem d32 : decode yB 32 = .ok (.iconst 1, 1) := by decide +kernel
theorem d33 : decode yB 33 = .ok (.ireturn, 1) := by decide +kernel
theorem d34 : decode yB 34 = .ok (.iconst 0, 1) := by decide +kernel
theorem d35 : decode yB 35 = .ok (.ireturn, 1) := by decide +kernel
def site : List Cond := []
def tab : Cond := tabOf yN yB 3 (some .boolean) site
def P (a : Addr) (A : Cell) (b : Addr) (B : Cell) (args : Array Value) (s : State) : Prop := args = #[.ref a, .ref b] ∧ XT.Arr .byte a A s ∧ Typed .byte A ∧ XT.Arr .byte b B s ∧ Typed .byte B
/-- whether two byte[] are equal, place for place -/
theorem law (l : Launch) (a : Addr) (A : Cell) (b : Addr) (B : Cell) : Law l yN 2 2 0 0 yB 3 (some .boolean) site (P a A b B) (Says01 (EqC A B)) [] 0 0 := by
  refine Law.of_walk (plainFor_of_name (by decide +kernel)) (by decide +kernel) (by decide +kernel) (by decide) (fun _ _ h => by rw [h.1]; rfl) (fun _ U U' hal hh h => ⟨h.1, h.2.1.mv hal hh, h.2.2.1, h.2.2.2.1.mv hal hh, h.2.2.2.2⟩) (fun r U U' V V' h1 hal h2 h => Says01.mv r U U' V V' h1 hal h2 h) ?_
  intro p e s m args below meth c s₁ X0 hexec hbytes hml hret hlk hnm hown hh0 W hP
  obtain ⟨rfl, hA, tA, hB, tB⟩ := hP
  have a31 := hA.2.2.2
  have b31 := hB.2.2.2
  have hA0 := hA.mv X0.warmed.alike hh0
  have hB0 := hB.mv X0.warmed.alike hh0
  have c1 : Steps p.tables e below (s₁.setTop (entryFrame m #[.ref a, .ref b] 3)) (s₁.setTop (mkF m 0 #[.val (.ref a), .val (.ref b), .unset] [])) := entry rfl
  have c2 : Steps p.tables e below (s₁.setTop (entryFrame m #[.ref a, .ref b] 3)) (s₁.setTop (mkF m 4 #[.val (.ref a), .val (.ref b), .unset] [.int (Int32.ofNat B.slots.size), .int (Int32.ofNat A.slots.size)])) := c1.trans (by
    refine XS.aloadN X0.here hexec rfl (hb hbytes d0) rfl rfl ?_
    refine X0.alen hexec hA0 rfl rfl (hb hbytes d1) ?_
    refine XS.aloadN X0.here hexec rfl (hb hbytes d2) rfl rfl ?_
    refine X0.alen hexec hB0 rfl rfl (hb hbytes d3) ?_
    exact Steps.refl _)
  by_cases hs : A.slots.size = B.slots.size
  · have c3 : Steps p.tables e below (s₁.setTop (entryFrame m #[.ref a, .ref b] 3)) (s₁.setTop (mkF m 9 #[.val (.ref a), .val (.ref b), .val (.int 0)] [])) := c2.trans (by
      refine XS.icmpNo X0.here hexec rfl (hb hbytes d4) rfl (ii_ne_f (by rw [hs])) ?_
      refine iconstV X0.here hexec rfl 0 (hb hbytes d7) (by decide) ?_
      refine XS.istoreN X0.here hexec rfl (hb hbytes d8) rfl rfl ?_
      exact Steps.refl _)
    have loop : ∀ (r i : Nat), i + r = A.slots.size → (∀ j, j < i → yv A j = yv B j) → Steps p.tables e below (s₁.setTop (entryFrame m #[.ref a, .ref b] 3)) (s₁.setTop (mkF m 9 #[.val (.ref a), .val (.ref b), .val (.int (Int32.ofNat i))] [])) → ∃ (pc : Nat) (Ls : Array Slot) (v : Int32), (pc = 25 ∨ pc = 33) ∧ ((v = 1 ∧ EqC A B) ∨ (v = 0 ∧ ¬ EqC A B)) ∧ Steps p.tables e below (s₁.setTop (entryFrame m #[.ref a, .ref b] 3)) (s₁.setTop (mkF m pc Ls [.int v])) := by
      intro r
      induction r with
      | zero =>
        intro i hi he cl
        exact ⟨33, _, 1, Or.inr rfl, Or.inl ⟨rfl, hs, fun j hj => he j (by omega)⟩, cl.trans (by
          refine XS.iloadN X0.here hexec rfl (hb hbytes d9) rfl ?_
          refine XS.aloadN X0.here hexec rfl (hb hbytes d10) rfl rfl ?_
          refine X0.alen hexec hA0 rfl rfl (hb hbytes d11) ?_
          refine XS.icmpYes X0.here hexec rfl (pc0 := 12) rfl (hb hbytes d12) rfl (ii_ge_t (nlt32 (by omega) (by omega))) (by decide) rfl ?_
          refine iconstV X0.here hexec rfl 1 (hb hbytes d32) (by decide) ?_
          exact Steps.refl _)⟩
      | succ r ih =>
        intro i hi he cl
        have c4 : Steps p.tables e below (s₁.setTop (entryFrame m #[.ref a, .ref b] 3)) (s₁.setTop (mkF m 21 #[.val (.ref a), .val (.ref b), .val (.int (Int32.ofNat i))] [.int (yv B i), .int (yv A i)])) := cl.trans (by
          refine XS.iloadN X0.here hexec rfl (hb hbytes d9) rfl ?_
          refine XS.aloadN X0.here hexec rfl (hb hbytes d10) rfl rfl ?_
          refine X0.alen hexec hA0 rfl rfl (hb hbytes d11) ?_
          refine XS.icmpNo X0.here hexec rfl (hb hbytes d12) rfl (ii_ge_f (lt32 (by omega) (by omega))) ?_
          refine XS.aloadN X0.here hexec rfl (hb hbytes d15) rfl rfl ?_
          refine XS.iloadN X0.here hexec rfl (hb hbytes d16) rfl ?_
          refine X0.aget hexec hA0 rfl (yv_get hA tA (i := i) (by omega)) rfl rfl (hb hbytes d17) ?_
          refine XS.aloadN X0.here hexec rfl (hb hbytes d18) rfl rfl ?_
          refine XS.iloadN X0.here hexec rfl (hb hbytes d19) rfl ?_
          refine X0.aget hexec hB0 rfl (yv_get hB tB (i := i) (by omega)) rfl rfl (hb hbytes d20) ?_
          exact Steps.refl _)
        by_cases hv : yv A i = yv B i
        · have c5 : Steps p.tables e below (s₁.setTop (entryFrame m #[.ref a, .ref b] 3)) (s₁.setTop (mkF m 9 #[.val (.ref a), .val (.ref b), .val (.int (Int32.ofNat i + 1))] [])) := c4.trans (by
            refine XS.icmpYes X0.here hexec rfl (pc0 := 21) rfl (hb hbytes d21) rfl (ii_eq_t hv) (by decide) rfl ?_
            refine iincV X0.here hexec rfl 1 (hb hbytes d26) (by decide) rfl rfl ?_
            refine XS.goto X0.here hexec rfl (pc0 := 29) rfl (hb hbytes d29) (by decide) rfl ?_
            exact Steps.refl _)
          rw [succ32] at c5
          exact ih (i + 1) (by omega) (fun j hj => by
            by_cases e : j = i
            · rw [e]; exact hv
            · exact he j (by omega)) c5
        · exact ⟨25, _, 0, Or.inl rfl, Or.inr ⟨rfl, fun q => hv (q.2 i (by omega))⟩, c4.trans (by
            refine XS.icmpNo X0.here hexec rfl (hb hbytes d21) rfl (ii_eq_f hv) ?_
            refine iconstV X0.here hexec rfl 0 (hb hbytes d24) (by decide) ?_
            exact Steps.refl _)⟩
    obtain ⟨pc, Ls, v, hpc, hv, cz⟩ := loop A.slots.size 0 (by omega) (fun j hj => absurd hj (Nat.not_lt_zero j)) c3
    have nv : narrow .boolean (.int v) = .int v := by rcases hv with ⟨rfl, -⟩ | ⟨rfl, -⟩ <;> rfl
    rcases hpc with rfl | rfl
    · exact ⟨s₁, some (.int v), _, _, _, X0, rfl, rfl, rfl, (fun h => by cases h), ⟨v, rfl, hh0, hv⟩, fun fs hl => cz.trans (X0.ireturnOut hexec hret nv (Or.inr (Or.inl rfl)) (hb hbytes d25) hl)⟩
    · exact ⟨s₁, some (.int v), _, _, _, X0, rfl, rfl, rfl, (fun h => by cases h), ⟨v, rfl, hh0, hv⟩, fun fs hl => cz.trans (X0.ireturnOut hexec hret nv (Or.inr (Or.inl rfl)) (hb hbytes d33) hl)⟩
  · have c3 : Steps p.tables e below (s₁.setTop (entryFrame m #[.ref a, .ref b] 3)) (s₁.setTop (mkF m 35 #[.val (.ref a), .val (.ref b), .unset] [.int 0])) := c2.trans (by
      refine XS.icmpYes X0.here hexec rfl (pc0 := 4) rfl (hb hbytes d4) rfl (ii_ne_t (ne32 a31 b31 hs)) (by decide) rfl ?_
      refine iconstV X0.here hexec rfl 0 (hb hbytes d34) (by decide) ?_
      exact Steps.refl _)
    exact ⟨s₁, some (.int 0), _, _, _, X0, rfl, rfl, rfl, (fun h => by cases h), ⟨0, rfl, hh0, Or.inr ⟨rfl, fun q => hs q.1⟩⟩, fun fs hl => c3.trans (X0.ireturnOut hexec hret rfl (Or.inr (Or.inl rfl)) (hb hbytes d35) hl)⟩
end LEq
theorem Cod.ty {cd : Int32} {n : Nat} {f : Nat → Int32} {V : Cell} (h : Cod cd n f V) : Typed .byte V := fun i v hv => by
  have hi : i < V.slots.size := (Array.getElem?_eq_some_iff.mp hv).1
  rcases h with ⟨-, k1, k2⟩ | ⟨-, k1, k2, -⟩
  · rw [(k2 i (by omega)).1] at hv; cases hv; exact fits_lo8 _
  · rcases Nat.mod_two_eq_zero_or_one i with e | e
    · obtain ⟨j, rfl⟩ : ∃ j, i = 2 * j := ⟨i / 2, by omega⟩
      rw [(k2 j (by omega)).1] at hv; cases hv; exact fits_lo8 _
    · obtain ⟨j, rfl⟩ : ∃ j, i = 2 * j + 1 := ⟨i / 2, by omega⟩
      rw [(k2 j (by omega)).2] at hv; cases hv; exact fits_lo8 _
/-- the same text -/
def SameT (n : Nat) (f : Nat → Int32) (k : Nat) (g : Nat → Int32) : Prop := n = k ∧ ∀ j, j < n → f j = g j
theorem lo8_inj {x y : Int32} (h0 : ¬ x < 0) (h1 : ¬ 255 < x) (k0 : ¬ y < 0) (k1 : ¬ 255 < y) (h : lo8 x = lo8 y) : x = y := by
  rw [← lo8_mask h0 h1, ← lo8_mask k0 k1, h]
/-- arrays coded by one coder are equal just where the texts are -/
theorem Cod.eqv {cd : Int32} {n k : Nat} {f g : Nat → Int32} {V V' : Cell} (h : Cod cd n f V) (h' : Cod cd k g V') (hf : ∀ j, j < n → ¬ f j < 0 ∧ ¬ 65535 < f j) (hg : ∀ j, j < k → ¬ g j < 0 ∧ ¬ 65535 < g j) : EqC V V' ↔ SameT n f k g := by
  have yvv : ∀ {W : Cell} {i : Nat} {x : Int32}, W.slots[i]? = some (.int x) → yv W i = x := fun q => by unfold yv; rw [q]
  rcases h with ⟨rfl, k1, k2⟩ | ⟨rfl, k1, k2, -⟩
  · rcases h' with ⟨-, m1, m2⟩ | ⟨e, -⟩
    · constructor
      · rintro ⟨e1, e2⟩
        refine ⟨by omega, fun j hj => ?_⟩
        have q := e2 j (by omega)
        rw [yvv (k2 j hj).1, yvv (m2 j (by omega)).1] at q
        exact lo8_inj (hf j hj).1 (k2 j hj).2 (hg j (by omega)).1 (m2 j (by omega)).2 q
      · rintro ⟨rfl, e2⟩
        refine ⟨by omega, fun j hj => ?_⟩
        rw [yvv (k2 j (by omega)).1, yvv (m2 j (by omega)).1, e2 j (by omega)]
    · exact absurd e (by decide)
  · rcases h' with ⟨e, -⟩ | ⟨-, m1, m2, -⟩
    · exact absurd e (by decide)
    · constructor
      · rintro ⟨e1, e2⟩
        refine ⟨by omega, fun j hj => ?_⟩
        have q1 := e2 (2 * j) (by omega)
        have q2 := e2 (2 * j + 1) (by omega)
        rw [yvv (k2 j hj).1, yvv (m2 j (by omega)).1] at q1
        rw [yvv (k2 j hj).2, yvv (m2 j (by omega)).2] at q2
        rw [← pair_says (hf j hj).1 (hf j hj).2, ← pair_says (hg j (by omega)).1 (hg j (by omega)).2, q1, q2]
      · rintro ⟨rfl, e2⟩
        refine ⟨by omega, fun i hi => ?_⟩
        rcases Nat.mod_two_eq_zero_or_one i with e | e
        · obtain ⟨j, rfl⟩ : ∃ j, i = 2 * j := ⟨i / 2, by omega⟩
          rw [yvv (k2 j (by omega)).1, yvv (m2 j (by omega)).1, e2 j (by omega)]
        · obtain ⟨j, rfl⟩ : ∃ j, i = 2 * j + 1 := ⟨i / 2, by omega⟩
          rw [yvv (k2 j (by omega)).2, yvv (m2 j (by omega)).2, e2 j (by omega)]
/-- two codings differ: so do the texts -/
theorem Cod.dif {cd cd' : Int32} {n k : Nat} {f g : Nat → Int32} {V V' : Cell} (h : Cod cd n f V) (h' : Cod cd' k g V') (hne : ¬ cd = cd') : ¬ SameT n f k g := by
  rintro ⟨rfl, e⟩
  rcases h with ⟨rfl, -, k2⟩ | ⟨rfl, -, -, j, hj, hw⟩
  · rcases h' with ⟨rfl, -⟩ | ⟨-, -, -, j, hj, hw⟩
    · exact hne rfl
    · exact (k2 j hj).2 (by rw [e j hj]; exact hw)
  · rcases h' with ⟨-, -, m2⟩ | ⟨rfl, -⟩
    · exact (m2 j hj).2 (by rw [← e j hj]; exact hw)
    · exact hne rfl
/-- an object of exactly C is an instance of C -/
theorem cinst {p : Program} {l : Launch} {e : Env} {R : Room} {s : State} {m : MethodId} {args : Array Value} {below : List Frame} {meth : Method} {c : Code} {T : State} {locs : List Loc} {cells slots : Nat} (X : Stand p l e R s m args below meth c T locs cells slots) (hexec : p.tables.exec = Jvm.exec) {own C : String} {index : Nat} (hown : s.vm.findClass own = some m.cls) (hlink : (Cond.classLink own index C).before args s = true) {a : Addr} (hE : Exact C a T)
    {g : JFrame} (hg : g.method = m) {rest : List Value} (hstack : g.stack = .ref a :: rest) (hdg : decode c.code g.pc = .ok (.instanceof index, 3)) :
    ∃ T', Stand p l e R s m args below meth c T' locs cells slots ∧ T'.heap = T.heap ∧ ∀ target, Steps p.tables e below (T'.setTop { g with pc := g.pc + 3, stack := .int 1 :: rest }) target → Steps p.tables e below (T.setTop g) target := by
  obtain ⟨cB, h1, D, h2, h3, h4⟩ := hE
  have h1' : s.vm.findClass C = some cB := by rw [← X.warmed.alike.findClass]; exact h1
  obtain ⟨vm', X', st⟩ := X.instanceofYes hexec hown hlink h2 h4 h1' (by rw [h3]; exact Jvm.Free.SB.assignable_self _ _) hg hstack hdg
  exact ⟨_, X', rfl, st⟩
theorem cself {p : Program} {l : Launch} {e : Env} {R : Room} {s : State} {m : MethodId} {args : Array Value} {below : List Frame} {meth : Method} {c : Code} {T : State} {locs : List Loc} {cells slots : Nat} (X : Stand p l e R s m args below meth c T locs cells slots) (hexec : p.tables.exec = Jvm.exec) {own C : String} {index : Nat} (hown : s.vm.findClass own = some m.cls) (hlink : (Cond.classLink own index C).before args s = true) {a : Addr} (hE : Exact C a T)
    {g : JFrame} (hg : g.method = m) {rest : List Value} (hstack : g.stack = .ref a :: rest) (hdg : decode c.code g.pc = .ok (.checkcast index, 3)) :
    ∃ T', Stand p l e R s m args below meth c T' locs cells slots ∧ T'.heap = T.heap ∧ ∀ target, Steps p.tables e below (T'.setTop { g with pc := g.pc + 3, stack := .ref a :: rest }) target → Steps p.tables e below (T.setTop g) target := by
  obtain ⟨cB, h1, D, h2, h3, h4⟩ := hE
  have h1' : s.vm.findClass C = some cB := by rw [← X.warmed.alike.findClass]; exact h1
  obtain ⟨vm', X', st⟩ := X.checkcastYes hexec hown hlink h2 h4 h1' (by rw [h3]; exact Jvm.Free.SB.assignable_self _ _) hg hstack hdg
  exact ⟨_, X', rfl, fun t h => st t (by rw [← hstack] at h; exact h)⟩
namespace SEq
def yN : MethodName := ⟨"java/lang/String", "equals", "(Ljava/lang/Object;)Z"⟩
abbrev yB : ByteArray := jdk_42_method_66_code
theorem d0 : decode yB 0 = .ok (.aload_n 0, 1) := by decide +kernel
theorem d1 : decode yB 1 = .ok (.aload_n 1, 1) := by decide +kernel
theorem d2 : decode yB 2 = .ok (.if_acmp (.ne) 5, 3) := by decide +kernel
theorem d5 : decode yB 5 = .ok (.iconst 1, 1) := by decide +kernel
theorem d6 : decode yB 6 = .ok (.ireturn, 1) := by decide +kernel
theorem d7 : decode yB 7 = .ok (.aload_n 1, 1) := by decide +kernel
theorem d8 : decode yB 8 = .ok (.instanceof 10, 3) := by decide +kernel
theorem d11 : decode yB 11 = .ok (.ifCond (.eq) 43, 3) := by decide +kernel
theorem d14 : decode yB 14 = .ok (.aload_n 1, 1) := by decide +kernel
theorem d15 : decode yB 15 = .ok (.checkcast 10, 3) := by decide +kernel
theorem d18 : decode yB 18 = .ok (.astore_n 2, 1) := by decide +kernel
theorem d19 : decode yB 19 = .ok (.getstatic 38, 3) := by decide +kernel
theorem d22 : decode yB 22 = .ok (.ifCond (.eq) 14, 3) := by decide +kernel
theorem d25 : decode yB 25 = .ok (.aload_n 0, 1) := by decide +kernel
theorem d26 : decode yB 26 = .ok (.getfield 15, 3) := by decide +kernel
theorem d29 : decode yB 29 = .ok (.aload_n 2, 1) := by decide +kernel
theorem d30 : decode yB 30 = .ok (.getfield 15, 3) := by decide +kernel
theorem d33 : decode yB 33 = .ok (.if_icmp (.ne) 21, 3) := by decide +kernel
theorem d36 : decode yB 36 = .ok (.aload_n 0, 1) := by decide +kernel
theorem d37 : decode yB 37 = .ok (.getfield 9, 3) := by decide +kernel
theorem d40 : decode yB 40 = .ok (.aload_n 2, 1) := by decide +kernel
theorem d41 : decode yB 41 = .ok (.getfield 9, 3) := by decide +kernel
theorem d44 : decode yB 44 = .ok (.invokestatic 541, 3) := by decide +kernel
theorem d47 : decode yB 47 = .ok (.ifCond (.eq) 7, 3) := by decide +kernel
theorem d50 : decode yB 50 = .ok (.iconst 1, 1) := by decide +kernel
theorem d51 : decode yB 51 = .ok (.goto 4, 3) := by decide +kernel
theorem d54 : decode yB 54 = .ok (.iconst 0, 1) := by decide +kernel
theorem d55 : decode yB 55 = .ok (.ireturn, 1) := by decide +kernel
def site : List Cond := [.classLink "java/lang/String" 10 "java/lang/String", .fieldLink "java/lang/String" 38 "java/lang/String" "COMPACT_STRINGS" "Z", .fieldLink "java/lang/String" 15 "java/lang/String" "coder" "B", .fieldLink "java/lang/String" 9 "java/lang/String" "value" "[B", LEq.tab] ++ staticW "java/lang/String" 541 LEq.yN
def tab : Cond := tabOf yN yB 3 (some .boolean) site
def P (x t : Addr) (V : Cell) (cd : Int32) (n : Nat) (f : Nat → Int32) (y t' : Addr) (V' : Cell) (cd' : Int32) (k : Nat) (g : Nat → Int32) (z : Int32) (args : Array Value) (s : State) : Prop := args = #[.ref x, .ref y] ∧ Txt x t V cd n f s ∧ Txt y t' V' cd' k g s ∧ StaticIs s "java/lang/String" "COMPACT_STRINGS" "Z" (.int z) ∧ ¬ z = 0
/-- equals(Object) of two Strings: whether the texts are the same -/
theorem law (l : Launch) (x t : Addr) (V : Cell) (cd : Int32) (n : Nat) (f : Nat → Int32) (y t' : Addr) (V' : Cell) (cd' : Int32) (k : Nat) (g : Nat → Int32) (z : Int32) : Law l yN 2 1 1 14 yB 3 (some .boolean) site (P x t V cd n f y t' V' cd' k g z) (Says01 (SameT n f k g)) [] 0 0 := by
  refine Law.of_walk (plainFor_of_name (by decide +kernel)) (by decide +kernel) (by decide +kernel) (by decide) (fun _ _ h => by rw [h.1]; rfl) (fun _ U U' hal hh h => ⟨h.1, h.2.1.mv hal hh, h.2.2.1.mv hal hh, h.2.2.2.1.there hal hh, h.2.2.2.2⟩) (fun r U U' V V' h1 hal h2 h => Says01.mv r U U' V V' h1 hal h2 h) ?_
  intro p e s m args below meth c s₁ X0 hexec hbytes hml hret hlk hnm hown hh0 W hP
  obtain ⟨rfl, hx, hy, s1, hz⟩ := hP
  have c1 : Steps p.tables e below (s₁.setTop (entryFrame m #[.ref x, .ref y] 3)) (s₁.setTop (mkF m 2 #[.val (.ref x), .val (.ref y), .unset] [.ref y, .ref x])) := Steps.trans (entry rfl) (by
    show Steps p.tables e below (s₁.setTop (mkF m 0 #[.val (.ref x), .val (.ref y), .unset] [])) _
    refine XS.aloadN X0.here hexec rfl (hb hbytes d0) rfl rfl ?_
    refine XS.aloadN X0.here hexec rfl (hb hbytes d1) rfl rfl ?_
    exact Steps.refl _)
  by_cases hxy : x = y
  · have c2 : Steps p.tables e below (s₁.setTop (entryFrame m #[.ref x, .ref y] 3)) (s₁.setTop (mkF m 6 #[.val (.ref x), .val (.ref y), .unset] [.int 1])) := c1.trans (by
      refine acmpNo X0.here hexec rfl (hb hbytes d2) rfl rfl rfl (by simp [acmp, hxy]) ?_
      refine iconstV X0.here hexec rfl 1 (hb hbytes d5) (by decide) ?_
      exact Steps.refl _)
    subst hxy
    have ec : cd = cd' := by
      obtain ⟨D, fd, a1, a2, a3⟩ := hx.2.2.1
      obtain ⟨D', fd', b1, b2, b3⟩ := hy.2.2.1
      cases a1.symm.trans b1
      obtain ⟨q1, q2, q3, q4⟩ := a2.1
      obtain ⟨r1, r2, r3, r4⟩ := b2.1
      cases q4.symm.trans r4
      cases a3.symm.trans b3; rfl
    have et : t = t' := by
      obtain ⟨D, fd, a1, a2, a3⟩ := hx.2.1
      obtain ⟨D', fd', b1, b2, b3⟩ := hy.2.1
      cases a1.symm.trans b1
      obtain ⟨q1, q2, q3, q4⟩ := a2.1
      obtain ⟨r1, r2, r3, r4⟩ := b2.1
      cases q4.symm.trans r4
      cases a3.symm.trans b3; rfl
    subst ec et
    have ev : V = V' := by cases hx.2.2.2.1.1.symm.trans hy.2.2.2.1.1; rfl
    subst ev
    have hs : SameT n f k g := (Cod.eqv hx.2.2.2.2.1 hy.2.2.2.2.1 hx.2.2.2.2.2 hy.2.2.2.2.2).mp ⟨rfl, fun _ _ => rfl⟩
    exact ⟨s₁, some (.int 1), _, _, _, X0, rfl, rfl, rfl, (fun h => by cases h), ⟨1, rfl, hh0, Or.inl ⟨rfl, hs⟩⟩, fun fs hl => c2.trans (X0.ireturnOut hexec hret rfl (Or.inr (Or.inl rfl)) (hb hbytes d6) hl)⟩
  · have c2 : Steps p.tables e below (s₁.setTop (entryFrame m #[.ref x, .ref y] 3)) (s₁.setTop (mkF m 8 #[.val (.ref x), .val (.ref y), .unset] [.ref y])) := c1.trans (by
      refine acmpYes X0.here hexec rfl (pc0 := 2) rfl (hb hbytes d2) rfl rfl rfl (by simp [acmp, hxy]) (by decide) rfl ?_
      refine XS.aloadN X0.here hexec rfl (hb hbytes d7) rfl rfl ?_
      exact Steps.refl _)
    obtain ⟨T3, X3, q3, st3⟩ := cinst X0 hexec hown (wk W (.classLink "java/lang/String" 10 "java/lang/String")) (hy.mv X0.warmed.alike hh0).1 (g := (mkF m 8 #[.val (.ref x), .val (.ref y), .unset] [.ref y])) rfl (rest := []) rfl (hb hbytes d8)
    have hh3 := q3.trans hh0
    have c4 : Steps p.tables e below (s₁.setTop (entryFrame m #[.ref x, .ref y] 3)) (T3.setTop (mkF m 15 #[.val (.ref x), .val (.ref y), .unset] [.ref y])) := (c2.trans (st3 _ (Steps.refl _))).trans (by
      refine XS.ifNo X3.here hexec rfl (hb hbytes d11) rfl (i0_eq_f (by decide)) ?_
      refine XS.aloadN X3.here hexec rfl (hb hbytes d14) rfl rfl ?_
      exact Steps.refl _)
    obtain ⟨T5, X5, q5, st5⟩ := cself X3 hexec hown (wk W (.classLink "java/lang/String" 10 "java/lang/String")) (hy.mv X3.warmed.alike hh3).1 (g := (mkF m 15 #[.val (.ref x), .val (.ref y), .unset] [.ref y])) rfl (rest := []) rfl (hb hbytes d15)
    have hh5 := q5.trans hh3
    have c6 : Steps p.tables e below (s₁.setTop (entryFrame m #[.ref x, .ref y] 3)) (T5.setTop (mkF m 19 #[.val (.ref x), .val (.ref y), .val (.ref y)] [])) := (c4.trans (st5 _ (Steps.refl _))).trans (by
      refine XS.astoreN X5.here hexec rfl (hb hbytes d18) rfl rfl rfl ?_
      exact Steps.refl _)
    obtain ⟨T7, X7, q7, st7⟩ := X5.sget hexec hown (wk W (.fieldLink "java/lang/String" 38 "java/lang/String" "COMPACT_STRINGS" "Z")) s1 (fun _ _ h => by rw [hh5]; exact h) (g := (mkF m 19 #[.val (.ref x), .val (.ref y), .val (.ref y)] [])) rfl (hb hbytes d19)
    have hh7 := q7.trans hh5
    have c8 : Steps p.tables e below (s₁.setTop (entryFrame m #[.ref x, .ref y] 3)) (T7.setTop (mkF m 26 #[.val (.ref x), .val (.ref y), .val (.ref y)] [.ref x])) := (c6.trans (st7 _ (Steps.refl _))).trans (by
      refine XS.ifNo X7.here hexec rfl (hb hbytes d22) rfl (i0_eq_f hz) ?_
      refine XS.aloadN X7.here hexec rfl (hb hbytes d25) rfl rfl ?_
      exact Steps.refl _)
    obtain ⟨T9, X9, q9, st9⟩ := X7.hget hexec hown (wk W (.fieldLink "java/lang/String" 15 "java/lang/String" "coder" "B")) (hx.mv X7.warmed.alike hh7).2.2.1 (g := (mkF m 26 #[.val (.ref x), .val (.ref y), .val (.ref y)] [.ref x])) rfl (rest := []) rfl (hb hbytes d26)
    have hh9 := q9.trans hh7
    have c10 : Steps p.tables e below (s₁.setTop (entryFrame m #[.ref x, .ref y] 3)) (T9.setTop (mkF m 30 #[.val (.ref x), .val (.ref y), .val (.ref y)] [.ref y, .int cd])) := (c8.trans (st9 _ (Steps.refl _))).trans (by
      refine XS.aloadN X9.here hexec rfl (hb hbytes d29) rfl rfl ?_
      exact Steps.refl _)
    obtain ⟨T11, X11, q11, st11⟩ := X9.hget hexec hown (wk W (.fieldLink "java/lang/String" 15 "java/lang/String" "coder" "B")) (hy.mv X9.warmed.alike hh9).2.2.1 (g := (mkF m 30 #[.val (.ref x), .val (.ref y), .val (.ref y)] [.ref y, .int cd])) rfl (rest := [.int cd]) rfl (hb hbytes d30)
    have hh11 := q11.trans hh9
    have c12 : Steps p.tables e below (s₁.setTop (entryFrame m #[.ref x, .ref y] 3)) (T11.setTop (mkF m 33 #[.val (.ref x), .val (.ref y), .val (.ref y)] [.int cd', .int cd])) := c10.trans (st11 _ (Steps.refl _))
    by_cases hcd : cd = cd'
    · subst hcd
      have c13 : Steps p.tables e below (s₁.setTop (entryFrame m #[.ref x, .ref y] 3)) (T11.setTop (mkF m 37 #[.val (.ref x), .val (.ref y), .val (.ref y)] [.ref x])) := c12.trans (by
        refine XS.icmpNo X11.here hexec rfl (hb hbytes d33) rfl (ii_ne_f rfl) ?_
        refine XS.aloadN X11.here hexec rfl (hb hbytes d36) rfl rfl ?_
        exact Steps.refl _)
      obtain ⟨T14, X14, q14, st14⟩ := X11.hget hexec hown (wk W (.fieldLink "java/lang/String" 9 "java/lang/String" "value" "[B")) (hx.mv X11.warmed.alike hh11).2.1 (g := (mkF m 37 #[.val (.ref x), .val (.ref y), .val (.ref y)] [.ref x])) rfl (rest := []) rfl (hb hbytes d37)
      have hh14 := q14.trans hh11
      have c15 : Steps p.tables e below (s₁.setTop (entryFrame m #[.ref x, .ref y] 3)) (T14.setTop (mkF m 41 #[.val (.ref x), .val (.ref y), .val (.ref y)] [.ref y, .ref t])) := (c13.trans (st14 _ (Steps.refl _))).trans (by
        refine XS.aloadN X14.here hexec rfl (hb hbytes d40) rfl rfl ?_
        exact Steps.refl _)
      obtain ⟨T16, X16, q16, st16⟩ := X14.hget hexec hown (wk W (.fieldLink "java/lang/String" 9 "java/lang/String" "value" "[B")) (hy.mv X14.warmed.alike hh14).2.1 (g := (mkF m 41 #[.val (.ref x), .val (.ref y), .val (.ref y)] [.ref y, .ref t])) rfl (rest := [.ref t]) rfl (hb hbytes d41)
      have hh16 := q16.trans hh14
      have c17 : Steps p.tables e below (s₁.setTop (entryFrame m #[.ref x, .ref y] 3)) (T16.setTop (mkF m 44 #[.val (.ref x), .val (.ref y), .val (.ref y)] [.ref t', .ref t])) := c15.trans (st16 _ (Steps.refl _))
      obtain ⟨v18, T18, X18, E18, g18⟩ := X16.callS hexec (LEq.law l t V t' V') hown (wks W (staticW "java/lang/String" 541 LEq.yN)) (wk W LEq.tab) (W := 0) (Nat.le_of_ble_eq_true rfl) (Nat.le_of_ble_eq_true rfl) (Nat.le_refl _) (Nat.le_refl _) (g := (mkF m 44 #[.val (.ref x), .val (.ref y), .val (.ref y)] [.ref t', .ref t])) rfl (by rw [hml]; rfl) c17 (argsL := [.ref t, .ref t']) (rest := []) rfl rfl (by show 2 * 0 + 0 ≤ _; decide) (hb hbytes d44) (⟨rfl, hx.2.2.2.1.mv X16.warmed.alike hh16, hx.2.2.2.2.1.ty, hy.2.2.2.1.mv X16.warmed.alike hh16, hy.2.2.2.2.1.ty⟩)
      obtain ⟨v, rfl, q18, hv⟩ := E18
      have iff := Cod.eqv hx.2.2.2.2.1 hy.2.2.2.2.1 hx.2.2.2.2.2 hy.2.2.2.2.2
      rcases hv with ⟨rfl, he⟩ | ⟨rfl, he⟩
      · have c19 : Steps p.tables e below (s₁.setTop (entryFrame m #[.ref x, .ref y] 3)) (T18.setTop (mkF m 55 #[.val (.ref x), .val (.ref y), .val (.ref y)] [.int 1])) := Steps.trans g18 (by
          refine XS.ifNo X18.here hexec rfl (hb hbytes d47) rfl (i0_eq_f (by decide)) ?_
          refine iconstV X18.here hexec rfl 1 (hb hbytes d50) (by decide) ?_
          refine XS.goto X18.here hexec rfl (pc0 := 51) rfl (hb hbytes d51) (by decide) rfl ?_
          exact Steps.refl _)
        exact ⟨T18, some (.int 1), _, _, _, X18, rfl, rfl, rfl, (fun h => by cases h), ⟨1, rfl, q18.trans hh16, Or.inl ⟨rfl, iff.mp he⟩⟩, fun fs hl => c19.trans (X18.ireturnOut hexec hret rfl (Or.inr (Or.inl rfl)) (hb hbytes d55) hl)⟩
      · have c19 : Steps p.tables e below (s₁.setTop (entryFrame m #[.ref x, .ref y] 3)) (T18.setTop (mkF m 55 #[.val (.ref x), .val (.ref y), .val (.ref y)] [.int 0])) := Steps.trans g18 (by
          refine XS.ifYes X18.here hexec rfl (pc0 := 47) rfl (hb hbytes d47) rfl (i0_eq_t rfl) (by decide) rfl ?_
          refine iconstV X18.here hexec rfl 0 (hb hbytes d54) (by decide) ?_
          exact Steps.refl _)
        exact ⟨T18, some (.int 0), _, _, _, X18, rfl, rfl, rfl, (fun h => by cases h), ⟨0, rfl, q18.trans hh16, Or.inr ⟨rfl, fun q => he (iff.mpr q)⟩⟩, fun fs hl => c19.trans (X18.ireturnOut hexec hret rfl (Or.inr (Or.inl rfl)) (hb hbytes d55) hl)⟩
    · have c13 : Steps p.tables e below (s₁.setTop (entryFrame m #[.ref x, .ref y] 3)) (T11.setTop (mkF m 55 #[.val (.ref x), .val (.ref y), .val (.ref y)] [.int 0])) := c12.trans (by
        refine XS.icmpYes X11.here hexec rfl (pc0 := 33) rfl (hb hbytes d33) rfl (ii_ne_t hcd) (by decide) rfl ?_
        refine iconstV X11.here hexec rfl 0 (hb hbytes d54) (by decide) ?_
        exact Steps.refl _)
      exact ⟨T11, some (.int 0), _, _, _, X11, rfl, rfl, rfl, (fun h => by cases h), ⟨0, rfl, hh11, Or.inr ⟨rfl, Cod.dif hx.2.2.2.2.1 hy.2.2.2.2.1 hcd⟩⟩, fun fs hl => c13.trans (X11.ireturnOut hexec hret rfl (Or.inr (Or.inl rfl)) (hb hbytes d55) hl)⟩
theorem pays {l : Launch} {R : Room} {p : Program} {e : Env} {below : List Frame} {s : State} {sargs : Array Value} {len W : Nat} (x t : Addr) (V : Cell) (cd : Int32) (n : Nat) (f : Nat → Int32) (y t' : Addr) (V' : Cell) (cd' : Int32) (k : Nat) (g : Nat → Int32) (z : Int32) (htab : tab.before sargs s = true) (hfr : 2 ≤ R.frames) (hlo : W + 28 ≤ R.locals) :
    Back l R p e below s sargs yN len W (fun A₁ a₁ => A₁.cells + 0 ≤ R.cells ∧ A₁.slots + 0 ≤ R.slots ∧ P x t V cd n f y t' V' cd' k g z a₁ A₁.U) (fun A₁ _ v₁ B₁ => Says01 (SameT n f k g) v₁ A₁.U B₁.U ∧ B₁.locs = A₁.locs ++ [] ∧ B₁.cells = A₁.cells + 0 ∧ B₁.slots = A₁.slots + 0) :=
  (law l x t V cd n f y t' V' cd' k g z).pays htab hfr (by omega)
end SEq
end StrChars
namespace StrChars.Road
open Jvm Sem ClassFile Op Lib Jvm.Stand Jvm.Free Jvm.Free.XT
open Jvm.Lib.Cold (StaticIs)
/-- the words of String.isEmpty() -/
abbrev wordsEmp : List Jvm.Cond := [.code Emp.yN Emp.yB 1 (some .boolean), .initialized ST, .fieldLink ST 9 ST "value" "[B"]
theorem tabEmp_of {a : Array Value} {s : State} (h : ∀ w ∈ wordsEmp, w.before a s = true) : Emp.tab.before a s = true := unparts (wk h (.code Emp.yN Emp.yB 1 (some .boolean))) (wks h (.initialized Emp.yN.cls :: Emp.site))
theorem movedEmp {Z s : State} {a0 args : Array Value} (hZ : Z.Warmed39 s.vm) (hw : ∀ d ∈ wordsEmp, d.before a0 Z = true) : ∀ d ∈ wordsEmp, d.before args s = true := fun d hd => by
  have t : ∀ d ∈ wordsEmp, (d.onTables && d.keepsFace) = true := by decide +kernel
  exact RoadKit.mv hZ (hw d hd) (t d hd)
/-- the words of String.equals(Object) -/
abbrev wordsEq : List Jvm.Cond := [.code SEq.yN SEq.yB 3 (some .boolean), .initialized ST, .classLink ST 10 ST, .fieldLink ST 38 ST "COMPACT_STRINGS" "Z", .fieldLink ST 15 ST "coder" "B", .fieldLink ST 9 ST "value" "[B", .methodLink ST 541 LEq.yN, .static LEq.yN, .code LEq.yN LEq.yB 3 (some .boolean), .initialized "java/lang/StringLatin1"]
theorem tabEq_of {a : Array Value} {s : State} (h : ∀ w ∈ wordsEq, w.before a s = true) : SEq.tab.before a s = true := by
  have hl : LEq.tab.before a s = true := unparts (wk h (.code LEq.yN LEq.yB 3 (some .boolean))) (wks h (.initialized LEq.yN.cls :: LEq.site))
  have q := consq hl h
  exact unparts (wk q (.code SEq.yN SEq.yB 3 (some .boolean))) (wks q (.initialized SEq.yN.cls :: SEq.site))
theorem movedEq {Z s : State} {a0 args : Array Value} (hZ : Z.Warmed39 s.vm) (hw : ∀ d ∈ wordsEq, d.before a0 Z = true) : ∀ d ∈ wordsEq, d.before args s = true := fun d hd => by
  have t : ∀ d ∈ wordsEq, (d.onTables && d.keepsFace) = true := by decide +kernel
  exact RoadKit.mv hZ (hw d hd) (t d hd)
/-- the road's facts of a String, as the laws ask it -/
theorem txt_of {Z U : State} {a0 : Array Value} {kI : Nat} (wi : (Jvm.Cond.instantiable ST kI).before a0 Z = true) (al : Z.vm.Alike U.vm) {x t : Addr} {kb : ClassId} {cs : List Int32} {cd N2 : Int32} {vs : List Value} (E : RoadKit.Exa Z U.heap x ST) (V : RoadKit.Fld Z U.heap x ST "value" "[B" (.ref t)) (C : RoadKit.Fld Z U.heap x ST "coder" "B" (.int cd)) (K : RoadKit.Arv Z U.heap t kb .byte N2 vs (.int 0)) (hc : CodA cs cd N2 vs) (hb : ∀ c ∈ cs, ¬ c < 0 ∧ ¬ (65535 : Int32) < c) (l2 : cs.length ≤ 4000) :
    ∃ A, Txt x t A cd cs.length (fun j => cs.getD j 0) U := by
  obtain ⟨A, K1, K2, K3, K4, K5, K6⟩ := K
  have hcod := hc.cod (by omega) K3 K5
  obtain ⟨D, fV, fC, hB, F1, F2, g1, g2, -, -⟩ := strObj wi al E V C
  exact ⟨A, ⟨_, hB.2.2.1, D, hB.1, rfl, by cases q : D.vm <;> first | rfl | exact absurd q (hB.2.1.2 _)⟩, Has.of hB F1 g1, Has.of hB F2 g2, ⟨K1.1, State.isArrayOf_alike al K1.2.1, K1.2.2, by rcases hcod with ⟨-, q, -⟩ | ⟨-, q, -⟩ <;> omega⟩, hcod, fun j hj => by
    have e : cs.getD j 0 = cs[j] := by simp [List.getD_eq_getElem?_getD, hj]
    show ¬ cs.getD j 0 < 0 ∧ ¬ 65535 < cs.getD j 0
    rw [e]; exact hb _ (List.getElem_mem _)⟩
theorem same_list (cs ds : List Int32) : SameT cs.length (fun j => cs.getD j 0) ds.length (fun j => ds.getD j 0) ↔ cs = ds := by
  constructor
  · rintro ⟨e, q⟩
    refine List.ext_getElem e fun j h1 h2 => ?_
    have := q j h1
    simpa [List.getD_eq_getElem?_getD, h1, h2] using this
  · rintro rfl
    exact ⟨rfl, fun _ _ => rfl⟩
/-- **isEmpty() OF SUCH A STRING** -/
theorem empW {p : Program} {l : Launch} {e : Env} {R : Room} {s : State} {args : Array Value} {below : List Frame} {len W : Nat} {Z : State} {a0 : Array Value} {h : Heap} (hZ : Z.Warmed39 s.vm) (hw : ∀ d ∈ wordsEmp, d.before a0 Z = true) {kI : Nat} (wi : (Jvm.Cond.instantiable ST kI).before a0 Z = true)
    {x t : Addr} {kb : ClassId} {cs : List Int32} {cd N2 : Int32} {vs : List Value} (E : RoadKit.Exa Z h x ST) (V : RoadKit.Fld Z h x ST "value" "[B" (.ref t)) (C : RoadKit.Fld Z h x ST "coder" "B" (.int cd)) (K : RoadKit.Arv Z h t kb .byte N2 vs (.int 0)) (hc : CodA cs cd N2 vs) (hb : ∀ c ∈ cs, ¬ c < 0 ∧ ¬ (65535 : Int32) < c) (l2 : cs.length ≤ 4000) (hfr : 1 ≤ R.frames) (hlo : W + 12 ≤ R.locals) :
    Back l R p e below s args (⟨"java/lang/String", "isEmpty", "()Z"⟩ : MethodName) len W (fun P a => a = #[.ref x] ∧ P.U.heap = h ∧ P.cells + 0 ≤ R.cells ∧ P.slots + 0 ≤ R.slots)
      (fun P _ v B => ∃ L, (v = some (.int (if cs.length = 0 then 1 else 0)) ∧ L = [] ∧ B.U.heap = h) ∧ B.locs = P.locs ++ L ∧ B.cells = P.cells + 0 ∧ B.slots = P.slots + 0) := by
  intro m meth c P g ig mk a X hg hsize hdg hW hn hp'
  obtain ⟨rfl, rfl, r1, r2⟩ := hp'
  have al : Z.vm.Alike P.U.vm := hZ.alike.trans X.warmed.alike
  obtain ⟨A, hx⟩ := txt_of wi al E V C K hc hb l2
  obtain ⟨v, B, X', ⟨⟨hv, hh⟩, hl, hk, hs⟩, st⟩ := Emp.pays x t A cd cs.length (fun j => cs.getD j 0) (tabEmp_of (movedEmp hZ hw)) hfr hlo m meth c P g ig mk _ X hg hsize hdg hW hn ⟨r1, r2, rfl, hx⟩
  exact ⟨v, B, X', ⟨[], ⟨hv, rfl, hh⟩, hl, hk, hs⟩, st⟩
/-- **equals(Object) OF TWO SUCH STRINGS**: 1 just where the chars are the same -/
theorem eqW {p : Program} {l : Launch} {e : Env} {R : Room} {s : State} {args : Array Value} {below : List Frame} {len W : Nat} {Z : State} {a0 : Array Value} {h : Heap} (hZ : Z.Warmed39 s.vm) (hw : ∀ d ∈ wordsEq, d.before a0 Z = true) {kI : Nat} (wi : (Jvm.Cond.instantiable ST kI).before a0 Z = true)
    {x t : Addr} {kb : ClassId} {cs : List Int32} {cd N2 : Int32} {vs : List Value} (E : RoadKit.Exa Z h x ST) (V : RoadKit.Fld Z h x ST "value" "[B" (.ref t)) (C : RoadKit.Fld Z h x ST "coder" "B" (.int cd)) (K : RoadKit.Arv Z h t kb .byte N2 vs (.int 0)) (hc : CodA cs cd N2 vs) (hb : ∀ c ∈ cs, ¬ c < 0 ∧ ¬ (65535 : Int32) < c) (l2 : cs.length ≤ 4000)
    {y t' : Addr} {kb' : ClassId} {ds : List Int32} {cd' N2' : Int32} {vs' : List Value} (E' : RoadKit.Exa Z h y ST) (V' : RoadKit.Fld Z h y ST "value" "[B" (.ref t')) (C' : RoadKit.Fld Z h y ST "coder" "B" (.int cd')) (K' : RoadKit.Arv Z h t' kb' .byte N2' vs' (.int 0)) (hc' : CodA ds cd' N2' vs') (hb' : ∀ c ∈ ds, ¬ c < 0 ∧ ¬ (65535 : Int32) < c) (l2' : ds.length ≤ 4000)
    {z : Int32} (S : RoadKit.Sta Z h ST "COMPACT_STRINGS" "Z" (.int z)) (hz : ¬ z = 0) (hfr : 2 ≤ R.frames) (hlo : W + 28 ≤ R.locals) :
    Back l R p e below s args (⟨"java/lang/String", "equals", "(Ljava/lang/Object;)Z"⟩ : MethodName) len W (fun P a => a = #[.ref x, .ref y] ∧ P.U.heap = h ∧ P.cells + 0 ≤ R.cells ∧ P.slots + 0 ≤ R.slots)
      (fun P _ v B => ∃ L, (((v = some (.int 1) ∧ cs = ds) ∨ (v = some (.int 0) ∧ ¬ cs = ds)) ∧ L = [] ∧ B.U.heap = h) ∧ B.locs = P.locs ++ L ∧ B.cells = P.cells + 0 ∧ B.slots = P.slots + 0) := by
  intro m meth c P g ig mk a X hg hsize hdg hW hn hp'
  obtain ⟨rfl, rfl, r1, r2⟩ := hp'
  have al : Z.vm.Alike P.U.vm := hZ.alike.trans X.warmed.alike
  obtain ⟨A, hx⟩ := txt_of wi al E V C K hc hb l2
  obtain ⟨A', hy⟩ := txt_of wi al E' V' C' K' hc' hb' l2'
  obtain ⟨v, B, X', ⟨⟨w, hv, hh, hq⟩, hl, hk, hs⟩, st⟩ := SEq.pays x t A cd cs.length (fun j => cs.getD j 0) y t' A' cd' ds.length (fun j => ds.getD j 0) z (tabEq_of (movedEq hZ hw)) hfr hlo m meth c P g ig mk _ X hg hsize hdg hW hn ⟨r1, r2, rfl, hx, hy, sta_is al S, hz⟩
  refine ⟨v, B, X', ⟨[], ⟨?_, rfl, hh⟩, hl, hk, hs⟩, st⟩
  rcases hq with ⟨rfl, q⟩ | ⟨rfl, q⟩
  · exact Or.inl ⟨hv, (same_list cs ds).mp q⟩
  · exact Or.inr ⟨hv, fun e => q ((same_list cs ds).mpr e)⟩
end StrChars.Road
namespace StrChars
open Jvm Sem ClassFile Op Lib Jvm.Stand Jvm.Free.XT Jvm.Free.ALB Jvm.Free.JM Jvm.Free
open Jvm.Lib.Cold (StaticIs)
namespace ChN
def yN : MethodName := ⟨"java/lang/String", "charAt", "(I)C"⟩
abbrev yB : ByteArray := jdk_42_method_56_code
theorem d0 : decode yB 0 = .ok (.aload_n 0, 1) := by decide +kernel
theorem d1 : decode yB 1 = .ok (.invokevirtual 492, 3) := by decide +kernel
theorem d4 : decode yB 4 = .ok (.ifCond (.eq) 12, 3) := by decide +kernel
theorem d7 : decode yB 7 = .ok (.aload_n 0, 1) := by decide +kernel
theorem d8 : decode yB 8 = .ok (.getfield 9, 3) := by decide +kernel
theorem d11 : decode yB 11 = .ok (.iload_n 1, 1) := by decide +kernel
theorem d12 : decode yB 12 = .ok (.invokestatic 495, 3) := by decide +kernel
theorem d15 : decode yB 15 = .ok (.ireturn, 1) := by decide +kernel
def site : List Cond := [.fieldLink "java/lang/String" 9 "java/lang/String" "value" "[B", IsL.tab, LChA.tab] ++ virtW "java/lang/String" 492 "java/lang/String" IsL.yN IsL.yN ++ staticW "java/lang/String" 495 LChA.yN
def tab : Cond := tabOf yN yB 2 (some .char) site
def P (x t : Addr) (V : Cell) (n : Nat) (f : Nat → Int32) (z : Int32) (fm : Value) (i : Nat) (args : Array Value) (s : State) : Prop := args = #[.ref x, .int (Int32.ofNat i)] ∧ Txt x t V 0 n f s ∧ i < n ∧ StaticIs s "java/lang/String" "COMPACT_STRINGS" "Z" (.int z) ∧ ¬ z = 0 ∧ StaticIs s "jdk/internal/util/Preconditions" "SIOOBE_FORMATTER" "Ljava/util/function/BiFunction;" fm ∧ fm.isRef = true
def E (f : Nat → Int32) (i : Nat) (r : Option Value) (s u : State) : Prop := XT.PureE (some (.int (f i))) r s u
/-- charAt(i) of a Latin-1 String of n chars, i < n: f i -/
theorem law (l : Launch) (x t : Addr) (V : Cell) (n : Nat) (f : Nat → Int32) (z : Int32) (fm : Value) (i : Nat) : Law l yN 2 1 3 40 yB 2 (some .char) site (P x t V n f z fm i) (E f i) [] 0 0 := by
  refine Law.of_walk (plainFor_of_name (by decide +kernel)) (by decide +kernel) (by decide +kernel) (by decide) (fun _ _ h => by rw [h.1]; rfl) (fun _ U U' hal hh h => ⟨h.1, h.2.1.mv hal hh, h.2.2.1, h.2.2.2.1.there hal hh, h.2.2.2.2.1, h.2.2.2.2.2.1.there hal hh, h.2.2.2.2.2.2⟩) (fun r U U' V V' h1 hal h2 h => XT.PureE.mv r U U' V V' h1 hal h2 h) ?_
  intro p e s m args below meth c s₁ X0 hexec hbytes hml hret hlk hnm hown hh0 W hP
  obtain ⟨rfl, hx, hi, s1, hz, s3, rf⟩ := hP
  have v31 := hx.2.2.2.1.2.2.2
  have hr := hx.2.2.2.2.2 i hi
  have hx0 := hx.mv X0.warmed.alike hh0
  have c1 : Steps p.tables e below (s₁.setTop (entryFrame m #[.ref x, .int (Int32.ofNat i)] 2)) (s₁.setTop (mkF m 1 #[.val (.ref x), .val (.int (Int32.ofNat i))] [.ref x])) := Steps.trans (entry rfl) (by
    show Steps p.tables e below (s₁.setTop (mkF m 0 #[.val (.ref x), .val (.int (Int32.ofNat i))] [])) _
    refine XS.aloadN X0.here hexec rfl (hb hbytes d0) rfl rfl ?_
    exact Steps.refl _)
  obtain ⟨v2, T2, X2, E2, g2⟩ := X0.callV hexec (IsL.law l x 0 z) hown (wks W (virtW "java/lang/String" 492 "java/lang/String" IsL.yN IsL.yN)) rfl (by decide) (wk W IsL.tab) (W := 0) (Nat.le_of_ble_eq_true rfl) (Nat.le_of_ble_eq_true rfl) (Nat.le_refl _) (Nat.le_refl _) (hx0.1.fc X0.warmed.alike) hx0.1.is (g := (mkF m 1 #[.val (.ref x), .val (.int (Int32.ofNat i))] [.ref x])) rfl (by rw [hml]; rfl) c1 (argsL := []) (rest := []) rfl rfl (by show 2 * 0 + 0 ≤ _; decide) (hb hbytes d1) (⟨rfl, hx0.2.2.1, hx.2.2.2.2.1.cd, s1.there X0.warmed.alike hh0, hz⟩)
  obtain ⟨rfl, q2⟩ := E2
  have hh2 := q2.trans hh0
  have hx2 := hx.mv X2.warmed.alike hh2
  obtain ⟨-, k1, k2⟩ | ⟨k0, -⟩ := hx.2.2.2.2.1
  · have c3 : Steps p.tables e below (s₁.setTop (entryFrame m #[.ref x, .int (Int32.ofNat i)] 2)) (T2.setTop (mkF m 8 #[.val (.ref x), .val (.int (Int32.ofNat i))] [.ref x])) := Steps.trans g2 (by
      refine XS.ifNo X2.here hexec rfl (hb hbytes d4) rfl (i0_eq_f (by decide)) ?_
      refine XS.aloadN X2.here hexec rfl (hb hbytes d7) rfl rfl ?_
      exact Steps.refl _)
    obtain ⟨T4, X4, q4, st4⟩ := X2.hget hexec hown (wk W (.fieldLink "java/lang/String" 9 "java/lang/String" "value" "[B")) hx2.2.1 (g := (mkF m 8 #[.val (.ref x), .val (.int (Int32.ofNat i))] [.ref x])) rfl (rest := []) rfl (hb hbytes d8)
    have hh4 := q4.trans hh2
    have c5 : Steps p.tables e below (s₁.setTop (entryFrame m #[.ref x, .int (Int32.ofNat i)] 2)) (T4.setTop (mkF m 12 #[.val (.ref x), .val (.int (Int32.ofNat i))] [.int (Int32.ofNat i), .ref t])) := (c3.trans (st4 _ (Steps.refl _))).trans (by
      refine XS.iloadN X4.here hexec rfl (hb hbytes d11) rfl ?_
      exact Steps.refl _)
    obtain ⟨v6, T6, X6, E6, g6⟩ := X4.callS hexec (LChA.law l t V i (lo8 (f i)) fm) hown (wks W (staticW "java/lang/String" 495 LChA.yN)) (wk W LChA.tab) (W := 0) (Nat.le_of_ble_eq_true rfl) (Nat.le_of_ble_eq_true rfl) (Nat.le_refl _) (Nat.le_refl _) (g := (mkF m 12 #[.val (.ref x), .val (.int (Int32.ofNat i))] [.int (Int32.ofNat i), .ref t])) rfl (by rw [hml]; rfl) c5 (argsL := [.ref t, .int (Int32.ofNat i)]) (rest := []) rfl rfl (by show 2 * 0 + 0 ≤ _; decide) (hb hbytes d12) (⟨rfl, hx.2.2.2.1.mv X4.warmed.alike hh4, (k2 i hi).1, s3.there X4.warmed.alike hh4, rf⟩)
    obtain ⟨rfl, q6⟩ := E6
    rw [chr8_lo8 hr.1 (k2 i hi).2] at g6
    exact ⟨T6, some (.int (f i)), _, _, _, X6, rfl, rfl, rfl, (fun h => by cases h), ⟨rfl, q6.trans hh4⟩, fun fs hl => Steps.trans g6 (X6.ireturnOut hexec hret (narrow_ch hr.1 hr.2) (Or.inr (Or.inr (Or.inr (Or.inl rfl)))) (hb hbytes d15) hl)⟩
  · exact absurd k0 (by decide)
theorem pays {l : Launch} {R : Room} {p : Program} {e : Env} {below : List Frame} {s : State} {sargs : Array Value} {len W : Nat} (x t : Addr) (V : Cell) (n : Nat) (f : Nat → Int32) (z : Int32) (fm : Value) (i : Nat) (htab : tab.before sargs s = true) (hfr : 4 ≤ R.frames) (hlo : W + 53 ≤ R.locals) :
    Back l R p e below s sargs yN len W (fun A₁ a₁ => A₁.cells + 0 ≤ R.cells ∧ A₁.slots + 0 ≤ R.slots ∧ P x t V n f z fm i a₁ A₁.U) (fun A₁ _ v₁ B₁ => E f i v₁ A₁.U B₁.U ∧ B₁.locs = A₁.locs ++ [] ∧ B₁.cells = A₁.cells + 0 ∧ B₁.slots = A₁.slots + 0) :=
  (law l x t V n f z fm i).pays htab hfr (by omega)
end ChN
end StrChars
namespace StrChars.Road
open Jvm Sem ClassFile Op Lib Jvm.Stand Jvm.Free Jvm.Free.XT
open Jvm.Lib.Cold (StaticIs)
/-- the words of String.charAt(int), the Latin-1 road alone -/
abbrev wordsChN : List Jvm.Cond := [.code ChN.yN ChN.yB 2 (some .char), .initialized ST, .fieldLink ST 9 ST "value" "[B", .fieldLink ST 38 ST "COMPACT_STRINGS" "Z", .fieldLink ST 15 ST "coder" "B", .code IsL.yN IsL.yB 1 (some .boolean), .methodLink ST 492 IsL.yN, .declares IsL.yN, .selects ST IsL.yN IsL.yN, .instanceMethod IsL.yN,
  .methodLink ST 495 LChA.yN, .static LChA.yN, .code LChA.yN LChA.yB 2 (some .char), .initialized "java/lang/StringLatin1", .methodLink "java/lang/StringLatin1" 9 JO.Str_checkIndex.yN, .static JO.Str_checkIndex.yN, .code JO.Str_checkIndex.yN JO.Str_checkIndex.yB 2 none,
  .fieldLink ST 1053 "jdk/internal/util/Preconditions" "SIOOBE_FORMATTER" "Ljava/util/function/BiFunction;", .methodLink ST 1059 JC.PreCheck.yN, .static JC.PreCheck.yN, .code JC.PreCheck.yN JC.PreCheck.yB 3 (some .int), .initialized "jdk/internal/util/Preconditions"]
theorem tabChN_of {a : Array Value} {s : State} (h : ∀ w ∈ wordsChN, w.before a s = true) : ChN.tab.before a s = true := by
  have hp : JC.PreCheck.tab.before a s = true := unparts (wk h (.code JC.PreCheck.yN JC.PreCheck.yB 3 (some .int))) (wks h (.initialized JC.PreCheck.yN.cls :: JC.PreCheck.site))
  have qk := consq hp h
  have hk : JO.Str_checkIndex.tab.before a s = true := unparts (wk qk (.code JO.Str_checkIndex.yN JO.Str_checkIndex.yB 2 none)) (wks qk (.initialized JO.Str_checkIndex.yN.cls :: JO.Str_checkIndex.site))
  have ql := consq hk h
  have hl : LChA.tab.before a s = true := unparts (wk ql (.code LChA.yN LChA.yB 2 (some .char))) (wks ql (.initialized LChA.yN.cls :: LChA.site))
  have hi : IsL.tab.before a s = true := unparts (wk h (.code IsL.yN IsL.yB 1 (some .boolean))) (wks h (.initialized IsL.yN.cls :: IsL.site))
  have q := consq hi (consq hl h)
  exact unparts (wk q (.code ChN.yN ChN.yB 2 (some .char))) (wks q (.initialized ChN.yN.cls :: ChN.site))
theorem movedChN {Z s : State} {a0 args : Array Value} (hZ : Z.Warmed39 s.vm) (hw : ∀ d ∈ wordsChN, d.before a0 Z = true) : ∀ d ∈ wordsChN, d.before args s = true := fun d hd => by
  have t : ∀ d ∈ wordsChN, (d.onTables && d.keepsFace) = true := by decide +kernel
  exact RoadKit.mv hZ (hw d hd) (t d hd)
/-- **charAt(i) OF A LATIN-1 STRING**, i < n: the char -/
theorem chN {p : Program} {l : Launch} {e : Env} {R : Room} {s : State} {args : Array Value} {below : List Frame} {len W : Nat} {Z : State} {a0 : Array Value} {h : Heap} (hZ : Z.Warmed39 s.vm) (hw : ∀ d ∈ wordsChN, d.before a0 Z = true) {kI : Nat} (wi : (Jvm.Cond.instantiable ST kI).before a0 Z = true)
    {x t : Addr} {kb : ClassId} {cs : List Int32} {N2 z : Int32} {vs : List Value} {fm : Value} {i : Nat} {j : Int32} (E : RoadKit.Exa Z h x ST) (V : RoadKit.Fld Z h x ST "value" "[B" (.ref t)) (C : RoadKit.Fld Z h x ST "coder" "B" (.int 0)) (K : RoadKit.Arv Z h t kb .byte N2 vs (.int 0)) (hc : CodA cs 0 N2 vs) (hb : ∀ c ∈ cs, ¬ c < 0 ∧ ¬ (65535 : Int32) < c)
    (S : RoadKit.Sta Z h ST "COMPACT_STRINGS" "Z" (.int z)) (hz : ¬ z = 0) (F : RoadKit.Sta Z h "jdk/internal/util/Preconditions" "SIOOBE_FORMATTER" "Ljava/util/function/BiFunction;" fm) (rf : fm.isRef = true) (l2 : cs.length ≤ 4000) (hi : i < cs.length) (hj : j = Int32.ofNat i) (hfr : 4 ≤ R.frames) (hlo : W + 53 ≤ R.locals) :
    Back l R p e below s args (⟨"java/lang/String", "charAt", "(I)C"⟩ : MethodName) len W (fun P a => a = #[.ref x, .int j] ∧ P.U.heap = h ∧ P.cells + 0 ≤ R.cells ∧ P.slots + 0 ≤ R.slots)
      (fun P _ v B => ∃ L, (v = some (.int (cs.getD i 0)) ∧ L = [] ∧ B.U.heap = h) ∧ B.locs = P.locs ++ L ∧ B.cells = P.cells + 0 ∧ B.slots = P.slots + 0) := by
  subst hj
  intro m meth c P g ig mk a X hg hsize hdg hW hn hp'
  obtain ⟨rfl, rfl, r1, r2⟩ := hp'
  have al : Z.vm.Alike P.U.vm := hZ.alike.trans X.warmed.alike
  obtain ⟨A, hx⟩ := txt_of wi al E V C K hc hb l2
  obtain ⟨v, B, X', ⟨⟨hv, hh⟩, hl, hk, hs⟩, st⟩ := ChN.pays x t A cs.length (fun j => cs.getD j 0) z fm i (tabChN_of (movedChN hZ hw)) hfr hlo m meth c P g ig mk _ X hg hsize hdg hW hn ⟨r1, r2, rfl, hx, hi, sta_is al S, hz, sta_is al F, rf⟩
  exact ⟨v, B, X', ⟨[], ⟨hv, rfl, hh⟩, hl, hk, hs⟩, st⟩
/-- what backV says of its String, as the contracts of this text ask it: cs's low bytes, coder 0 -/
theorem codOf {cs : List Int32} {n : Nat} (hn : cs.length = n) (hb : ∀ c ∈ cs, ¬ 255 < c) : CodA cs 0 (Int32.ofNat n) ((cs.map lo8).map Value.int) := Or.inl ⟨rfl, by rw [hn], by simp [List.map_map, Function.comp_def], hb⟩
end StrChars.Road
end Jvm.Pilot.@@N@@
namespace Jvm.Pilot.@@N@@
open Jvm Jvm.ClassFile Sem Op Lib Jvm.Free Jvm.Stand Jvm.LawKit Jvm.RoadKit Bundle Jvm.OwnK Jvm.Pilot.@@N@@.Jvm.D
abbrev STN : String := "java/lang/String"
/-- a String that spells the chars cs -/
def Str (Z : State) (h : Heap) (a : Addr) (cs : List Int32) : Prop := ∃ (b : Addr) (kb : ClassId) (cd N2 : Int32) (vs : List Value), Exa Z h a STN ∧ Fld Z h a STN "value" "[B" (.ref b) ∧ Fld Z h a STN "coder" "B" (.int cd) ∧ Arv Z h b kb .byte N2 vs (.int 0) ∧ StrChars.Road.CodA cs cd N2 vs ∧ (∀ c ∈ cs, ¬ c < 0 ∧ ¬ (65535 : Int32) < c) ∧ cs.length ≤ 4000
theorem Str.ext {Z : State} {h h' : Heap} {a : Addr} {cs : List Int32} (F : Str Z h a cs) (E : Ext h h') : Str Z h' a cs := by
  obtain ⟨b, kb, cd, N2, vs, f1, f2, f3, f4, r⟩ := F
  exact ⟨b, kb, cd, N2, vs, f1.ext E, f2.ext E, f3.ext E, f4.ext E, r⟩
theorem Str.exa {Z : State} {h : Heap} {a : Addr} {cs : List Int32} (F : Str Z h a cs) : Exa Z h a STN := by obtain ⟨b, kb, cd, N2, vs, f1, -⟩ := F; exact f1
theorem Str.lt {Z : State} {h : Heap} {a : Addr} {cs : List Int32} (F : Str Z h a cs) : a < h.size := F.exa.lt
theorem le16 {cs : List Int32} (h : ∀ c ∈ cs, ¬ c < 0 ∧ ¬ (255 : Int32) < c) : ∀ c ∈ cs, ¬ c < 0 ∧ ¬ (65535 : Int32) < c := fun c hc => ⟨(h c hc).1, fun q => (h c hc).2 (Int32.lt_trans (by decide) q)⟩
theorem and255 (x : Int32) : ¬ (x &&& 255) < 0 ∧ ¬ (255 : Int32) < (x &&& 255) := by
  have h := c_and x 255 (by decide)
  have e : (255 : Int32).toInt = 255 := by decide
  have e0 : (0 : Int32).toInt = 0 := by decide
  rw [Int32.lt_iff_toInt_lt, Int32.lt_iff_toInt_lt, e, e0]; omega
def okT (c : Int32) : Prop := c.toNatClampNeg = 45 ∨ (48 ≤ c.toNatClampNeg ∧ c.toNatClampNeg < 58) ∨ (97 ≤ c.toNatClampNeg ∧ c.toNatClampNeg < 123)
def okI (c : Int32) : Prop := c.toNatClampNeg = 45 ∨ c.toNatClampNeg = 46 ∨ (48 ≤ c.toNatClampNeg ∧ c.toNatClampNeg < 59) ∨ (65 ≤ c.toNatClampNeg ∧ c.toNatClampNeg < 91) ∨ c.toNatClampNeg = 95 ∨ (97 ≤ c.toNatClampNeg ∧ c.toNatClampNeg < 123)
instance (c : Int32) : Decidable (okT c) := by unfold okT; infer_instance
instance (c : Int32) : Decidable (okI c) := by unfold okI; infer_instance
theorem okT_I {c : Int32} (h : okT c) : okI c := by unfold okT at h; unfold okI; omega
theorem okI_r {c : Int32} (h : okI c) : (¬ c < 0 ∧ ¬ (255 : Int32) < c) ∧ c < 128 ∧ ¬ c = 37 := by
  have e : (c.toNatClampNeg : Int) = max c.toInt 0 := by show ((c.toInt.toNat : Nat) : Int) = _; omega
  have e1 : (255 : Int32).toInt = 255 := by decide
  have e0 : (0 : Int32).toInt = 0 := by decide
  have e2 : (128 : Int32).toInt = 128 := by decide
  have e3 : (37 : Int32).toInt = 37 := by decide
  unfold okI at h
  refine ⟨⟨?_, ?_⟩, ?_, fun q => ?_⟩
  · rw [Int32.lt_iff_toInt_lt, e0]; omega
  · rw [Int32.lt_iff_toInt_lt, e1]; omega
  · rw [Int32.lt_iff_toInt_lt, e2]; omega
  · rw [q] at e h; rw [e3] at e; omega
def Rule (Z : State) (h : Heap) (r : Addr) (mx rf : Int32) (P : Int32 → Prop) : Prop := ∃ (al : Addr) (kc : ClassId) (vs : List Value), Exa Z h r "com/example/kredential/kredential/NameRule" ∧ Fld Z h r "com/example/kredential/kredential/NameRule" "maxLength" "I" (.int mx) ∧ Fld Z h r "com/example/kredential/kredential/NameRule" "refusesDotSegments" "Z" (.int rf) ∧ Fld Z h r "com/example/kredential/kredential/NameRule" "allowed" "[Z" (.ref al) ∧ Arv Z h al kc .boolean 128 vs (.int 0) ∧ ∀ c : Int32, P c → vs.getD c.toNatClampNeg (.int 0) = .int 1
theorem Rule.ext {Z : State} {h h' : Heap} {r : Addr} {mx rf : Int32} {P : Int32 → Prop} (F : Rule Z h r mx rf P) (E : Ext h h') : Rule Z h' r mx rf P := by
  obtain ⟨al, kc, vs, f1, f2, f3, f4, f5, f6⟩ := F
  exact ⟨al, kc, vs, f1.ext E, f2.ext E, f3.ext E, f4.ext E, f5.ext E, f6⟩
theorem Rule.exa {Z : State} {h : Heap} {r : Addr} {mx rf : Int32} {P : Int32 → Prop} (F : Rule Z h r mx rf P) : Exa Z h r "com/example/kredential/kredential/NameRule" := by obtain ⟨al, kc, vs, f1, -⟩ := F; exact f1
theorem mem_getD {P : Int32 → Prop} {cs : List Int32} (h : ∀ c ∈ cs, P c) {i : Nat} (hi : i < cs.length) : P (cs.getD i 0) := by
  rw [List.getD_eq_getElem?_getD, List.getElem?_eq_getElem hi]; exact h _ (List.getElem_mem hi)
def Rules (Z : State) : Prop := ∃ rt ri rp : Addr, Sta Z Z.heap "com/example/kredential/kredential/Resource" "TYPE" "Lcom/example/kredential/kredential/NameRule;" (.ref rt) ∧ Sta Z Z.heap "com/example/kredential/kredential/Resource" "ID" "Lcom/example/kredential/kredential/NameRule;" (.ref ri) ∧ Sta Z Z.heap "com/example/kredential/kredential/Participant" "ID" "Lcom/example/kredential/kredential/NameRule;" (.ref rp) ∧ Rule Z Z.heap rt 64 0 okT ∧ Rule Z Z.heap ri 128 1 okI ∧ Rule Z Z.heap rp 128 1 okI
def Nm (P : Int32 → Prop) (cs : List Int32) : Prop := (∀ c ∈ cs, P c) ∧ 0 < cs.length ∧ cs.length ≤ 2
def NmI (cs : List Int32) : Prop := Nm okI cs ∧ ¬ cs = [46] ∧ ¬ cs = [46, 46]
def L1 : List Int32 := [82, 101, 115, 111, 117, 114, 99, 101, 91]
theorem all_L1 : ∀ c ∈ L1, ¬ c < 0 ∧ ¬ (255 : Int32) < c := by decide
def L2 : List Int32 := [47]
theorem all_L2 : ∀ c ∈ L2, ¬ c < 0 ∧ ¬ (255 : Int32) < c := by decide
def L3 : List Int32 := [44, 32, 111, 119, 110, 101, 114, 32]
theorem all_L3 : ∀ c ∈ L3, ¬ c < 0 ∧ ¬ (255 : Int32) < c := by decide
def L4 : List Int32 := [93]
theorem all_L4 : ∀ c ∈ L4, ¬ c < 0 ∧ ¬ (255 : Int32) < c := by decide
def EL1 : List (String × Nat) := [("com/example/kredential/kredential/NameRule", 90), ("com/example/kredential/kredential/NameRule", 96), ("com/example/kredential/kredential/Resource", 68), ("com/example/kredential/kredential/Resource", 74), ("com/example/kredential/kredential/Resource", 76), ("com/example/kredential/kredential/Resource", 78)]
def Env1 (Z : State) (a0 : Array Value) : Prop := (∀ d ∈ tables_1, d.before a0 Z = true) ∧ EW Z a0 EL1 ∧ (∃ z : Int32, Sta Z Z.heap "java/lang/String" "COMPACT_STRINGS" "Z" (.int z) ∧ ¬ z = 0) ∧ ((∃ fm : Value, Sta Z Z.heap "jdk/internal/util/Preconditions" "SIOOBE_FORMATTER" "Ljava/util/function/BiFunction;" fm ∧ fm.isRef = true) ∧ Rules Z)
theorem wd {Z : State} {a0 : Array Value} (G : Env1 Z a0) (i : Nat) {d : Jvm.Cond} (h : tables_1[i]? = some d) : d.before a0 Z = true := G.1 d (List.mem_of_getElem? h)
theorem wS_in : ∀ a ∈ Bundle.stringAtoms, a ∈ tables_1 := by decide +kernel
theorem wS {Z : State} {a0 : Array Value} (G : Env1 Z a0) : ∀ a ∈ Bundle.stringAtoms, a.before a0 Z = true := fun a ha => G.1 a (wS_in a ha)
theorem wBackV : ∀ d ∈ StrChars.Road.words, d ∈ tables_1 := by decide +kernel
theorem pays_str {l : Launch} {R : Room} {Z : State} {a0 : Array Value} {sf : List Addr} {W : Nat} (G : Env1 Z a0) {x b : Addr} {kc : ClassId} (cs : List Int32) {d v0 c0 : Value} {N : Int32} (n : Nat) (h : Heap) (E : Exa Z h x STN) (V : Fld Z h x STN "value" "[B" v0) (C : Fld Z h x STN "coder" "B" c0) (K : Arv Z h b kc .char N (cs.map Value.int) d)
    (hn : cs.length = n) (hN : N = Int32.ofNat n) (l0 : 0 < n) (l2 : n ≤ 4000) (hp : ∀ c ∈ cs, ¬ c < 0 ∧ ¬ (255 : Int32) < c) (hsf : x ∈ sf) (hfr : 4 ≤ R.frames) (hlo : W + 65 ≤ R.locals) :
    Pays l R Z a0 EL1 sf (⟨"java/lang/String", "<init>", "([C)V"⟩ : MethodName) 3 W #[.ref x, .ref b] h 1 n (fun v h' => v = none ∧ Keep h h' [x] ∧ Str Z h' x cs) := by
  obtain ⟨z, hS, hz⟩ := G.2.2.1
  refine Pays.of_back (ws := [x]) (fun p e below s args hZ hE hsz => StrChars.Road.backV (n0 := Z.heap.size) (bs := cs.map (fun c => c.toInt8.toInt32)) hZ (fun d hd => G.1 d (wBackV d hd)) (kI := 4) (wd G 12 rfl) (hsz x hsf) hE.1 E V C K (hS.ext hE) hz hn hN l0 l2 hp rfl hfr hlo) (allS hsf all0) ?_
  intro v h' L hE q
  obtain ⟨q1, q2, q3, q4, q5, t, kb, -, -, -, q6, q7⟩ := q
  refine ⟨q2, q3, q1, q3, t, kb, 0, N, _, q4, q6, q5, q7, ?_, le16 hp, by omega⟩
  subst hN
  exact StrChars.Road.codOf hn (fun c hc => (hp c hc).2)
theorem wLen : ∀ d ∈ StrChars.Road.wordsLen, d ∈ tables_1 := by decide +kernel
theorem pays_len {l : Launch} {R : Room} {Z : State} {a0 : Array Value} {sf : List Addr} {W : Nat} (G : Env1 Z a0) {x : Addr} {cs : List Int32} (h : Heap) (F : Str Z h x cs) (hfr : 2 ≤ R.frames) (hlo : W + 25 ≤ R.locals) :
    Pays l R Z a0 EL1 sf (⟨"java/lang/String", "length", "()I"⟩ : MethodName) 3 W #[.ref x] h 0 0 (fun v h' => v = some (.int (Int32.ofNat cs.length)) ∧ h = h') := by
  obtain ⟨z, hS, hz⟩ := G.2.2.1
  obtain ⟨b, kb, cd, N2, vs, f1, f2, f3, f4, f5, f6, f7⟩ := F
  refine Pays.of_back (ws := []) (QL := fun v h' L => v = some (.int (Int32.ofNat cs.length)) ∧ L = [] ∧ h' = h) (fun p e below s args hZ hE hsz => StrChars.Road.lenW hZ (fun d hd => G.1 d (wLen d hd)) (kI := 4) (wd G 12 rfl) f1 f2 f3 f4 f5 f6 (hS.ext hE) hz f7 hfr hlo) all0 ?_
  intro v h' L hE q
  obtain ⟨q1, q2, q3⟩ := q
  subst q2 q3
  exact ⟨Fr.nil _, Keep.refl _ _, q1, rfl⟩
theorem wChr : ∀ d ∈ StrChars.Road.wordsChN, d ∈ tables_1 := by decide +kernel
theorem Str.cd0 {cs : List Int32} {cd N2 : Int32} {vs : List Value} (h : StrChars.Road.CodA cs cd N2 vs) (hl : ∀ c ∈ cs, ¬ (255 : Int32) < c) : cd = 0 := by
  rcases h with h | ⟨-, -, -, c, hc, q⟩
  · exact h.1
  · exact absurd q (hl c hc)
theorem pays_chr {l : Launch} {R : Room} {Z : State} {a0 : Array Value} {sf : List Addr} {W : Nat} (G : Env1 Z a0) {x : Addr} {cs : List Int32} (h : Heap) (i : Nat) {j : Int32} (F : Str Z h x cs) (hl : ∀ c ∈ cs, ¬ (255 : Int32) < c) (hi : i < cs.length) (hj : j = Int32.ofNat i) (hfr : 4 ≤ R.frames) (hlo : W + 53 ≤ R.locals) :
    Pays l R Z a0 EL1 sf (⟨"java/lang/String", "charAt", "(I)C"⟩ : MethodName) 3 W #[.ref x, .int j] h 0 0 (fun v h' => v = some (.int (cs.getD i 0)) ∧ h = h') := by
  obtain ⟨z, hS, hz⟩ := G.2.2.1
  obtain ⟨fm, hF, rf⟩ := G.2.2.2.1
  obtain ⟨b, kb, cd, N2, vs, f1, f2, f3, f4, f5, f6, f7⟩ := F
  obtain rfl : cd = 0 := Str.cd0 f5 hl
  refine Pays.of_back (ws := []) (QL := fun v h' L => v = some (.int (cs.getD i 0)) ∧ L = [] ∧ h' = h) (fun p e below s args hZ hE hsz => StrChars.Road.chN hZ (fun d hd => G.1 d (wChr d hd)) (kI := 4) (wd G 12 rfl) f1 f2 f3 f4 f5 f6 (hS.ext hE) hz (hF.ext hE) rf f7 hi hj hfr hlo) all0 ?_
  intro v h' L hE q
  obtain ⟨q1, q2, q3⟩ := q
  subst q2 q3
  exact ⟨Fr.nil _, Keep.refl _ _, q1, rfl⟩
theorem wEq : ∀ d ∈ StrChars.Road.wordsEq, d ∈ tables_1 := by decide +kernel
theorem pays_eq {l : Launch} {R : Room} {Z : State} {a0 : Array Value} {sf : List Addr} {W : Nat} (G : Env1 Z a0) {x y : Addr} {cs ds : List Int32} (h : Heap) (F : Str Z h x cs) (F' : Str Z h y ds) (hfr : 2 ≤ R.frames) (hlo : W + 28 ≤ R.locals) :
    Pays l R Z a0 EL1 sf (⟨"java/lang/String", "equals", "(Ljava/lang/Object;)Z"⟩ : MethodName) 3 W #[.ref x, .ref y] h 0 0 (fun v h' => v = some (.int (if cs = ds then 1 else 0)) ∧ h = h') := by
  obtain ⟨z, hS, hz⟩ := G.2.2.1
  obtain ⟨b, kb, cd, N2, vs, f1, f2, f3, f4, f5, f6, f7⟩ := F
  obtain ⟨b', kb', cd', N2', vs', f1', f2', f3', f4', f5', f6', f7'⟩ := F'
  refine Pays.of_back (ws := []) (QL := fun v h' L => ((v = some (.int 1) ∧ cs = ds) ∨ (v = some (.int 0) ∧ ¬ cs = ds)) ∧ L = [] ∧ h' = h) (fun p e below s args hZ hE hsz => StrChars.Road.eqW hZ (fun d hd => G.1 d (wEq d hd)) (kI := 4) (wd G 12 rfl) f1 f2 f3 f4 f5 f6 f7 f1' f2' f3' f4' f5' f6' f7' (hS.ext hE) hz hfr hlo) all0 ?_
  intro v h' L hE q
  obtain ⟨q1, q2, q3⟩ := q
  subst q2 q3
  refine ⟨Fr.nil _, Keep.refl _ _, ?_, rfl⟩
  rcases q1 with ⟨q1, e⟩ | ⟨q1, e⟩
  · rw [q1, if_pos e]
  · rw [q1, if_neg e]
theorem pays_eqT {l : Launch} {R : Room} {Z : State} {a0 : Array Value} {sf : List Addr} {W : Nat} (G : Env1 Z a0) {x y : Addr} {cs ds : List Int32} (h : Heap) (F : Str Z h x cs) (F' : Str Z h y ds) (e : cs = ds) (hfr : 2 ≤ R.frames) (hlo : W + 28 ≤ R.locals) :
    Pays l R Z a0 EL1 sf (⟨"java/lang/String", "equals", "(Ljava/lang/Object;)Z"⟩ : MethodName) 3 W #[.ref x, .ref y] h 0 0 (fun v h' => v = some (.int 1) ∧ h = h') :=
  (pays_eq G h F F' hfr hlo).post fun v h' q => ⟨by rw [q.1, if_pos e], q.2⟩
theorem pays_eqF {l : Launch} {R : Room} {Z : State} {a0 : Array Value} {sf : List Addr} {W : Nat} (G : Env1 Z a0) {x y : Addr} {cs ds : List Int32} (h : Heap) (F : Str Z h x cs) (F' : Str Z h y ds) (e : ¬ cs = ds) (hfr : 2 ≤ R.frames) (hlo : W + 28 ≤ R.locals) :
    Pays l R Z a0 EL1 sf (⟨"java/lang/String", "equals", "(Ljava/lang/Object;)Z"⟩ : MethodName) 3 W #[.ref x, .ref y] h 0 0 (fun v h' => v = some (.int 0) ∧ h = h') :=
  (pays_eq G h F F' hfr hlo).post fun v h' q => ⟨by rw [q.1, if_neg e], q.2⟩
theorem wEmp : ∀ d ∈ StrChars.Road.wordsEmp, d ∈ tables_1 := by decide +kernel
theorem pays_emp {l : Launch} {R : Room} {Z : State} {a0 : Array Value} {sf : List Addr} {W : Nat} (G : Env1 Z a0) {x : Addr} {cs : List Int32} (h : Heap) (F : Str Z h x cs) (hfr : 1 ≤ R.frames) (hlo : W + 12 ≤ R.locals) :
    Pays l R Z a0 EL1 sf (⟨"java/lang/String", "isEmpty", "()Z"⟩ : MethodName) 3 W #[.ref x] h 0 0 (fun v h' => v = some (.int (if cs.length = 0 then 1 else 0)) ∧ h = h') := by
  obtain ⟨b, kb, cd, N2, vs, f1, f2, f3, f4, f5, f6, f7⟩ := F
  refine Pays.of_back (ws := []) (QL := fun v h' L => v = some (.int (if cs.length = 0 then 1 else 0)) ∧ L = [] ∧ h' = h) (fun p e below s args hZ hE hsz => StrChars.Road.empW hZ (fun d hd => G.1 d (wEmp d hd)) (kI := 4) (wd G 12 rfl) f1 f2 f3 f4 f5 f6 f7 hfr hlo) all0 ?_
  intro v h' L hE q
  obtain ⟨q1, q2, q3⟩ := q
  subst q2 q3
  exact ⟨Fr.nil _, Keep.refl _ _, q1, rfl⟩
theorem narrow_obj (C : String) (v : Value) : narrow (.object C) v = v := by cases v <;> rfl
theorem fits_obj {C : String} {v : Value} (h : v.isRef = true) : fits (.object C) v = true := by cases v <;> simp_all [Value.isRef, fits]
theorem narrow_bool {r : Int32} (h : r = 0 ∨ r = 1) : narrow .boolean (.int r) = .int r := by rcases h with rfl | rfl <;> rfl
theorem fits_bool {r : Int32} (h : r = 0 ∨ r = 1) : fits .boolean (.int r) = true := by rcases h with rfl | rfl <;> rfl
theorem and3 (x : Int32) : (x &&& 3) = 0 ∨ (x &&& 3) = 1 ∨ (x &&& 3) = 2 ∨ (x &&& 3) = 3 := by
  have h := c_and x 3 (by decide)
  have e : (3 : Int32).toInt = 3 := by decide
  rw [e] at h
  obtain ⟨i, hi, q⟩ := toInt_cases (n := 4) h.1 (by omega) (by decide)
  rw [q]
  match i, hi with
  | 0, _ => decide
  | 1, _ => decide
  | 2, _ => decide
  | 3, _ => decide
theorem and1 (x : Int32) : (x &&& 1) = 0 ∨ (x &&& 1) = 1 := and_one x
theorem mask31 (x : Int32) : 0 ≤ (x &&& 2147483647).toInt := (c_and x 2147483647 (by decide)).1
theorem rem3 (x : Int32) : ((x &&& 2147483647) % 3) = 0 ∨ ((x &&& 2147483647) % 3) = 1 ∨ ((x &&& 2147483647) % 3) = 2 := by
  have h := (c_iremV (x &&& 2147483647) 3).1 (mask31 x) (by decide)
  have e : (3 : Int32).toInt = 3 := by decide
  rw [e] at h
  obtain ⟨i, hi, q⟩ := toInt_cases (n := 3) h.1 (by omega) (by decide)
  rw [q]
  match i, hi with
  | 0, _ => decide
  | 1, _ => decide
  | 2, _ => decide
theorem nar255 {u : Int32} (h : ¬ u < 0 ∧ ¬ (255 : Int32) < u) : nar .char u = u := by
  have q := c_i2c u
  refine Int32.toInt_inj.mp ?_
  rw [Int32.lt_iff_toInt_lt, Int32.lt_iff_toInt_lt] at h
  have e : (255 : Int32).toInt = 255 := by decide
  have e0 : (0 : Int32).toInt = 0 := by decide
  rw [e, e0] at h
  show u.toUInt32.toUInt16.toUInt32.toInt32.toInt = u.toInt
  omega
theorem narb (u : Int32) : nar .byte (u.toInt8.toInt32) = u.toInt8.toInt32 := by
  have h1 := c_i2b (u.toInt8.toInt32)
  have h2 := c_i2b u
  refine Int32.toInt_inj.mp ?_
  show (u.toInt8.toInt32).toInt8.toInt32.toInt = _
  omega
theorem shr0 (c : Int32) : c >>> ((0 : Int32) &&& 31) = c := by
  refine Int32.toInt_inj.mp ?_
  rw [c_ishr c 0 0 (by decide)]; simp
theorem shl0 (c : Int32) : c <<< ((0 : Int32) &&& 31) = c := by
  refine Int32.toInt_inj.mp ?_
  have h := c_ishl c 0 0 (by decide)
  have r := Int32.toInt_lt c
  have r' := Int32.le_toInt c
  have q := Int32.toInt_lt (c <<< ((0 : Int32) &&& 31))
  have q' := Int32.le_toInt (c <<< ((0 : Int32) &&& 31))
  omega
theorem n32sub {i j : Nat} (h : j ≤ i) : Int32.ofNat i - Int32.ofNat j = Int32.ofNat (i - j) := by
  obtain ⟨d, rfl⟩ : ∃ d, i = d + j := ⟨i - j, by omega⟩
  rw [← n32add, Int32.add_sub_cancel, Nat.add_sub_cancel]
theorem n32subnp {i j : Nat} (h : i ≤ j) (hj : j ≤ 100000) : ¬ (0 : Int32) < Int32.ofNat i - Int32.ofNat j := by
  rw [Int32.lt_iff_toInt_lt]
  have q := c_isub (Int32.ofNat i) (Int32.ofNat j)
  rw [n32i (by omega), n32i (by omega)] at q
  have e0 : (0 : Int32).toInt = 0 := by decide
  have r := Int32.toInt_lt (Int32.ofNat i - Int32.ofNat j)
  have r' := Int32.le_toInt (Int32.ofNat i - Int32.ofNat j)
  rw [e0]; omega
theorem range_takeV (vs : List Value) (e : Nat) (dv : Value) (he : e ≤ vs.length) (h' : e ≤ 100000) : vs.take e = (List.range (Int32.ofNat e).toNatClampNeg).map fun i => vs.getD ((0 : Int32).toNatClampNeg + i) dv := by
  rw [n32c h']
  refine List.ext_getElem? fun i => ?_
  by_cases hi : i < e
  · have : i < vs.length := by omega
    simp [hi, this, List.getElem?_take]
  · simp [hi, List.getElem?_take]
theorem app_take {vs : List Value} {cs ds : List Int32} {n cap : Nat} (hv : vs.length = cap) (hn : n + ds.length ≤ cap) (h : vs.take n = cs.map (fun c => Value.int c.toInt8.toInt32)) : (vs.take n ++ ds.map (fun c => Value.int c.toInt8.toInt32) ++ vs.drop (n + ds.length)).length = cap ∧ (vs.take n ++ ds.map (fun c => Value.int c.toInt8.toInt32) ++ vs.drop (n + ds.length)).take (n + ds.length) = (cs ++ ds).map (fun c => Value.int c.toInt8.toInt32) := by
  have l1 : (vs.take n).length = n := by rw [List.length_take]; omega
  constructor
  · simp; omega
  · rw [List.take_append_of_le_length (by simp; omega), List.take_of_length_le (by simp; omega), h, List.map_append]
theorem app_zero {vs : List Value} {cs : List Int32} {n : Nat} (hv : vs.length = 16) (hn : n ≤ 16) (h : vs.take n = cs.map (fun c => Value.int c.toInt8.toInt32)) : (vs ++ List.replicate 18 (Value.int 0)).length = 34 ∧ (vs ++ List.replicate 18 (Value.int 0)).take n = cs.map (fun c => Value.int c.toInt8.toInt32) := by
  constructor
  · simp [hv]
  · rw [List.take_append_of_le_length (by omega), h]
theorem remN {u : Int32} (h : 0 ≤ u.toInt) (m : Nat) (hm : 0 < m) (hm' : m ≤ 1000) : ∃ k : Nat, k < m ∧ u % Int32.ofNat m = Int32.ofNat k := by
  have h2 := c_iremV u (Int32.ofNat m)
  have e := n32i (i := m) (by omega)
  have h3 := h2.1 h (by rw [e]; omega)
  exact toInt_cases h3.1 (by rw [e] at h3; exact h3.2.1) hm'
theorem ush_nn (x : Int32) : 0 ≤ ((x.toUInt32 >>> ((16 : Int32) &&& 31).toUInt32).toInt32).toInt := by
  have h1 := c_iushr x 16 16 (by decide) (by decide)
  rw [h1]; exact Int.ediv_nonneg (by omega) (by exact_mod_cast Nat.zero_le _)
theorem and_nn (x : Int32) : 0 ≤ (x &&& (65535 : Int32)).toInt := (c_and x 65535 (by decide)).1
theorem i2cN {k : Nat} (h : k ≤ 60000) : (Int32.ofNat k).toUInt32.toUInt16.toUInt32.toInt32 = Int32.ofNat k := by
  have q := c_i2c (Int32.ofNat k)
  refine Int32.toInt_inj.mp ?_
  rw [n32i (by omega)] at q ⊢
  omega
theorem okT_n {k : Nat} (h : k = 45 ∨ (48 ≤ k ∧ k < 58) ∨ (97 ≤ k ∧ k < 123)) : okT (Int32.ofNat k) := by
  unfold okT; rw [n32c (by omega)]; exact h
theorem okI_n {k : Nat} (h : k = 45 ∨ k = 46 ∨ (48 ≤ k ∧ k < 59) ∨ (65 ≤ k ∧ k < 91) ∨ k = 95 ∨ (97 ≤ k ∧ k < 123)) : okI (Int32.ofNat k) := by
  unfold okI; rw [n32c (by omega)]; exact h
theorem litw {Z : State} {a0 : Array Value} (G : Env1 Z a0) (z : Int32) (hz : ∀ m ∈ [(1 : Nat), (2 : Nat), (9 : Nat), (1 : Nat), (8 : Nat), (1 : Nat)], ¬ m = z.toNatClampNeg) : ∀ p ∈ EL1, ∃ text : String, (Jvm.Cond.stringLink p.1 p.2 text).before a0 Z = true ∧ (∀ c ∈ text.toList, c.toNat < 256) ∧ ¬ text.toList.length = z.toNatClampNeg := by
  intro p hp
  simp only [EL1, List.mem_cons, List.not_mem_nil, or_false] at hp
  rcases hp with rfl | rfl | rfl | rfl | rfl | rfl
  · exact ⟨".", wd G 120 rfl, by decide, fun q => hz 1 (by decide) q⟩
  · exact ⟨"..", wd G 131 rfl, by decide, fun q => hz 2 (by decide) q⟩
  · exact ⟨"Resource[", wd G 168 rfl, by decide, fun q => hz 9 (by decide) q⟩
  · exact ⟨"/", wd G 207 rfl, by decide, fun q => hz 1 (by decide) q⟩
  · exact ⟨", owner ", wd G 208 rfl, by decide, fun q => hz 8 (by decide) q⟩
  · exact ⟨"]", wd G 232 rfl, by decide, fun q => hz 1 (by decide) q⟩
theorem d16_53 : decode prog_15_method_5_code 53 = .ok (.iload_n 2, 1) := by decide +kernel
theorem d16_54 : decode prog_15_method_5_code 54 = .ok (.aload_n 1, 1) := by decide +kernel
theorem d16_55 : decode prog_15_method_5_code 55 = .ok (.invokevirtual 86, 3) := by decide +kernel
theorem pd_0 : parseMethodDescriptor "()I" = some ⟨[], some .int⟩ := by decide +kernel
theorem d16_58 : decode prog_15_method_5_code 58 = .ok (.if_icmp .ge 74, 3) := by decide +kernel
theorem d16_132 : decode prog_15_method_5_code 132 = .ok (.iconst 1, 1) := by decide +kernel
theorem d16_133 : decode prog_15_method_5_code 133 = .ok (.ireturn, 1) := by decide +kernel
theorem d16_61 : decode prog_15_method_5_code 61 = .ok (.aload_n 1, 1) := by decide +kernel
theorem d16_62 : decode prog_15_method_5_code 62 = .ok (.iload_n 2, 1) := by decide +kernel
theorem d16_63 : decode prog_15_method_5_code 63 = .ok (.invokevirtual 98, 3) := by decide +kernel
theorem pd_1 : parseMethodDescriptor "(I)C" = some ⟨[.int], some .char⟩ := by decide +kernel
theorem d16_66 : decode prog_15_method_5_code 66 = .ok (.istore_n 3, 1) := by decide +kernel
theorem d16_67 : decode prog_15_method_5_code 67 = .ok (.iload_n 3, 1) := by decide +kernel
theorem d16_68 : decode prog_15_method_5_code 68 = .ok (.bipush 37, 2) := by decide +kernel
theorem d16_70 : decode prog_15_method_5_code 70 = .ok (.if_icmp .ne 36, 3) := by decide +kernel
theorem d16_106 : decode prog_15_method_5_code 106 = .ok (.iload_n 3, 1) := by decide +kernel
theorem d16_107 : decode prog_15_method_5_code 107 = .ok (.aload_n 0, 1) := by decide +kernel
theorem d16_108 : decode prog_15_method_5_code 108 = .ok (.getfield 12, 3) := by decide +kernel
theorem d16_111 : decode prog_15_method_5_code 111 = .ok (.arraylength, 1) := by decide +kernel
theorem d16_112 : decode prog_15_method_5_code 112 = .ok (.if_icmp .ge 12, 3) := by decide +kernel
theorem d16_115 : decode prog_15_method_5_code 115 = .ok (.aload_n 0, 1) := by decide +kernel
theorem d16_116 : decode prog_15_method_5_code 116 = .ok (.getfield 12, 3) := by decide +kernel
theorem d16_119 : decode prog_15_method_5_code 119 = .ok (.iload_n 3, 1) := by decide +kernel
theorem d16_120 : decode prog_15_method_5_code 120 = .ok (.baload, 1) := by decide +kernel
theorem d16_121 : decode prog_15_method_5_code 121 = .ok (.ifCond .ne 5, 3) := by decide +kernel
theorem d16_126 : decode prog_15_method_5_code 126 = .ok (.iinc 2 1, 3) := by decide +kernel
theorem d16_129 : decode prog_15_method_5_code 129 = .ok (.goto (-76), 3) := by decide +kernel
set_option maxRecDepth 65536 in
set_option maxHeartbeats 4000000 in
theorem lp_acc {l : Launch} {Z : State} {a0 : Array Value} (G : Env1 Z a0) (nr a al : Addr) (kc : ClassId) (vs : List Value) (cs : List Int32) (h0 h : Heap) (E0 : Ext h0 h) (F : Str Z h a cs) (Fa : Fld Z h nr "com/example/kredential/kredential/NameRule" "allowed" "[Z" (.ref al)) (K : Arv Z h al kc .boolean 128 vs (.int 0)) (hk : ∀ c ∈ cs, okI c ∧ vs.getD c.toNatClampNeg (.int 0) = .int 1) (hl : cs.length ≤ 2) (d : Nat) : ∀ (i : Nat) (sl : Slot), (sl = .unset ∨ ∃ v : Int32, sl = .val (.int v)) → i + d = cs.length →
    Seg l Z a0 EL1 (⟨"com/example/kredential/kredential/NameRule", "accepts", "(Ljava/lang/String;)Z"⟩ : MethodName) prog_15_method_5_code 4 (some .boolean) ({ frames := 4, cells := 4, slots := 20, locals := 60 } : Room) (fun v h => v = some (.int 1) ∧ Ext h0 h) h 4 20 [] 53 #[.val (.ref nr), .val (.ref a), .val (.int (Int32.ofNat i)), sl] [] := by
  induction d with
  | zero =>
    intro i sl hsl hd
    have f1 := F.exa
    refine Seg.iloadN d16_53 rfl (pc' := 54) rfl ?_
    refine Seg.aloadN d16_54 rfl rfl (pc' := 55) rfl ?_
    refine Seg.callV (y' := (⟨"java/lang/String", "length", "()I"⟩ : MethodName)) (z := (⟨"java/lang/String", "length", "()I"⟩ : MethodName)) (a := a) (wd G 78 rfl) (wd G 79 rfl) (nf_sel (wd G 81 rfl)) (wd G 81 rfl) (wd G 80 rfl) ⟨by decide, by decide⟩ f1 (pays_len (W := 1) G h F (by decide) (by decide)) (argsL := []) (rest := [(.int (Int32.ofNat i))]) rfl (lenOf pd_0 rfl) rfl (Nat.le_of_eq rfl) rfl d16_55 (pc' := 58) rfl (k' := 4) (n' := 20) rfl rfl (by decide) (by decide) ?_
    intro v_1 h_4 sz_2 q_3
    obtain ⟨rfl, rfl⟩ := q_3
    refine Seg.icY (pc' := 132) d16_58 (XT.ii_ge_t (n32nlt (by omega) (by omega))) (by decide) (by decide) ?_
    refine Seg.iconst (v := 1) d16_132 (by decide) (pc' := 133) rfl ?_
    exact Seg.retN (t := .boolean) (w := (1 : Int32)) rfl (by decide) (by decide) d16_133 (by decide) (by decide) ⟨rfl, E0⟩
  | succ d ih =>
    intro i sl hsl hd
    have hi : i < cs.length := by omega
    have f1 := F.exa
    refine Seg.iloadN d16_53 rfl (pc' := 54) rfl ?_
    refine Seg.aloadN d16_54 rfl rfl (pc' := 55) rfl ?_
    refine Seg.callV (y' := (⟨"java/lang/String", "length", "()I"⟩ : MethodName)) (z := (⟨"java/lang/String", "length", "()I"⟩ : MethodName)) (a := a) (wd G 78 rfl) (wd G 79 rfl) (nf_sel (wd G 81 rfl)) (wd G 81 rfl) (wd G 80 rfl) ⟨by decide, by decide⟩ f1 (pays_len (W := 1) G h F (by decide) (by decide)) (argsL := []) (rest := [(.int (Int32.ofNat i))]) rfl (lenOf pd_0 rfl) rfl (Nat.le_of_eq rfl) rfl d16_55 (pc' := 58) rfl (k' := 4) (n' := 20) rfl rfl (by decide) (by decide) ?_
    intro v_1 h_4 sz_2 q_3
    obtain ⟨rfl, rfl⟩ := q_3
    refine Seg.icN d16_58 (XT.ii_ge_f (n32lt hi (by omega))) (pc' := 61) rfl ?_
    refine Seg.aloadN d16_61 rfl rfl (pc' := 62) rfl ?_
    refine Seg.iloadN d16_62 rfl (pc' := 63) rfl ?_
    refine Seg.callV (y' := (⟨"java/lang/String", "charAt", "(I)C"⟩ : MethodName)) (z := (⟨"java/lang/String", "charAt", "(I)C"⟩ : MethodName)) (a := a) (wd G 92 rfl) (wd G 93 rfl) (nf_sel (wd G 95 rfl)) (wd G 95 rfl) (wd G 94 rfl) ⟨by decide, by decide⟩ f1 (pays_chr (W := 0) G h i F (fun c q => (okI_r (hk c q).1).1.2) hi rfl (by decide) (by decide)) (argsL := [(.int (Int32.ofNat i))]) (rest := []) rfl (lenOf pd_1 rfl) rfl (Nat.le_of_eq rfl) rfl d16_63 (pc' := 66) rfl (k' := 4) (n' := 20) rfl rfl (by decide) (by decide) ?_
    intro v_5 h_8 sz_6 q_7
    obtain ⟨rfl, rfl⟩ := q_7
    refine Seg.istoreN (L' := #[.val (.ref nr), .val (.ref a), .val (.int (Int32.ofNat i)), .val (.int (cs.getD i 0))]) d16_66 (by rcases hsl with rfl | ⟨_, rfl⟩ <;> rfl) (pc' := 67) rfl ?_
    refine Seg.iloadN d16_67 rfl (pc' := 68) rfl ?_
    refine Seg.bipush (v := 37) d16_68 (by decide) (pc' := 70) rfl ?_
    have hq := mem_getD hk hi
    have hr := okI_r hq.1
    refine Seg.icY (pc' := 106) d16_70 (XT.ii_ne_t hr.2.2) (by decide) (by decide) ?_
    refine Seg.iloadN d16_106 rfl (pc' := 107) rfl ?_
    refine Seg.aloadN d16_107 rfl rfl (pc' := 108) rfl ?_
    refine Seg.getF (host := "") (Or.inl (wd G 113 rfl)) Via.refl Fa d16_108 (pc' := 111) rfl ?_
    refine Seg.alen K d16_111 (pc' := 112) rfl ?_
    refine Seg.icN d16_112 (XT.ii_ge_f hr.2.1) (pc' := 115) rfl ?_
    refine Seg.aloadN d16_115 rfl rfl (pc' := 116) rfl ?_
    refine Seg.getF (host := "") (Or.inl (wd G 113 rfl)) Via.refl Fa d16_116 (pc' := 119) rfl ?_
    refine Seg.iloadN d16_119 rfl (pc' := 120) rfl ?_
    refine Seg.baloadZ (v := (.int (1 : Int32))) K ⟨hr.1.1, hr.2.1⟩ hq.2 d16_120 (pc' := 121) rfl ?_
    refine Seg.ifY (pc' := 126) d16_121 (by decide) (by decide) (by decide) ?_
    refine Seg.iinc (v := 1) (z := (Int32.ofNat (i + 1))) (L' := #[.val (.ref nr), .val (.ref a), .val (.int (Int32.ofNat (i + 1))), .val (.int (cs.getD i 0))]) d16_126 (by decide) rfl (n32s i) rfl (pc' := 129) rfl ?_
    refine Seg.goto (pc' := 53) d16_129 (by decide) (by decide) ?_
    exact ih (i + 1) _ (Or.inr ⟨_, rfl⟩) (by omega)
theorem d16_0 : decode prog_15_method_5_code 0 = .ok (.aload_n 1, 1) := by decide +kernel
theorem d16_1 : decode prog_15_method_5_code 1 = .ok (.ifnull 21, 3) := by decide +kernel
theorem d16_4 : decode prog_15_method_5_code 4 = .ok (.aload_n 1, 1) := by decide +kernel
theorem d16_5 : decode prog_15_method_5_code 5 = .ok (.invokevirtual 83, 3) := by decide +kernel
theorem pd_2 : parseMethodDescriptor "()Z" = some ⟨[], some .boolean⟩ := by decide +kernel
theorem d16_8 : decode prog_15_method_5_code 8 = .ok (.ifCond .ne 14, 3) := by decide +kernel
theorem d16_11 : decode prog_15_method_5_code 11 = .ok (.aload_n 1, 1) := by decide +kernel
theorem d16_12 : decode prog_15_method_5_code 12 = .ok (.invokevirtual 86, 3) := by decide +kernel
theorem d16_15 : decode prog_15_method_5_code 15 = .ok (.aload_n 0, 1) := by decide +kernel
theorem d16_16 : decode prog_15_method_5_code 16 = .ok (.getfield 53, 3) := by decide +kernel
theorem d16_19 : decode prog_15_method_5_code 19 = .ok (.if_icmp .le 5, 3) := by decide +kernel
theorem d16_24 : decode prog_15_method_5_code 24 = .ok (.aload_n 0, 1) := by decide +kernel
theorem d16_25 : decode prog_15_method_5_code 25 = .ok (.getfield 57, 3) := by decide +kernel
theorem d16_28 : decode prog_15_method_5_code 28 = .ok (.ifCond .eq 23, 3) := by decide +kernel
theorem d16_51 : decode prog_15_method_5_code 51 = .ok (.iconst 0, 1) := by decide +kernel
theorem d16_52 : decode prog_15_method_5_code 52 = .ok (.istore_n 2, 1) := by decide +kernel
theorem pn_com_example_kredential_kredential_NameRule : plainName "com/example/kredential/kredential/NameRule" = true := by first | (simp [plainName, overriddenIn]; done) | decide +kernel
theorem ef_ct_acc0 (nr : Addr) (a : Addr) (cs : List Int32) (m : MethodId) : entryFrame m #[(.ref nr), (.ref a)] 4 = mkF m 0 #[.val (.ref nr), .val (.ref a), .unset, .unset] [] := by first | (simp [entryFrame, mkF, argsToLocals, Value.category]; done) | rfl
set_option maxRecDepth 65536 in
set_option maxHeartbeats 4000000 in
theorem ct_acc0 {l : Launch} {Z : State} {a0 : Array Value} (G : Env1 Z a0) (nr : Addr) (a : Addr) (cs : List Int32) (h0 : Heap) (R : Rule Z h0 nr 64 0 okT) (F : Str Z h0 a cs) (hn : Nm okT cs) :
    Ct l Z EL1 [] [] (⟨"com/example/kredential/kredential/NameRule", "accepts", "(Ljava/lang/String;)Z"⟩ : MethodName) prog_15_method_5_code 4 (some .boolean) ({ frames := 4, cells := 4, slots := 20, locals := 60 } : Room) #[(.ref nr), (.ref a)] h0 (fun v h => v = some (.int 1) ∧ Ext h0 h) := by
  refine Ct.of_seg (a0 := a0) (plainFor_of_name pn_com_example_kredential_kredential_NameRule) G.2.1 (ef_ct_acc0 nr a cs) ?_
  obtain ⟨al, kc, vs, g1, g2, g3, g4, g5, g6⟩ := R
  have f1 := F.exa
  have hl := hn.2.2
  have hl0 := hn.2.1
  refine Seg.aloadN d16_0 rfl rfl (pc' := 1) rfl ?_
  refine Seg.nullN d16_1 (pc' := 4) rfl ?_
  refine Seg.aloadN d16_4 rfl rfl (pc' := 5) rfl ?_
  refine Seg.callV (y' := (⟨"java/lang/String", "isEmpty", "()Z"⟩ : MethodName)) (z := (⟨"java/lang/String", "isEmpty", "()Z"⟩ : MethodName)) (a := a) (wd G 73 rfl) (wd G 74 rfl) (nf_sel (wd G 76 rfl)) (wd G 76 rfl) (wd G 75 rfl) ⟨by decide, by decide⟩ f1 ((pays_emp (W := 0) G h0 F (by decide) (by decide)).post (Q' := fun v h' => v = some (.int 0) ∧ h0 = h') fun v h' q => ⟨by rw [q.1, if_neg (by omega)], q.2⟩) (argsL := []) (rest := []) rfl (lenOf pd_2 rfl) rfl (Nat.le_of_eq rfl) rfl d16_5 (pc' := 8) rfl (k' := 0) (n' := 0) rfl rfl (by decide) (by decide) ?_
  intro v_1 h_4 sz_2 q_3
  obtain ⟨rfl, rfl⟩ := q_3
  refine Seg.ifN d16_8 (by decide) (pc' := 11) rfl ?_
  refine Seg.aloadN d16_11 rfl rfl (pc' := 12) rfl ?_
  refine Seg.callV (y' := (⟨"java/lang/String", "length", "()I"⟩ : MethodName)) (z := (⟨"java/lang/String", "length", "()I"⟩ : MethodName)) (a := a) (wd G 78 rfl) (wd G 79 rfl) (nf_sel (wd G 81 rfl)) (wd G 81 rfl) (wd G 80 rfl) ⟨by decide, by decide⟩ f1 (pays_len (W := 0) G h0 F (by decide) (by decide)) (argsL := []) (rest := []) rfl (lenOf pd_0 rfl) rfl (Nat.le_of_eq rfl) rfl d16_12 (pc' := 15) rfl (k' := 0) (n' := 0) rfl rfl (by decide) (by decide) ?_
  intro v_5 h_8 sz_6 q_7
  obtain ⟨rfl, rfl⟩ := q_7
  refine Seg.aloadN d16_15 rfl rfl (pc' := 16) rfl ?_
  refine Seg.getF (host := "") (Or.inl (wd G 88 rfl)) Via.refl g2 d16_16 (pc' := 19) rfl ?_
  refine Seg.icY (pc' := 24) d16_19 (XT.ii_le_t (n32nlt (i := 64) (by omega) (by decide))) (by decide) (by decide) ?_
  refine Seg.aloadN d16_24 rfl rfl (pc' := 25) rfl ?_
  refine Seg.getF (host := "") (Or.inl (wd G 90 rfl)) Via.refl g3 d16_25 (pc' := 28) rfl ?_
  refine Seg.ifY (pc' := 51) d16_28 (by decide) (by decide) (by decide) ?_
  refine Seg.iconst (v := 0) d16_51 (by decide) (pc' := 52) rfl ?_
  refine Seg.istoreN (L' := #[.val (.ref nr), .val (.ref a), .val (.int (0 : Int32)), .unset]) d16_52 rfl (pc' := 53) rfl ?_
  exact (lp_acc G nr a al kc vs cs h0 h0 (ext_rfl _) F g4 g5 (fun c q => ⟨okT_I (hn.1 c q), g6 c (hn.1 c q)⟩) hl cs.length 0 _ (Or.inl rfl) (by omega)).mono (by decide) (by decide) all0
theorem d16_31 : decode prog_15_method_5_code 31 = .ok (.aload_n 1, 1) := by decide +kernel
theorem d16_32 : decode prog_15_method_5_code 32 = .ok (.ldc 90, 2) := by decide +kernel
theorem d16_34 : decode prog_15_method_5_code 34 = .ok (.invokevirtual 92, 3) := by decide +kernel
theorem pd_3 : parseMethodDescriptor "(Ljava/lang/Object;)Z" = some ⟨[(.object "java/lang/Object")], some .boolean⟩ := by decide +kernel
theorem d16_37 : decode prog_15_method_5_code 37 = .ok (.ifCond .ne 12, 3) := by decide +kernel
theorem d16_40 : decode prog_15_method_5_code 40 = .ok (.aload_n 1, 1) := by decide +kernel
theorem d16_41 : decode prog_15_method_5_code 41 = .ok (.ldc 96, 2) := by decide +kernel
theorem d16_43 : decode prog_15_method_5_code 43 = .ok (.invokevirtual 92, 3) := by decide +kernel
theorem d16_46 : decode prog_15_method_5_code 46 = .ok (.ifCond .eq 5, 3) := by decide +kernel
theorem ef_ct_acc1 (nr : Addr) (a : Addr) (cs : List Int32) (m : MethodId) : entryFrame m #[(.ref nr), (.ref a)] 4 = mkF m 0 #[.val (.ref nr), .val (.ref a), .unset, .unset] [] := by first | (simp [entryFrame, mkF, argsToLocals, Value.category]; done) | rfl
set_option maxRecDepth 65536 in
set_option maxHeartbeats 4000000 in
theorem ct_acc1 {l : Launch} {Z : State} {a0 : Array Value} (G : Env1 Z a0) (nr : Addr) (a : Addr) (cs : List Int32) (h0 : Heap) (R : Rule Z h0 nr 128 1 okI) (F : Str Z h0 a cs) (hn : NmI cs) :
    Ct l Z EL1 [] [] (⟨"com/example/kredential/kredential/NameRule", "accepts", "(Ljava/lang/String;)Z"⟩ : MethodName) prog_15_method_5_code 4 (some .boolean) ({ frames := 4, cells := 4, slots := 20, locals := 60 } : Room) #[(.ref nr), (.ref a)] h0 (fun v h => v = some (.int 1) ∧ Ext h0 h) := by
  refine Ct.of_seg (a0 := a0) (plainFor_of_name pn_com_example_kredential_kredential_NameRule) G.2.1 (ef_ct_acc1 nr a cs) ?_
  obtain ⟨al, kc, vs, g1, g2, g3, g4, g5, g6⟩ := R
  have f1 := F.exa
  have hl := hn.1.2.2
  have hl0 := hn.1.2.1
  refine Seg.aloadN d16_0 rfl rfl (pc' := 1) rfl ?_
  refine Seg.nullN d16_1 (pc' := 4) rfl ?_
  refine Seg.aloadN d16_4 rfl rfl (pc' := 5) rfl ?_
  refine Seg.callV (y' := (⟨"java/lang/String", "isEmpty", "()Z"⟩ : MethodName)) (z := (⟨"java/lang/String", "isEmpty", "()Z"⟩ : MethodName)) (a := a) (wd G 73 rfl) (wd G 74 rfl) (nf_sel (wd G 76 rfl)) (wd G 76 rfl) (wd G 75 rfl) ⟨by decide, by decide⟩ f1 ((pays_emp (W := 0) G h0 F (by decide) (by decide)).post (Q' := fun v h' => v = some (.int 0) ∧ h0 = h') fun v h' q => ⟨by rw [q.1, if_neg (by omega)], q.2⟩) (argsL := []) (rest := []) rfl (lenOf pd_2 rfl) rfl (Nat.le_of_eq rfl) rfl d16_5 (pc' := 8) rfl (k' := 0) (n' := 0) rfl rfl (by decide) (by decide) ?_
  intro v_1 h_4 sz_2 q_3
  obtain ⟨rfl, rfl⟩ := q_3
  refine Seg.ifN d16_8 (by decide) (pc' := 11) rfl ?_
  refine Seg.aloadN d16_11 rfl rfl (pc' := 12) rfl ?_
  refine Seg.callV (y' := (⟨"java/lang/String", "length", "()I"⟩ : MethodName)) (z := (⟨"java/lang/String", "length", "()I"⟩ : MethodName)) (a := a) (wd G 78 rfl) (wd G 79 rfl) (nf_sel (wd G 81 rfl)) (wd G 81 rfl) (wd G 80 rfl) ⟨by decide, by decide⟩ f1 (pays_len (W := 0) G h0 F (by decide) (by decide)) (argsL := []) (rest := []) rfl (lenOf pd_0 rfl) rfl (Nat.le_of_eq rfl) rfl d16_12 (pc' := 15) rfl (k' := 0) (n' := 0) rfl rfl (by decide) (by decide) ?_
  intro v_5 h_8 sz_6 q_7
  obtain ⟨rfl, rfl⟩ := q_7
  refine Seg.aloadN d16_15 rfl rfl (pc' := 16) rfl ?_
  refine Seg.getF (host := "") (Or.inl (wd G 88 rfl)) Via.refl g2 d16_16 (pc' := 19) rfl ?_
  refine Seg.icY (pc' := 24) d16_19 (XT.ii_le_t (n32nlt (i := 128) (by omega) (by decide))) (by decide) (by decide) ?_
  refine Seg.aloadN d16_24 rfl rfl (pc' := 25) rfl ?_
  refine Seg.getF (host := "") (Or.inl (wd G 90 rfl)) Via.refl g3 d16_25 (pc' := 28) rfl ?_
  refine Seg.ifN d16_28 (by decide) (pc' := 31) rfl ?_
  refine Seg.aloadN d16_31 rfl rfl (pc' := 32) rfl ?_
  refine Seg.ldcS (text := ".") (vs := [(.int 46)]) (z := 1) (nn := 4) (wd G 120 rfl) (wS G) (by decide) (by decide +kernel) (by decide) (by decide) d16_32 (pc' := 34) rfl (by decide) (by decide) (k' := 2) (n' := 8) rfl rfl (by decide) (by decide) ?_
  intro a_9 h_18 b_10 kb_11 E_12 A_13 F_14 F_15 A_16 ne_17
  have F_l4 : Str Z h_18 a_9 [46] := ⟨b_10, kb_11, 0, 1, _, A_13, F_15, F_14, A_16, (Or.inl ⟨rfl, rfl, rfl, by decide⟩), le16 (by decide), (by decide)⟩
  have F_19 := F.ext E_12
  have F_20 := f1.ext E_12
  refine Seg.callV (y' := (⟨"java/lang/String", "equals", "(Ljava/lang/Object;)Z"⟩ : MethodName)) (z := (⟨"java/lang/String", "equals", "(Ljava/lang/Object;)Z"⟩ : MethodName)) (a := a) (wd G 123 rfl) (wd G 124 rfl) (nf_sel (wd G 126 rfl)) (wd G 126 rfl) (wd G 125 rfl) ⟨by decide, by decide⟩ F_20 (pays_eqF (W := 0) G h_18 F_19 F_l4 hn.2.1 (by decide) (by decide)) (argsL := [(.ref a_9)]) (rest := []) rfl (lenOf pd_3 rfl) rfl (Nat.le_of_eq rfl) rfl d16_34 (pc' := 37) rfl (k' := 2) (n' := 8) rfl rfl (by decide) (by decide) ?_
  intro v_21 h_24 sz_22 q_23
  obtain ⟨rfl, rfl⟩ := q_23
  refine Seg.ifN d16_37 (by decide) (pc' := 40) rfl ?_
  refine Seg.aloadN d16_40 rfl rfl (pc' := 41) rfl ?_
  refine Seg.ldcS (text := "..") (vs := [(.int 46), (.int 46)]) (z := 2) (nn := 8) (wd G 131 rfl) (wS G) (by decide) (by decide +kernel) (by decide) (by decide) d16_41 (pc' := 43) rfl (by decide) (by decide) (k' := 4) (n' := 20) rfl rfl (by decide) (by decide) ?_
  intro a_25 h_34 b_26 kb_27 E_28 A_29 F_30 F_31 A_32 ne_33
  have F_l8 : Str Z h_34 a_25 [46, 46] := ⟨b_26, kb_27, 0, 2, _, A_29, F_31, F_30, A_32, (Or.inl ⟨rfl, rfl, rfl, by decide⟩), le16 (by decide), (by decide)⟩
  have F_35 := F_19.ext E_28
  have F_36 := F_20.ext E_28
  refine Seg.callV (y' := (⟨"java/lang/String", "equals", "(Ljava/lang/Object;)Z"⟩ : MethodName)) (z := (⟨"java/lang/String", "equals", "(Ljava/lang/Object;)Z"⟩ : MethodName)) (a := a) (wd G 123 rfl) (wd G 124 rfl) (nf_sel (wd G 126 rfl)) (wd G 126 rfl) (wd G 125 rfl) ⟨by decide, by decide⟩ F_36 (pays_eqF (W := 0) G h_34 F_35 F_l8 hn.2.2 (by decide) (by decide)) (argsL := [(.ref a_25)]) (rest := []) rfl (lenOf pd_3 rfl) rfl (Nat.le_of_eq rfl) rfl d16_43 (pc' := 46) rfl (k' := 4) (n' := 20) rfl rfl (by decide) (by decide) ?_
  intro v_37 h_40 sz_38 q_39
  obtain ⟨rfl, rfl⟩ := q_39
  refine Seg.ifY (pc' := 51) d16_46 (by decide) (by decide) (by decide) ?_
  refine Seg.iconst (v := 0) d16_51 (by decide) (pc' := 52) rfl ?_
  refine Seg.istoreN (L' := #[.val (.ref nr), .val (.ref a), .val (.int (0 : Int32)), .unset]) d16_52 rfl (pc' := 53) rfl ?_
  have E_41 : Ext h0 h_34 := ext_tr E_12 E_28
  have F_42 := g4.ext E_41
  have F_43 := g5.ext E_41
  exact (lp_acc G nr a al kc vs cs h0 h_34 E_41 F_35 F_42 F_43 (fun c q => ⟨hn.1.1 c q, g6 c (hn.1.1 c q)⟩) hl cs.length 0 _ (Or.inl rfl) (by omega)).mono (by decide) (by decide) all0
theorem d15_0 : decode prog_25_method_2_code 0 = .ok (.getstatic 41, 3) := by decide +kernel
theorem d15_3 : decode prog_25_method_2_code 3 = .ok (.aload_n 0, 1) := by decide +kernel
theorem d15_4 : decode prog_25_method_2_code 4 = .ok (.invokevirtual 45, 3) := by decide +kernel
theorem pd_4 : parseMethodDescriptor "(Ljava/lang/String;)Z" = some ⟨[(.object "java/lang/String")], some .boolean⟩ := by decide +kernel
theorem d15_7 : decode prog_25_method_2_code 7 = .ok (.ireturn, 1) := by decide +kernel
theorem pn_com_example_kredential_kredential_Resource : plainName "com/example/kredential/kredential/Resource" = true := by first | (simp [plainName, overriddenIn]; done) | decide +kernel
theorem ef_ct_vt (nr : Addr) (a : Addr) (cs : List Int32) (m : MethodId) : entryFrame m #[(.ref a)] 1 = mkF m 0 #[.val (.ref a)] [] := by first | (simp [entryFrame, mkF, argsToLocals, Value.category]; done) | rfl
set_option maxRecDepth 65536 in
set_option maxHeartbeats 4000000 in
theorem ct_vt {l : Launch} {Z : State} {a0 : Array Value} (G : Env1 Z a0) (nr : Addr) (a : Addr) (cs : List Int32) (h0 : Heap) (S : Sta Z Z.heap "com/example/kredential/kredential/Resource" "TYPE" "Lcom/example/kredential/kredential/NameRule;" (.ref nr)) (R : Rule Z Z.heap nr 64 0 okT) (F : Str Z h0 a cs) (hn : Nm okT cs) :
    Ct l Z EL1 [] [] (⟨"com/example/kredential/kredential/Resource", "isValidType", "(Ljava/lang/String;)Z"⟩ : MethodName) prog_25_method_2_code 1 (some .boolean) ({ frames := 5, cells := 4, slots := 20, locals := 75 } : Room) #[(.ref a)] h0 (fun v h => v = some (.int 1) ∧ Ext h0 h) := by
  refine Ct.of_seg (a0 := a0) (plainFor_of_name pn_com_example_kredential_kredential_Resource) G.2.1 (ef_ct_vt nr a cs) ?_
  refine Seg.start fun hZ0 => ?_
  have R1 := R.ext hZ0
  have Rx := R1.exa
  refine Seg.getS (wd G 65 rfl) Via.refl S d15_0 (pc' := 3) rfl ?_
  refine Seg.aloadN d15_3 rfl rfl (pc' := 4) rfl ?_
  refine Seg.callV (y' := (⟨"com/example/kredential/kredential/NameRule", "accepts", "(Ljava/lang/String;)Z"⟩ : MethodName)) (z := (⟨"com/example/kredential/kredential/NameRule", "accepts", "(Ljava/lang/String;)Z"⟩ : MethodName)) (a := nr) (wd G 67 rfl) (wd G 68 rfl) (nf_sel (wd G 70 rfl)) (wd G 70 rfl) (wd G 69 rfl) ⟨by decide, by decide⟩ Rx (Pays.of_ct (W := 0) (ct_acc0 G nr a cs h0 R1 F hn) all0 (wd G 72 rfl) (wd G 71 rfl) (by decide) (by decide) rfl rfl) (argsL := [(.ref a)]) (rest := []) rfl (lenOf pd_4 rfl) rfl (Nat.le_of_eq rfl) rfl d15_4 (pc' := 7) rfl (k' := 4) (n' := 20) rfl rfl (by decide) (by decide) ?_
  intro v_1 h_4 sz_2 q_3
  obtain ⟨rfl, E1⟩ := q_3
  exact Seg.retN (t := .boolean) (w := (1 : Int32)) rfl (by decide) (by decide) d15_7 (by decide) (by decide) ⟨rfl, E1⟩
theorem d25_0 : decode prog_25_method_3_code 0 = .ok (.getstatic 50, 3) := by decide +kernel
theorem d25_3 : decode prog_25_method_3_code 3 = .ok (.aload_n 0, 1) := by decide +kernel
theorem d25_4 : decode prog_25_method_3_code 4 = .ok (.invokevirtual 45, 3) := by decide +kernel
theorem d25_7 : decode prog_25_method_3_code 7 = .ok (.ireturn, 1) := by decide +kernel
theorem ef_ct_vi (nr : Addr) (a : Addr) (cs : List Int32) (m : MethodId) : entryFrame m #[(.ref a)] 1 = mkF m 0 #[.val (.ref a)] [] := by first | (simp [entryFrame, mkF, argsToLocals, Value.category]; done) | rfl
set_option maxRecDepth 65536 in
set_option maxHeartbeats 4000000 in
theorem ct_vi {l : Launch} {Z : State} {a0 : Array Value} (G : Env1 Z a0) (nr : Addr) (a : Addr) (cs : List Int32) (h0 : Heap) (S : Sta Z Z.heap "com/example/kredential/kredential/Resource" "ID" "Lcom/example/kredential/kredential/NameRule;" (.ref nr)) (R : Rule Z Z.heap nr 128 1 okI) (F : Str Z h0 a cs) (hn : NmI cs) :
    Ct l Z EL1 [] [] (⟨"com/example/kredential/kredential/Resource", "isValidId", "(Ljava/lang/String;)Z"⟩ : MethodName) prog_25_method_3_code 1 (some .boolean) ({ frames := 5, cells := 4, slots := 20, locals := 75 } : Room) #[(.ref a)] h0 (fun v h => v = some (.int 1) ∧ Ext h0 h) := by
  refine Ct.of_seg (a0 := a0) (plainFor_of_name pn_com_example_kredential_kredential_Resource) G.2.1 (ef_ct_vi nr a cs) ?_
  refine Seg.start fun hZ0 => ?_
  have R1 := R.ext hZ0
  have Rx := R1.exa
  refine Seg.getS (wd G 118 rfl) Via.refl S d25_0 (pc' := 3) rfl ?_
  refine Seg.aloadN d25_3 rfl rfl (pc' := 4) rfl ?_
  refine Seg.callV (y' := (⟨"com/example/kredential/kredential/NameRule", "accepts", "(Ljava/lang/String;)Z"⟩ : MethodName)) (z := (⟨"com/example/kredential/kredential/NameRule", "accepts", "(Ljava/lang/String;)Z"⟩ : MethodName)) (a := nr) (wd G 67 rfl) (wd G 68 rfl) (nf_sel (wd G 70 rfl)) (wd G 70 rfl) (wd G 69 rfl) ⟨by decide, by decide⟩ Rx (Pays.of_ct (W := 0) (ct_acc1 G nr a cs h0 R1 F hn) all0 (wd G 72 rfl) (wd G 71 rfl) (by decide) (by decide) rfl rfl) (argsL := [(.ref a)]) (rest := []) rfl (lenOf pd_4 rfl) rfl (Nat.le_of_eq rfl) rfl d25_4 (pc' := 7) rfl (k' := 4) (n' := 20) rfl rfl (by decide) (by decide) ?_
  intro v_1 h_4 sz_2 q_3
  obtain ⟨rfl, E1⟩ := q_3
  exact Seg.retN (t := .boolean) (w := (1 : Int32)) rfl (by decide) (by decide) d25_7 (by decide) (by decide) ⟨rfl, E1⟩
theorem d28_0 : decode prog_16_method_3_code 0 = .ok (.getstatic 60, 3) := by decide +kernel
theorem d28_3 : decode prog_16_method_3_code 3 = .ok (.aload_n 0, 1) := by decide +kernel
theorem d28_4 : decode prog_16_method_3_code 4 = .ok (.invokevirtual 64, 3) := by decide +kernel
theorem d28_7 : decode prog_16_method_3_code 7 = .ok (.ireturn, 1) := by decide +kernel
theorem pn_com_example_kredential_kredential_Participant : plainName "com/example/kredential/kredential/Participant" = true := by first | (simp [plainName, overriddenIn]; done) | decide +kernel
theorem ef_ct_vp (nr : Addr) (a : Addr) (cs : List Int32) (m : MethodId) : entryFrame m #[(.ref a)] 1 = mkF m 0 #[.val (.ref a)] [] := by first | (simp [entryFrame, mkF, argsToLocals, Value.category]; done) | rfl
set_option maxRecDepth 65536 in
set_option maxHeartbeats 4000000 in
theorem ct_vp {l : Launch} {Z : State} {a0 : Array Value} (G : Env1 Z a0) (nr : Addr) (a : Addr) (cs : List Int32) (h0 : Heap) (S : Sta Z Z.heap "com/example/kredential/kredential/Participant" "ID" "Lcom/example/kredential/kredential/NameRule;" (.ref nr)) (R : Rule Z Z.heap nr 128 1 okI) (F : Str Z h0 a cs) (hn : NmI cs) :
    Ct l Z EL1 [] [] (⟨"com/example/kredential/kredential/Participant", "isValidId", "(Ljava/lang/String;)Z"⟩ : MethodName) prog_16_method_3_code 1 (some .boolean) ({ frames := 5, cells := 4, slots := 20, locals := 75 } : Room) #[(.ref a)] h0 (fun v h => v = some (.int 1) ∧ Ext h0 h) := by
  refine Ct.of_seg (a0 := a0) (plainFor_of_name pn_com_example_kredential_kredential_Participant) G.2.1 (ef_ct_vp nr a cs) ?_
  refine Seg.start fun hZ0 => ?_
  have R1 := R.ext hZ0
  have Rx := R1.exa
  refine Seg.getS (wd G 136 rfl) Via.refl S d28_0 (pc' := 3) rfl ?_
  refine Seg.aloadN d28_3 rfl rfl (pc' := 4) rfl ?_
  refine Seg.callV (y' := (⟨"com/example/kredential/kredential/NameRule", "accepts", "(Ljava/lang/String;)Z"⟩ : MethodName)) (z := (⟨"com/example/kredential/kredential/NameRule", "accepts", "(Ljava/lang/String;)Z"⟩ : MethodName)) (a := nr) (wd G 138 rfl) (wd G 68 rfl) (nf_sel (wd G 70 rfl)) (wd G 70 rfl) (wd G 69 rfl) ⟨by decide, by decide⟩ Rx (Pays.of_ct (W := 0) (ct_acc1 G nr a cs h0 R1 F hn) all0 (wd G 72 rfl) (wd G 71 rfl) (by decide) (by decide) rfl rfl) (argsL := [(.ref a)]) (rest := []) rfl (lenOf pd_4 rfl) rfl (Nat.le_of_eq rfl) rfl d28_4 (pc' := 7) rfl (k' := 4) (n' := 20) rfl rfl (by decide) (by decide) ?_
  intro v_1 h_4 sz_2 q_3
  obtain ⟨rfl, E1⟩ := q_3
  exact Seg.retN (t := .boolean) (w := (1 : Int32)) rfl (by decide) (by decide) d28_7 (by decide) (by decide) ⟨rfl, E1⟩
theorem d14_0 : decode prog_25_method_1_code 0 = .ok (.aload_n 0, 1) := by decide +kernel
theorem d14_1 : decode prog_25_method_1_code 1 = .ok (.invokespecial 1, 3) := by decide +kernel
theorem d14_4 : decode prog_25_method_1_code 4 = .ok (.aload_n 1, 1) := by decide +kernel
theorem d14_5 : decode prog_25_method_1_code 5 = .ok (.invokestatic 7, 3) := by decide +kernel
theorem d14_8 : decode prog_25_method_1_code 8 = .ok (.ifCond .ne 14, 3) := by decide +kernel
theorem d14_22 : decode prog_25_method_1_code 22 = .ok (.aload_n 2, 1) := by decide +kernel
theorem d14_23 : decode prog_25_method_1_code 23 = .ok (.invokestatic 22, 3) := by decide +kernel
theorem d14_26 : decode prog_25_method_1_code 26 = .ok (.ifCond .ne 14, 3) := by decide +kernel
theorem d14_40 : decode prog_25_method_1_code 40 = .ok (.aload_n 3, 1) := by decide +kernel
theorem d14_41 : decode prog_25_method_1_code 41 = .ok (.invokestatic 28, 3) := by decide +kernel
theorem d14_44 : decode prog_25_method_1_code 44 = .ok (.ifCond .ne 14, 3) := by decide +kernel
theorem d14_58 : decode prog_25_method_1_code 58 = .ok (.aload_n 0, 1) := by decide +kernel
theorem d14_59 : decode prog_25_method_1_code 59 = .ok (.aload_n 1, 1) := by decide +kernel
theorem d14_60 : decode prog_25_method_1_code 60 = .ok (.putfield 32, 3) := by decide +kernel
theorem d14_63 : decode prog_25_method_1_code 63 = .ok (.aload_n 0, 1) := by decide +kernel
theorem d14_64 : decode prog_25_method_1_code 64 = .ok (.aload_n 2, 1) := by decide +kernel
theorem d14_65 : decode prog_25_method_1_code 65 = .ok (.putfield 35, 3) := by decide +kernel
theorem d14_68 : decode prog_25_method_1_code 68 = .ok (.aload_n 0, 1) := by decide +kernel
theorem d14_69 : decode prog_25_method_1_code 69 = .ok (.aload_n 3, 1) := by decide +kernel
theorem d14_70 : decode prog_25_method_1_code 70 = .ok (.putfield 38, 3) := by decide +kernel
theorem d14_73 : decode prog_25_method_1_code 73 = .ok (.return_, 1) := by decide +kernel
theorem ef_ct_rinit (x : Addr) (s1 : Addr) (s2 : Addr) (s3 : Addr) (c1 : List Int32) (c2 : List Int32) (c3 : List Int32) (o0 : Value) (o1 : Value) (o2 : Value) (m : MethodId) : entryFrame m #[(.ref x), (.ref s1), (.ref s2), (.ref s3)] 4 = mkF m 0 #[.val (.ref x), .val (.ref s1), .val (.ref s2), .val (.ref s3)] [] := by first | (simp [entryFrame, mkF, argsToLocals, Value.category]; done) | rfl
set_option maxRecDepth 65536 in
set_option maxHeartbeats 4000000 in
theorem ct_rinit {l : Launch} {Z : State} {a0 : Array Value} (G : Env1 Z a0) (x : Addr) (s1 : Addr) (s2 : Addr) (s3 : Addr) (c1 : List Int32) (c2 : List Int32) (c3 : List Int32) (o0 : Value) (o1 : Value) (o2 : Value) (h0 : Heap) (A : Exa Z h0 x "com/example/kredential/kredential/Resource") (F0 : Fld Z h0 x "com/example/kredential/kredential/Resource" "type" "Ljava/lang/String;" o0) (F1 : Fld Z h0 x "com/example/kredential/kredential/Resource" "id" "Ljava/lang/String;" o1) (F2 : Fld Z h0 x "com/example/kredential/kredential/Resource" "owner" "Ljava/lang/String;" o2) (T1 : Str Z h0 s1 c1) (T2 : Str Z h0 s2 c2) (T3 : Str Z h0 s3 c3) (n1 : Nm okT c1) (n2 : NmI c2) (n3 : NmI c3) :
    Ct l Z EL1 [x] [] (⟨"com/example/kredential/kredential/Resource", "<init>", "(Ljava/lang/String;Ljava/lang/String;Ljava/lang/String;)V"⟩ : MethodName) prog_25_method_1_code 4 none ({ frames := 6, cells := 12, slots := 60, locals := 87 } : Room) #[(.ref x), (.ref s1), (.ref s2), (.ref s3)] h0 (fun v h => v = none ∧ Keep h0 h [x] ∧ Fld Z h x "com/example/kredential/kredential/Resource" "type" "Ljava/lang/String;" (.ref s1) ∧ Fld Z h x "com/example/kredential/kredential/Resource" "id" "Ljava/lang/String;" (.ref s2) ∧ Fld Z h x "com/example/kredential/kredential/Resource" "owner" "Ljava/lang/String;" (.ref s3)) := by
  refine Ct.of_seg (a0 := a0) (plainFor_of_name pn_com_example_kredential_kredential_Resource) G.2.1 (ef_ct_rinit x s1 s2 s3 c1 c2 c3 o0 o1 o2) ?_
  obtain ⟨rt, ri, rp, S1, S2, S3, R1, R2, R3⟩ := G.2.2.2.2
  refine Seg.aloadN d14_0 rfl rfl (pc' := 1) rfl ?_
  refine Seg.initO (wd G 61 rfl) (wd G 23 rfl) (wd G 24 rfl) rfl d14_1 (pc' := 4) rfl (by decide) (W := 0) (Nat.le_of_eq rfl) (by decide) ?_
  refine Seg.aloadN d14_4 rfl rfl (pc' := 5) rfl ?_
  refine Seg.callS (y' := (⟨"com/example/kredential/kredential/Resource", "isValidType", "(Ljava/lang/String;)Z"⟩ : MethodName)) (wd G 62 rfl) (wd G 63 rfl) (wd G 57 rfl) (wd G 64 rfl) ⟨by decide, by decide⟩ (Pays.of_ct (W := 0) (ct_vt G rt s1 c1 h0 S1 R1 T1 n1) all0 (wd G 64 rfl) (wd G 57 rfl) (by decide) (by decide) rfl rfl) (argsL := [(.ref s1)]) (rest := []) rfl (lenOf pd_4 rfl) rfl (Nat.le_of_eq rfl) rfl d14_5 (pc' := 8) rfl (k' := 4) (n' := 20) rfl rfl (by decide) (by decide) ?_
  intro v_1 h_4 sz_2 q_3
  obtain ⟨rfl, E91⟩ := q_3
  refine Seg.ifY (pc' := 22) d14_8 (by decide) (by decide) (by decide) ?_
  refine Seg.aloadN d14_22 rfl rfl (pc' := 23) rfl ?_
  have F_5 := T2.ext E91
  refine Seg.callS (y' := (⟨"com/example/kredential/kredential/Resource", "isValidId", "(Ljava/lang/String;)Z"⟩ : MethodName)) (wd G 115 rfl) (wd G 116 rfl) (wd G 57 rfl) (wd G 117 rfl) ⟨by decide, by decide⟩ (Pays.of_ct (W := 0) (ct_vi G ri s2 c2 h_4 S2 R2 F_5 n2) all0 (wd G 117 rfl) (wd G 57 rfl) (by decide) (by decide) rfl rfl) (argsL := [(.ref s2)]) (rest := []) rfl (lenOf pd_4 rfl) rfl (Nat.le_of_eq rfl) rfl d14_23 (pc' := 26) rfl (k' := 8) (n' := 40) rfl rfl (by decide) (by decide) ?_
  intro v_6 h_9 sz_7 q_8
  obtain ⟨rfl, E92⟩ := q_8
  refine Seg.ifY (pc' := 40) d14_26 (by decide) (by decide) (by decide) ?_
  refine Seg.aloadN d14_40 rfl rfl (pc' := 41) rfl ?_
  have E_10 : Ext h0 h_9 := ext_tr E91 E92
  have F_11 := T3.ext E_10
  refine Seg.callS (y' := (⟨"com/example/kredential/kredential/Participant", "isValidId", "(Ljava/lang/String;)Z"⟩ : MethodName)) (wd G 132 rfl) (wd G 133 rfl) (wd G 134 rfl) (wd G 135 rfl) ⟨by decide, by decide⟩ (Pays.of_ct (W := 0) (ct_vp G rp s3 c3 h_9 S3 R3 F_11 n3) all0 (wd G 135 rfl) (wd G 134 rfl) (by decide) (by decide) rfl rfl) (argsL := [(.ref s3)]) (rest := []) rfl (lenOf pd_4 rfl) rfl (Nat.le_of_eq rfl) rfl d14_41 (pc' := 44) rfl (k' := 12) (n' := 60) rfl rfl (by decide) (by decide) ?_
  intro v_12 h_15 sz_13 q_14
  obtain ⟨rfl, E93⟩ := q_14
  refine Seg.ifY (pc' := 58) d14_44 (by decide) (by decide) (by decide) ?_
  refine Seg.aloadN d14_58 rfl rfl (pc' := 59) rfl ?_
  refine Seg.aloadN d14_59 rfl rfl (pc' := 60) rfl ?_
  have E_16 : Ext h0 h_15 := ext_tr E_10 E93
  have F_17 := F0.ext E_16
  have F_18 := A.ext E_16
  refine Seg.putF (host := "") (ty := (.object "java/lang/String")) (v' := (.ref s1)) (wd G 139 rfl) Via.refl F_17 F_18 (Or.inr ⟨(wd G 140 rfl), rfl, rfl⟩) (wd G 56 rfl) (by decide) rfl rfl (List.mem_of_getElem? (i := 0) rfl) d14_60 (pc' := 63) rfl ?_
  intro h_21 W_19 F_20
  refine Seg.aloadN d14_63 rfl rfl (pc' := 64) rfl ?_
  refine Seg.aloadN d14_64 rfl rfl (pc' := 65) rfl ?_
  have F_22 := ((((F1.ext E91).ext E92).ext E93).other W_19 (Or.inr (slot_ne (Or.inr (wd G 142 rfl)) (Or.inr (wd G 140 rfl)) (by decide) (t := (.object "java/lang/String")) (t' := (.object "java/lang/String")) (by decide) (by decide))))
  have F_23 := (F_18.wr W_19)
  refine Seg.putF (host := "") (ty := (.object "java/lang/String")) (v' := (.ref s2)) (wd G 141 rfl) Via.refl F_22 F_23 (Or.inr ⟨(wd G 142 rfl), rfl, rfl⟩) (wd G 56 rfl) (by decide) rfl rfl (List.mem_of_getElem? (i := 0) rfl) d14_65 (pc' := 68) rfl ?_
  intro h_26 W_24 F_25
  refine Seg.aloadN d14_68 rfl rfl (pc' := 69) rfl ?_
  refine Seg.aloadN d14_69 rfl rfl (pc' := 70) rfl ?_
  have F_27 := (((((F2.ext E91).ext E92).ext E93).other W_19 (Or.inr (slot_ne (Or.inr (wd G 144 rfl)) (Or.inr (wd G 140 rfl)) (by decide) (t := (.object "java/lang/String")) (t' := (.object "java/lang/String")) (by decide) (by decide)))).other W_24 (Or.inr (slot_ne (Or.inr (wd G 144 rfl)) (Or.inr (wd G 142 rfl)) (by decide) (t := (.object "java/lang/String")) (t' := (.object "java/lang/String")) (by decide) (by decide))))
  have F_28 := (F_23.wr W_24)
  refine Seg.putF (host := "") (ty := (.object "java/lang/String")) (v' := (.ref s3)) (wd G 143 rfl) Via.refl F_27 F_28 (Or.inr ⟨(wd G 144 rfl), rfl, rfl⟩) (wd G 56 rfl) (by decide) rfl rfl (List.mem_of_getElem? (i := 0) rfl) d14_70 (pc' := 73) rfl ?_
  intro h_31 W_29 F_30
  have F_32 := ((F_20.other W_24 (Or.inr (slot_ne (Or.inr (wd G 140 rfl)) (Or.inr (wd G 142 rfl)) (by decide) (t := (.object "java/lang/String")) (t' := (.object "java/lang/String")) (by decide) (by decide)))).other W_29 (Or.inr (slot_ne (Or.inr (wd G 140 rfl)) (Or.inr (wd G 144 rfl)) (by decide) (t := (.object "java/lang/String")) (t' := (.object "java/lang/String")) (by decide) (by decide))))
  have F_33 := (F_25.other W_29 (Or.inr (slot_ne (Or.inr (wd G 142 rfl)) (Or.inr (wd G 144 rfl)) (by decide) (t := (.object "java/lang/String")) (t' := (.object "java/lang/String")) (by decide) (by decide))))
  exact Seg.ret0 rfl d14_73 (by decide) (by decide) ⟨rfl, (((((((Keep.refl h0 [x]).ext E91).ext E92).ext E93).wr W_19 (Or.inl (List.mem_of_getElem? (i := 0) rfl))).wr W_24 (Or.inl (List.mem_of_getElem? (i := 0) rfl))).wr W_29 (Or.inl (List.mem_of_getElem? (i := 0) rfl))), F_32, F_33, F_30⟩
theorem d31_0 : decode jdk_68_method_2_code 0 = .ok (.aload_n 0, 1) := by decide +kernel
theorem d31_1 : decode jdk_68_method_2_code 1 = .ok (.invokespecial 3, 3) := by decide +kernel
theorem d31_4 : decode jdk_68_method_2_code 4 = .ok (.getstatic 18, 3) := by decide +kernel
theorem d31_7 : decode jdk_68_method_2_code 7 = .ok (.ifCond .eq 18, 3) := by decide +kernel
theorem d31_10 : decode jdk_68_method_2_code 10 = .ok (.aload_n 0, 1) := by decide +kernel
theorem d31_11 : decode jdk_68_method_2_code 11 = .ok (.iload_n 1, 1) := by decide +kernel
theorem d31_12 : decode jdk_68_method_2_code 12 = .ok (.newarray .byte, 2) := by decide +kernel
theorem d31_14 : decode jdk_68_method_2_code 14 = .ok (.putfield 15, 3) := by decide +kernel
theorem d31_17 : decode jdk_68_method_2_code 17 = .ok (.aload_n 0, 1) := by decide +kernel
theorem d31_18 : decode jdk_68_method_2_code 18 = .ok (.iconst 0, 1) := by decide +kernel
theorem d31_19 : decode jdk_68_method_2_code 19 = .ok (.putfield 22, 3) := by decide +kernel
theorem d31_22 : decode jdk_68_method_2_code 22 = .ok (.goto 16, 3) := by decide +kernel
theorem d31_38 : decode jdk_68_method_2_code 38 = .ok (.return_, 1) := by decide +kernel
theorem pn_java_lang_AbstractStringBuilder : plainName "java/lang/AbstractStringBuilder" = true := by first | (simp [plainName, overriddenIn]; done) | decide +kernel
theorem ef_ct_asbi (a : Addr) (o0 : Value) (o1 : Value) (o2 : Value) (m : MethodId) : entryFrame m #[(.ref a), (.int (16 : Int32))] 2 = mkF m 0 #[.val (.ref a), .val (.int (16 : Int32))] [] := by first | (simp [entryFrame, mkF, argsToLocals, Value.category]; done) | rfl
set_option maxRecDepth 65536 in
set_option maxHeartbeats 4000000 in
theorem ct_asbi {l : Launch} {Z : State} {a0 : Array Value} (G : Env1 Z a0) (a : Addr) (o0 : Value) (o1 : Value) (o2 : Value) (h0 : Heap) (A : Exa Z h0 a "java/lang/StringBuilder") (F0 : Fld Z h0 a "java/lang/AbstractStringBuilder" "value" "[B" o0) (F1 : Fld Z h0 a "java/lang/AbstractStringBuilder" "coder" "B" o1) (F2 : Fld Z h0 a "java/lang/AbstractStringBuilder" "count" "I" o2) :
    Ct l Z EL1 [a] [] (⟨"java/lang/AbstractStringBuilder", "<init>", "(I)V"⟩ : MethodName) jdk_68_method_2_code 2 none ({ frames := 1, cells := 1, slots := 16, locals := 12 } : Room) #[(.ref a), (.int (16 : Int32))] h0 (fun v h => v = none ∧ ∃ (b : Addr) (kb : ClassId), Keep h0 h [a] ∧ h0.size ≤ b ∧ Arv Z h b kb .byte 16 (List.replicate 16 (.int 0)) (.int 0) ∧ Fld Z h a "java/lang/AbstractStringBuilder" "value" "[B" (.ref b) ∧ Fld Z h a "java/lang/AbstractStringBuilder" "coder" "B" (.int 0) ∧ Fld Z h a "java/lang/AbstractStringBuilder" "count" "I" o2) := by
  refine Ct.of_seg (a0 := a0) (plainFor_of_name pn_java_lang_AbstractStringBuilder) G.2.1 (ef_ct_asbi a o0 o1 o2) ?_
  obtain ⟨zc, Sc, hz⟩ := G.2.2.1
  refine Seg.aloadN d31_0 rfl rfl (pc' := 1) rfl ?_
  refine Seg.initO (wd G 162 rfl) (wd G 23 rfl) (wd G 24 rfl) rfl d31_1 (pc' := 4) rfl (by decide) (W := 0) (Nat.le_of_eq rfl) (by decide) ?_
  refine Seg.getS (wd G 163 rfl) Via.refl Sc d31_4 (pc' := 7) rfl ?_
  refine Seg.ifN d31_7 (XT.i0_eq_f hz) (pc' := 10) rfl ?_
  refine Seg.aloadN d31_10 rfl rfl (pc' := 11) rfl ?_
  refine Seg.iloadN d31_11 rfl (pc' := 12) rfl ?_
  refine Seg.newP (ty := .byte) (dv := (.int 0)) rfl rfl (wd G 30 rfl) d31_12 (pc' := 14) rfl (by decide) (cap := 16) (by decide) (by decide) (k' := 1) (n' := 16) rfl rfl (by decide) (by decide) ?_
  intro b_1 h_3 k_b_1 E_2 e_b_1 l_b_1 A_b_1
  replace A_b_1 : Arv Z h_3 b_1 k_b_1 .byte (16 : Int32) [(.int (0 : Int32)), (.int (0 : Int32)), (.int (0 : Int32)), (.int (0 : Int32)), (.int (0 : Int32)), (.int (0 : Int32)), (.int (0 : Int32)), (.int (0 : Int32)), (.int (0 : Int32)), (.int (0 : Int32)), (.int (0 : Int32)), (.int (0 : Int32)), (.int (0 : Int32)), (.int (0 : Int32)), (.int (0 : Int32)), (.int (0 : Int32))] (.int 0) := A_b_1.pad (pad_rep [] (.int 0) 16)
  have F_4 := F0.ext E_2
  have F_5 := A.ext E_2
  refine Seg.putF (host := "") (ty := (.array .byte)) (v' := (.ref b_1)) (wd G 164 rfl) Via.refl F_4 F_5 (Or.inl (wd G 165 rfl)) (wd G 151 rfl) (by decide) rfl rfl (List.mem_of_getElem? (i := 1) rfl) d31_14 (pc' := 17) rfl ?_
  intro h_8 W_6 F_7
  refine Seg.aloadN d31_17 rfl rfl (pc' := 18) rfl ?_
  refine Seg.iconst (v := 0) d31_18 (by decide) (pc' := 19) rfl ?_
  have F_9 := ((F1.ext E_2).other W_6 (Or.inr (slot_ne (Or.inl (wd G 167 rfl)) (Or.inl (wd G 165 rfl)) (by decide) (t := .byte) (t' := (.array .byte)) (by decide) (by decide))))
  have F_10 := (F_5.wr W_6)
  refine Seg.putF (host := "") (ty := .byte) (v' := (.int (0 : Int32))) (wd G 166 rfl) Via.refl F_9 F_10 (Or.inl (wd G 167 rfl)) (wd G 151 rfl) (by decide) rfl rfl (List.mem_of_getElem? (i := 1) rfl) d31_19 (pc' := 22) rfl ?_
  intro h_13 W_11 F_12
  refine Seg.goto (pc' := 38) d31_22 (by decide) (by decide) ?_
  have nxa : b_1 ≠ a := Nat.ne_of_gt (Nat.lt_of_lt_of_le A.lt (Nat.le_trans (ext_rfl _).1 (Nat.le_of_eq e_b_1)))
  have F_14 := ((A_b_1.keep (Keep.of_wr W_6) (ninS nxa nin0)).keep (Keep.of_wr W_11) (ninS nxa nin0))
  have F_15 := (F_7.other W_11 (Or.inr (slot_ne (Or.inl (wd G 165 rfl)) (Or.inl (wd G 167 rfl)) (by decide) (t := (.array .byte)) (t' := .byte) (by decide) (by decide))))
  have F_16 := (((F2.ext E_2).other W_6 (Or.inr (slot_ne (Or.inl (wd G 181 rfl)) (Or.inl (wd G 165 rfl)) (by decide) (t := .int) (t' := (.array .byte)) (by decide) (by decide)))).other W_11 (Or.inr (slot_ne (Or.inl (wd G 181 rfl)) (Or.inl (wd G 167 rfl)) (by decide) (t := .int) (t' := .byte) (by decide) (by decide))))
  exact Seg.ret0 rfl d31_38 (by decide) (by decide) ⟨rfl, b_1, k_b_1, ((((Keep.refl h0 [a]).ext E_2).wr W_6 (Or.inl (List.mem_of_getElem? (i := 0) rfl))).wr W_11 (Or.inl (List.mem_of_getElem? (i := 0) rfl))), (Nat.le_trans (ext_rfl _).1 (Nat.le_of_eq e_b_1)), F_14, F_15, F_12, F_16⟩
theorem d30_0 : decode jdk_67_method_1_code 0 = .ok (.aload_n 0, 1) := by decide +kernel
theorem d30_1 : decode jdk_67_method_1_code 1 = .ok (.bipush 16, 2) := by decide +kernel
theorem d30_3 : decode jdk_67_method_1_code 3 = .ok (.invokespecial 1, 3) := by decide +kernel
theorem pd_5 : parseMethodDescriptor "(I)V" = some ⟨[.int], none⟩ := by decide +kernel
theorem d30_6 : decode jdk_67_method_1_code 6 = .ok (.return_, 1) := by decide +kernel
theorem pn_java_lang_StringBuilder : plainName "java/lang/StringBuilder" = true := by first | (simp [plainName, overriddenIn]; done) | decide +kernel
theorem ef_ct_sbi (a : Addr) (o0 : Value) (o1 : Value) (o2 : Value) (m : MethodId) : entryFrame m #[(.ref a)] 1 = mkF m 0 #[.val (.ref a)] [] := by first | (simp [entryFrame, mkF, argsToLocals, Value.category]; done) | rfl
set_option maxRecDepth 65536 in
set_option maxHeartbeats 4000000 in
theorem ct_sbi {l : Launch} {Z : State} {a0 : Array Value} (G : Env1 Z a0) (a : Addr) (o0 : Value) (o1 : Value) (o2 : Value) (h0 : Heap) (A : Exa Z h0 a "java/lang/StringBuilder") (F0 : Fld Z h0 a "java/lang/AbstractStringBuilder" "value" "[B" o0) (F1 : Fld Z h0 a "java/lang/AbstractStringBuilder" "coder" "B" o1) (F2 : Fld Z h0 a "java/lang/AbstractStringBuilder" "count" "I" o2) :
    Ct l Z EL1 [a] [] (⟨"java/lang/StringBuilder", "<init>", "()V"⟩ : MethodName) jdk_67_method_1_code 1 none ({ frames := 2, cells := 1, slots := 16, locals := 25 } : Room) #[(.ref a)] h0 (fun v h => v = none ∧ ∃ (b : Addr) (kb : ClassId), Keep h0 h [a] ∧ h0.size ≤ b ∧ Arv Z h b kb .byte 16 (List.replicate 16 (.int 0)) (.int 0) ∧ Fld Z h a "java/lang/AbstractStringBuilder" "value" "[B" (.ref b) ∧ Fld Z h a "java/lang/AbstractStringBuilder" "coder" "B" (.int 0) ∧ Fld Z h a "java/lang/AbstractStringBuilder" "count" "I" o2) := by
  refine Ct.of_seg (a0 := a0) (plainFor_of_name pn_java_lang_StringBuilder) G.2.1 (ef_ct_sbi a o0 o1 o2) ?_
  refine Seg.aloadN d30_0 rfl rfl (pc' := 1) rfl ?_
  refine Seg.bipush (v := 16) d30_1 (by decide) (pc' := 3) rfl ?_
  refine Seg.callN (y' := (⟨"java/lang/AbstractStringBuilder", "<init>", "(I)V"⟩ : MethodName)) (a := a) rfl (wd G 156 rfl) (wd G 157 rfl) (wd G 161 rfl) ⟨by decide, by decide⟩ (Pays.of_ct (W := 0) (ct_asbi G a o0 o1 o2 h0 A F0 F1 F2) (allS (List.mem_of_getElem? (i := 0) rfl) all0) (wd G 161 rfl) (wd G 160 rfl) (by decide) (by decide) rfl rfl) (argsL := [(.int (16 : Int32))]) (rest := []) rfl (lenOf pd_5 rfl) rfl (Nat.le_of_eq rfl) rfl d30_3 (pc' := 6) rfl (k' := 1) (n' := 16) rfl rfl (by decide) (by decide) ?_
  intro v_1 h_4 sz_2 q_3
  obtain ⟨rfl, b, kb, K1, g1, A1, G0, G1, G2⟩ := q_3
  exact Seg.ret0 rfl d30_6 (by decide) (by decide) ⟨rfl, b, kb, K1, g1, A1, G0, G1, G2⟩
theorem d19_0 : decode jdk_42_method_152_code 0 = .ok (.getstatic 38, 3) := by decide +kernel
theorem d19_3 : decode jdk_42_method_152_code 3 = .ok (.ifCond .eq 10, 3) := by decide +kernel
theorem d19_6 : decode jdk_42_method_152_code 6 = .ok (.aload_n 0, 1) := by decide +kernel
theorem d19_7 : decode jdk_42_method_152_code 7 = .ok (.getfield 15, 3) := by decide +kernel
theorem d19_10 : decode jdk_42_method_152_code 10 = .ok (.goto 4, 3) := by decide +kernel
theorem d19_14 : decode jdk_42_method_152_code 14 = .ok (.ireturn, 1) := by decide +kernel
theorem pn_java_lang_String : plainName "java/lang/String" = true := by first | (simp [plainName, overriddenIn]; done) | decide +kernel
theorem ef_ct_coder (a : Addr) (m : MethodId) : entryFrame m #[(.ref a)] 1 = mkF m 0 #[.val (.ref a)] [] := by first | (simp [entryFrame, mkF, argsToLocals, Value.category]; done) | rfl
set_option maxRecDepth 65536 in
set_option maxHeartbeats 4000000 in
theorem ct_coder {l : Launch} {Z : State} {a0 : Array Value} (G : Env1 Z a0) (a : Addr) (h0 : Heap) (F : Fld Z h0 a STN "coder" "B" (.int 0)) :
    Ct l Z EL1 [] [] (⟨"java/lang/String", "coder", "()B"⟩ : MethodName) jdk_42_method_152_code 1 (some .byte) ({ frames := 0, cells := 0, slots := 0, locals := 0 } : Room) #[(.ref a)] h0 (fun v h => v = some (.int 0) ∧ h0 = h) := by
  refine Ct.of_seg (a0 := a0) (plainFor_of_name pn_java_lang_String) G.2.1 (ef_ct_coder a) ?_
  obtain ⟨zc, Sc, hz⟩ := G.2.2.1
  refine Seg.getS (wd G 25 rfl) Via.refl Sc d19_0 (pc' := 3) rfl ?_
  refine Seg.ifN d19_3 (XT.i0_eq_f hz) (pc' := 6) rfl ?_
  refine Seg.aloadN d19_6 rfl rfl (pc' := 7) rfl ?_
  refine Seg.getF (host := "") (Or.inl (wd G 37 rfl)) Via.refl F d19_7 (pc' := 10) rfl ?_
  refine Seg.goto (pc' := 14) d19_10 (by decide) (by decide) ?_
  exact Seg.retN (t := .byte) (w := (0 : Int32)) rfl (by decide) (by decide) d19_14 (by decide) (by decide) ⟨rfl, rfl⟩
theorem d37_0 : decode jdk_42_method_147_code 0 = .ok (.aload_n 0, 1) := by decide +kernel
theorem d37_1 : decode jdk_42_method_147_code 1 = .ok (.invokevirtual 335, 3) := by decide +kernel
theorem pd_6 : parseMethodDescriptor "()B" = some ⟨[], some .byte⟩ := by decide +kernel
theorem d37_4 : decode jdk_42_method_147_code 4 = .ok (.iload_n 3, 1) := by decide +kernel
theorem d37_5 : decode jdk_42_method_147_code 5 = .ok (.if_icmp .ne 23, 3) := by decide +kernel
theorem d37_8 : decode jdk_42_method_147_code 8 = .ok (.aload_n 0, 1) := by decide +kernel
theorem d37_9 : decode jdk_42_method_147_code 9 = .ok (.getfield 9, 3) := by decide +kernel
theorem d37_12 : decode jdk_42_method_147_code 12 = .ok (.iconst 0, 1) := by decide +kernel
theorem d37_13 : decode jdk_42_method_147_code 13 = .ok (.aload_n 1, 1) := by decide +kernel
theorem d37_14 : decode jdk_42_method_147_code 14 = .ok (.iload_n 2, 1) := by decide +kernel
theorem d37_15 : decode jdk_42_method_147_code 15 = .ok (.iload_n 3, 1) := by decide +kernel
theorem d37_16 : decode jdk_42_method_147_code 16 = .ok (.ishl, 1) := by decide +kernel
theorem d37_17 : decode jdk_42_method_147_code 17 = .ok (.aload_n 0, 1) := by decide +kernel
theorem d37_18 : decode jdk_42_method_147_code 18 = .ok (.getfield 9, 3) := by decide +kernel
theorem d37_21 : decode jdk_42_method_147_code 21 = .ok (.arraylength, 1) := by decide +kernel
theorem d37_22 : decode jdk_42_method_147_code 22 = .ok (.invokestatic 212, 3) := by decide +kernel
theorem d37_25 : decode jdk_42_method_147_code 25 = .ok (.goto 18, 3) := by decide +kernel
theorem d37_43 : decode jdk_42_method_147_code 43 = .ok (.return_, 1) := by decide +kernel
theorem ef_ct_getb (s : Addr) (ds : List Int32) (b : Addr) (kb : ClassId) (cap : Nat) (vs : List Value) (n : Nat) (m : MethodId) : entryFrame m #[(.ref s), (.ref b), (.int (Int32.ofNat n)), (.int (0 : Int32))] 4 = mkF m 0 #[.val (.ref s), .val (.ref b), .val (.int (Int32.ofNat n)), .val (.int (0 : Int32))] [] := by first | (simp [entryFrame, mkF, argsToLocals, Value.category]; done) | rfl
set_option maxRecDepth 65536 in
set_option maxHeartbeats 4000000 in
theorem ct_getb {l : Launch} {Z : State} {a0 : Array Value} (G : Env1 Z a0) (s : Addr) (ds : List Int32) (b : Addr) (kb : ClassId) (cap : Nat) (vs : List Value) (n : Nat) (h0 : Heap) (F : Str Z h0 s ds) (hc : ∀ c ∈ ds, ¬ c < 0 ∧ ¬ (255 : Int32) < c) (Kb : Arv Z h0 b kb .byte (Int32.ofNat cap) vs (.int 0)) (hv : vs.length = cap) (hn : n + ds.length ≤ cap) (hcap : cap ≤ 100) :
    Ct l Z EL1 [b] [] (⟨"java/lang/String", "getBytes", "([BIB)V"⟩ : MethodName) jdk_42_method_147_code 4 none ({ frames := 1, cells := 0, slots := 0, locals := 18 } : Room) #[(.ref s), (.ref b), (.int (Int32.ofNat n)), (.int (0 : Int32))] h0 (fun v h => v = none ∧ Keep h0 h [b] ∧ Arv Z h b kb .byte (Int32.ofNat cap) (vs.take n ++ ds.map (fun c => Value.int c.toInt8.toInt32) ++ vs.drop (n + ds.length)) (.int 0)) := by
  refine Ct.of_seg (a0 := a0) (plainFor_of_name pn_java_lang_String) G.2.1 (ef_ct_getb s ds b kb cap vs n) ?_
  obtain ⟨t, kt, cd, N2, us, f1, f2, f3, f4, f5, f6, f7⟩ := id F
  obtain ⟨rfl, rfl, rfl⟩ : cd = 0 ∧ N2 = Int32.ofNat ds.length ∧ us = (ds.map (fun c => Value.int c.toInt8.toInt32)) := by
    rcases f5 with ⟨q1, q2, q3, -⟩ | ⟨-, -, -, c, hc', q⟩
    · exact ⟨q1, q2, q3⟩
    · exact absurd q (hc c hc').2
  refine Seg.aloadN d37_0 rfl rfl (pc' := 1) rfl ?_
  refine Seg.callV (y' := (⟨"java/lang/String", "coder", "()B"⟩ : MethodName)) (z := (⟨"java/lang/String", "coder", "()B"⟩ : MethodName)) (a := s) (wd G 83 rfl) (wd G 84 rfl) (nf_sel (wd G 86 rfl)) (wd G 86 rfl) (wd G 85 rfl) ⟨by decide, by decide⟩ f1 (Pays.of_ct (W := 0) (ct_coder G s h0 f3) all0 (wd G 87 rfl) (wd G 13 rfl) (by decide) (by decide) rfl rfl) (argsL := []) (rest := []) rfl (lenOf pd_6 rfl) rfl (Nat.le_of_eq rfl) rfl d37_1 (pc' := 4) rfl (k' := 0) (n' := 0) rfl rfl (by decide) (by decide) ?_
  intro v_1 h_4 sz_2 q_3
  obtain ⟨rfl, rfl⟩ := q_3
  refine Seg.iloadN d37_4 rfl (pc' := 5) rfl ?_
  refine Seg.icN d37_5 (by decide) (pc' := 8) rfl ?_
  refine Seg.aloadN d37_8 rfl rfl (pc' := 9) rfl ?_
  refine Seg.getF (host := "") (Or.inl (wd G 39 rfl)) Via.refl f2 d37_9 (pc' := 12) rfl ?_
  refine Seg.iconst (v := 0) d37_12 (by decide) (pc' := 13) rfl ?_
  refine Seg.aloadN d37_13 rfl rfl (pc' := 14) rfl ?_
  refine Seg.iloadN d37_14 rfl (pc' := 15) rfl ?_
  refine Seg.iloadN d37_15 rfl (pc' := 16) rfl ?_
  refine Seg.ishl (v := (Int32.ofNat n)) d37_16 (shl0 _) (pc' := 17) rfl ?_
  refine Seg.aloadN d37_17 rfl rfl (pc' := 18) rfl ?_
  refine Seg.getF (host := "") (Or.inl (wd G 39 rfl)) Via.refl f2 d37_18 (pc' := 21) rfl ?_
  refine Seg.alen f4 d37_21 (pc' := 22) rfl ?_
  refine Seg.cpA (us := (ds.map (fun c => Value.int c.toInt8.toInt32))) (vr := (vs.take n ++ ds.map (fun c => Value.int c.toInt8.toInt32) ++ vs.drop (n + ds.length))) (wd G 203 rfl) (wd G 206 rfl) (wd G 204 rfl) (wd G 205 rfl) f4 Kb (Or.inl ⟨rfl, rfl⟩) (by decide) (n32nn (by omega)) (n32nn (by omega)) (by rw [n32c (by omega)]; show 0 + ds.length ≤ ds.length; omega) (by rw [n32c (by omega), n32c (by omega), n32c (by omega)]; exact hn) (by have q := range_take (fun c => Value.int c.toInt8.toInt32) ds ds.length (.int 0) (Nat.le_refl _) (by omega); rwa [List.take_length] at q) (by rw [n32c (by omega), n32c (by omega), hv]; exact hn) (by rw [n32c (by omega), n32c (by omega)]) (List.mem_of_getElem? (i := 0) rfl) rfl d37_22 (pc' := 25) rfl (by decide) (W := 0) (Nat.le_of_eq rfl) (by decide) ?_
  intro h_7 K_5 A_6
  refine Seg.goto (pc' := 43) d37_25 (by decide) (by decide) ?_
  exact Seg.ret0 rfl d37_43 (by decide) (by decide) ⟨rfl, K_5, A_6⟩
theorem d36_0 : decode jdk_68_method_71_code 0 = .ok (.getstatic 18, 3) := by decide +kernel
theorem d36_3 : decode jdk_68_method_71_code 3 = .ok (.ifCond .eq 18, 3) := by decide +kernel
theorem d36_6 : decode jdk_68_method_71_code 6 = .ok (.aload_n 0, 1) := by decide +kernel
theorem d36_7 : decode jdk_68_method_71_code 7 = .ok (.getfield 22, 3) := by decide +kernel
theorem d36_10 : decode jdk_68_method_71_code 10 = .ok (.aload_n 1, 1) := by decide +kernel
theorem d36_11 : decode jdk_68_method_71_code 11 = .ok (.invokevirtual 40, 3) := by decide +kernel
theorem d36_14 : decode jdk_68_method_71_code 14 = .ok (.if_icmp .eq 7, 3) := by decide +kernel
theorem d36_21 : decode jdk_68_method_71_code 21 = .ok (.return_, 1) := by decide +kernel
theorem ef_ct_infl (a : Addr) (s : Addr) (ds : List Int32) (m : MethodId) : entryFrame m #[(.ref a), (.ref s)] 2 = mkF m 0 #[.val (.ref a), .val (.ref s)] [] := by first | (simp [entryFrame, mkF, argsToLocals, Value.category]; done) | rfl
set_option maxRecDepth 65536 in
set_option maxHeartbeats 4000000 in
theorem ct_infl {l : Launch} {Z : State} {a0 : Array Value} (G : Env1 Z a0) (a : Addr) (s : Addr) (ds : List Int32) (h0 : Heap) (F : Str Z h0 s ds) (hc : ∀ c ∈ ds, ¬ c < 0 ∧ ¬ (255 : Int32) < c) (F1 : Fld Z h0 a "java/lang/AbstractStringBuilder" "coder" "B" (.int 0)) :
    Ct l Z EL1 [] [] (⟨"java/lang/AbstractStringBuilder", "inflateIfNeededFor", "(Ljava/lang/String;)V"⟩ : MethodName) jdk_68_method_71_code 2 none ({ frames := 1, cells := 0, slots := 0, locals := 13 } : Room) #[(.ref a), (.ref s)] h0 (fun v h => v = none ∧ h0 = h) := by
  refine Ct.of_seg (a0 := a0) (plainFor_of_name pn_java_lang_AbstractStringBuilder) G.2.1 (ef_ct_infl a s ds) ?_
  obtain ⟨zc, Sc, hz⟩ := G.2.2.1
  obtain ⟨t, kt, cd, N2, us, f1, f2, f3, f4, f5, f6, f7⟩ := id F
  obtain ⟨rfl, rfl, rfl⟩ : cd = 0 ∧ N2 = Int32.ofNat ds.length ∧ us = (ds.map (fun c => Value.int c.toInt8.toInt32)) := by
    rcases f5 with ⟨q1, q2, q3, -⟩ | ⟨-, -, -, c, hc', q⟩
    · exact ⟨q1, q2, q3⟩
    · exact absurd q (hc c hc').2
  refine Seg.getS (wd G 163 rfl) Via.refl Sc d36_0 (pc' := 3) rfl ?_
  refine Seg.ifN d36_3 (XT.i0_eq_f hz) (pc' := 6) rfl ?_
  refine Seg.aloadN d36_6 rfl rfl (pc' := 7) rfl ?_
  refine Seg.getF (host := "") (Or.inl (wd G 166 rfl)) Via.refl F1 d36_7 (pc' := 10) rfl ?_
  refine Seg.aloadN d36_10 rfl rfl (pc' := 11) rfl ?_
  refine Seg.callV (y' := (⟨"java/lang/String", "coder", "()B"⟩ : MethodName)) (z := (⟨"java/lang/String", "coder", "()B"⟩ : MethodName)) (a := s) (wd G 197 rfl) (wd G 84 rfl) (nf_sel (wd G 86 rfl)) (wd G 86 rfl) (wd G 85 rfl) ⟨by decide, by decide⟩ f1 (Pays.of_ct (W := 1) (ct_coder G s h0 f3) all0 (wd G 87 rfl) (wd G 13 rfl) (by decide) (by decide) rfl rfl) (argsL := []) (rest := [(.int (0 : Int32))]) rfl (lenOf pd_6 rfl) rfl (Nat.le_of_eq rfl) rfl d36_11 (pc' := 14) rfl (k' := 0) (n' := 0) rfl rfl (by decide) (by decide) ?_
  intro v_1 h_4 sz_2 q_3
  obtain ⟨rfl, rfl⟩ := q_3
  refine Seg.icY (pc' := 21) d36_14 (by decide) (by decide) (by decide) ?_
  exact Seg.ret0 rfl d36_21 (by decide) (by decide) ⟨rfl, rfl⟩
theorem d35_0 : decode jdk_68_method_73_code 0 = .ok (.aload_n 0, 1) := by decide +kernel
theorem d35_1 : decode jdk_68_method_73_code 1 = .ok (.aload_n 2, 1) := by decide +kernel
theorem d35_2 : decode jdk_68_method_73_code 2 = .ok (.invokevirtual 397, 3) := by decide +kernel
theorem pd_7 : parseMethodDescriptor "(Ljava/lang/String;)V" = some ⟨[(.object "java/lang/String")], none⟩ := by decide +kernel
theorem d35_5 : decode jdk_68_method_73_code 5 = .ok (.aload_n 2, 1) := by decide +kernel
theorem d35_6 : decode jdk_68_method_73_code 6 = .ok (.aload_n 0, 1) := by decide +kernel
theorem d35_7 : decode jdk_68_method_73_code 7 = .ok (.getfield 15, 3) := by decide +kernel
theorem d35_10 : decode jdk_68_method_73_code 10 = .ok (.iload_n 1, 1) := by decide +kernel
theorem d35_11 : decode jdk_68_method_73_code 11 = .ok (.aload_n 0, 1) := by decide +kernel
theorem d35_12 : decode jdk_68_method_73_code 12 = .ok (.getfield 22, 3) := by decide +kernel
theorem d35_15 : decode jdk_68_method_73_code 15 = .ok (.invokevirtual 399, 3) := by decide +kernel
theorem pd_8 : parseMethodDescriptor "([BIB)V" = some ⟨[(.array .byte), .int, .byte], none⟩ := by decide +kernel
theorem d35_18 : decode jdk_68_method_73_code 18 = .ok (.return_, 1) := by decide +kernel
theorem ef_ct_puts (a : Addr) (s : Addr) (ds : List Int32) (b : Addr) (kb : ClassId) (cap : Nat) (vs : List Value) (n : Nat) (m : MethodId) : entryFrame m #[(.ref a), (.int (Int32.ofNat n)), (.ref s)] 3 = mkF m 0 #[.val (.ref a), .val (.int (Int32.ofNat n)), .val (.ref s)] [] := by first | (simp [entryFrame, mkF, argsToLocals, Value.category]; done) | rfl
set_option maxRecDepth 65536 in
set_option maxHeartbeats 4000000 in
theorem ct_puts {l : Launch} {Z : State} {a0 : Array Value} (G : Env1 Z a0) (a : Addr) (s : Addr) (ds : List Int32) (b : Addr) (kb : ClassId) (cap : Nat) (vs : List Value) (n : Nat) (h0 : Heap) (A : Exa Z h0 a "java/lang/StringBuilder") (F0 : Fld Z h0 a "java/lang/AbstractStringBuilder" "value" "[B" (.ref b)) (F1 : Fld Z h0 a "java/lang/AbstractStringBuilder" "coder" "B" (.int 0)) (F : Str Z h0 s ds) (hc : ∀ c ∈ ds, ¬ c < 0 ∧ ¬ (255 : Int32) < c) (Kb : Arv Z h0 b kb .byte (Int32.ofNat cap) vs (.int 0)) (hv : vs.length = cap) (hn : n + ds.length ≤ cap) (hcap : cap ≤ 100) :
    Ct l Z EL1 [b] [] (⟨"java/lang/AbstractStringBuilder", "putStringAt", "(ILjava/lang/String;)V"⟩ : MethodName) jdk_68_method_73_code 3 none ({ frames := 2, cells := 0, slots := 0, locals := 33 } : Room) #[(.ref a), (.int (Int32.ofNat n)), (.ref s)] h0 (fun v h => v = none ∧ Keep h0 h [b] ∧ Arv Z h b kb .byte (Int32.ofNat cap) (vs.take n ++ ds.map (fun c => Value.int c.toInt8.toInt32) ++ vs.drop (n + ds.length)) (.int 0)) := by
  refine Ct.of_seg (a0 := a0) (plainFor_of_name pn_java_lang_AbstractStringBuilder) G.2.1 (ef_ct_puts a s ds b kb cap vs n) ?_
  have f1 := F.exa
  refine Seg.aloadN d35_0 rfl rfl (pc' := 1) rfl ?_
  refine Seg.aloadN d35_1 rfl rfl (pc' := 2) rfl ?_
  refine Seg.callPr (y' := (⟨"java/lang/AbstractStringBuilder", "inflateIfNeededFor", "(Ljava/lang/String;)V"⟩ : MethodName)) (a := a) (wd G 192 rfl) (wd G 193 rfl) (sel_self (wd G 195 rfl) (wd G 194 rfl) (wd G 193 rfl) ⟨by decide, by decide⟩) (wd G 194 rfl) (wd G 196 rfl) ⟨by decide, by decide⟩ A (Pays.of_ct (W := 0) (ct_infl G a s ds h0 F hc F1) all0 (wd G 196 rfl) (wd G 160 rfl) (by decide) (by decide) rfl rfl) (argsL := [(.ref s)]) (rest := []) rfl (lenOf pd_7 rfl) rfl (Nat.le_of_eq rfl) rfl d35_2 (pc' := 5) rfl (k' := 0) (n' := 0) rfl rfl (by decide) (by decide) ?_
  intro v_1 h_4 sz_2 q_3
  obtain ⟨rfl, rfl⟩ := q_3
  refine Seg.aloadN d35_5 rfl rfl (pc' := 6) rfl ?_
  refine Seg.aloadN d35_6 rfl rfl (pc' := 7) rfl ?_
  refine Seg.getF (host := "") (Or.inl (wd G 164 rfl)) Via.refl F0 d35_7 (pc' := 10) rfl ?_
  refine Seg.iloadN d35_10 rfl (pc' := 11) rfl ?_
  refine Seg.aloadN d35_11 rfl rfl (pc' := 12) rfl ?_
  refine Seg.getF (host := "") (Or.inl (wd G 166 rfl)) Via.refl F1 d35_12 (pc' := 15) rfl ?_
  refine Seg.callV (y' := (⟨"java/lang/String", "getBytes", "([BIB)V"⟩ : MethodName)) (z := (⟨"java/lang/String", "getBytes", "([BIB)V"⟩ : MethodName)) (a := s) (wd G 198 rfl) (wd G 199 rfl) (nf_sel (wd G 201 rfl)) (wd G 201 rfl) (wd G 200 rfl) ⟨by decide, by decide⟩ f1 (Pays.of_ct (W := 0) (ct_getb G s ds b kb cap vs n h0 F hc Kb hv hn hcap) (allS (List.mem_of_getElem? (i := 0) rfl) all0) (wd G 202 rfl) (wd G 13 rfl) (by decide) (by decide) rfl rfl) (argsL := [(.ref b), (.int (Int32.ofNat n)), (.int (0 : Int32))]) (rest := []) rfl (lenOf pd_8 rfl) rfl (Nat.le_of_eq rfl) rfl d35_15 (pc' := 18) rfl (k' := 0) (n' := 0) rfl rfl (by decide) (by decide) ?_
  intro v_5 h_8 sz_6 q_7
  obtain ⟨rfl, K1, A1⟩ := q_7
  exact Seg.ret0 rfl d35_18 (by decide) (by decide) ⟨rfl, K1, A1⟩
theorem d34_0 : decode jdk_68_method_9_code 0 = .ok (.aload_n 0, 1) := by decide +kernel
theorem d34_1 : decode jdk_68_method_9_code 1 = .ok (.getfield 15, 3) := by decide +kernel
theorem d34_4 : decode jdk_68_method_9_code 4 = .ok (.arraylength, 1) := by decide +kernel
theorem d34_5 : decode jdk_68_method_9_code 5 = .ok (.aload_n 0, 1) := by decide +kernel
theorem d34_6 : decode jdk_68_method_9_code 6 = .ok (.getfield 22, 3) := by decide +kernel
theorem d34_9 : decode jdk_68_method_9_code 9 = .ok (.ishr, 1) := by decide +kernel
theorem d34_10 : decode jdk_68_method_9_code 10 = .ok (.istore_n 2, 1) := by decide +kernel
theorem d34_11 : decode jdk_68_method_9_code 11 = .ok (.iload_n 1, 1) := by decide +kernel
theorem d34_12 : decode jdk_68_method_9_code 12 = .ok (.iload_n 2, 1) := by decide +kernel
theorem d34_13 : decode jdk_68_method_9_code 13 = .ok (.isub, 1) := by decide +kernel
theorem d34_14 : decode jdk_68_method_9_code 14 = .ok (.ifCond .le 24, 3) := by decide +kernel
theorem d34_38 : decode jdk_68_method_9_code 38 = .ok (.return_, 1) := by decide +kernel
theorem ef_ct_ens (a : Addr) (b : Addr) (kb : ClassId) (cap : Nat) (vs : List Value) (mm : Nat) (m : MethodId) : entryFrame m #[(.ref a), (.int (Int32.ofNat mm))] 3 = mkF m 0 #[.val (.ref a), .val (.int (Int32.ofNat mm)), .unset] [] := by first | (simp [entryFrame, mkF, argsToLocals, Value.category]; done) | rfl
set_option maxRecDepth 65536 in
set_option maxHeartbeats 4000000 in
theorem ct_ens {l : Launch} {Z : State} {a0 : Array Value} (G : Env1 Z a0) (a : Addr) (b : Addr) (kb : ClassId) (cap : Nat) (vs : List Value) (mm : Nat) (h0 : Heap) (F0 : Fld Z h0 a "java/lang/AbstractStringBuilder" "value" "[B" (.ref b)) (F1 : Fld Z h0 a "java/lang/AbstractStringBuilder" "coder" "B" (.int 0)) (Kb : Arv Z h0 b kb .byte (Int32.ofNat cap) vs (.int 0)) (hm : mm ≤ cap) (hcap : cap ≤ 100) :
    Ct l Z EL1 [] [] (⟨"java/lang/AbstractStringBuilder", "ensureCapacityInternal", "(I)V"⟩ : MethodName) jdk_68_method_9_code 3 none ({ frames := 0, cells := 0, slots := 0, locals := 0 } : Room) #[(.ref a), (.int (Int32.ofNat mm))] h0 (fun v h => v = none ∧ h0 = h) := by
  refine Ct.of_seg (a0 := a0) (plainFor_of_name pn_java_lang_AbstractStringBuilder) G.2.1 (ef_ct_ens a b kb cap vs mm) ?_
  refine Seg.aloadN d34_0 rfl rfl (pc' := 1) rfl ?_
  refine Seg.getF (host := "") (Or.inl (wd G 164 rfl)) Via.refl F0 d34_1 (pc' := 4) rfl ?_
  refine Seg.alen Kb d34_4 (pc' := 5) rfl ?_
  refine Seg.aloadN d34_5 rfl rfl (pc' := 6) rfl ?_
  refine Seg.getF (host := "") (Or.inl (wd G 166 rfl)) Via.refl F1 d34_6 (pc' := 9) rfl ?_
  refine Seg.ishr (v := (Int32.ofNat cap)) d34_9 (shr0 _) (pc' := 10) rfl ?_
  refine Seg.istoreN (L' := #[.val (.ref a), .val (.int (Int32.ofNat mm)), .val (.int (Int32.ofNat cap))]) d34_10 rfl (pc' := 11) rfl ?_
  refine Seg.iloadN d34_11 rfl (pc' := 12) rfl ?_
  refine Seg.iloadN d34_12 rfl (pc' := 13) rfl ?_
  refine Seg.isub (v := ((Int32.ofNat mm) - (Int32.ofNat cap))) d34_13 rfl (pc' := 14) rfl ?_
  refine Seg.ifY (pc' := 38) d34_14 (XT.i0_le_t (n32subnp hm (by omega))) (by decide) (by decide) ?_
  exact Seg.ret0 rfl d34_38 (by decide) (by decide) ⟨rfl, rfl⟩
theorem d40_0 : decode jdk_29_method_65_code 0 = .ok (.iload_n 0, 1) := by decide +kernel
theorem d40_1 : decode jdk_29_method_65_code 1 = .ok (.iload_n 1, 1) := by decide +kernel
theorem d40_2 : decode jdk_29_method_65_code 2 = .ok (.if_icmp .lt 7, 3) := by decide +kernel
theorem d40_9 : decode jdk_29_method_65_code 9 = .ok (.iload_n 1, 1) := by decide +kernel
theorem d40_10 : decode jdk_29_method_65_code 10 = .ok (.ireturn, 1) := by decide +kernel
theorem pf_java_lang_Math_max__II_I : plainFor (⟨"java/lang/Math", "max", "(II)I"⟩ : MethodName) = true := by decide +kernel
theorem ef_ct_max18 (g : Nat) (m : MethodId) : entryFrame m #[(.int (Int32.ofNat g)), (.int (18 : Int32))] 2 = mkF m 0 #[.val (.int (Int32.ofNat g)), .val (.int (18 : Int32))] [] := by first | (simp [entryFrame, mkF, argsToLocals, Value.category]; done) | rfl
set_option maxRecDepth 65536 in
set_option maxHeartbeats 4000000 in
theorem ct_max18 {l : Launch} {Z : State} {a0 : Array Value} (G : Env1 Z a0) (g : Nat) (h0 : Heap) (hg : g < 18) :
    Ct l Z EL1 [] [] (⟨"java/lang/Math", "max", "(II)I"⟩ : MethodName) jdk_29_method_65_code 2 (some .int) ({ frames := 0, cells := 0, slots := 0, locals := 0 } : Room) #[(.int (Int32.ofNat g)), (.int (18 : Int32))] h0 (fun v h => v = some (.int 18) ∧ h0 = h) := by
  refine Ct.of_seg (a0 := a0) pf_java_lang_Math_max__II_I G.2.1 (ef_ct_max18 g) ?_
  refine Seg.iloadN d40_0 rfl (pc' := 1) rfl ?_
  refine Seg.iloadN d40_1 rfl (pc' := 2) rfl ?_
  refine Seg.icY (pc' := 9) d40_2 (XT.ii_lt_t (n32lt (n := 18) hg (by decide))) (by decide) (by decide) ?_
  refine Seg.iloadN d40_9 rfl (pc' := 10) rfl ?_
  exact Seg.retI rfl d40_10 (by decide) (by decide) ⟨rfl, rfl⟩
theorem d39_0 : decode jdk_48_method_27_code 0 = .ok (.iload_n 0, 1) := by decide +kernel
theorem d39_1 : decode jdk_48_method_27_code 1 = .ok (.iload_n 1, 1) := by decide +kernel
theorem d39_2 : decode jdk_48_method_27_code 2 = .ok (.iload_n 2, 1) := by decide +kernel
theorem d39_3 : decode jdk_48_method_27_code 3 = .ok (.invokestatic 194, 3) := by decide +kernel
theorem pd_9 : parseMethodDescriptor "(II)I" = some ⟨[.int, .int], some .int⟩ := by decide +kernel
theorem d39_6 : decode jdk_48_method_27_code 6 = .ok (.iadd, 1) := by decide +kernel
theorem d39_7 : decode jdk_48_method_27_code 7 = .ok (.istore_n 3, 1) := by decide +kernel
theorem d39_8 : decode jdk_48_method_27_code 8 = .ok (.iconst 0, 1) := by decide +kernel
theorem d39_9 : decode jdk_48_method_27_code 9 = .ok (.iload_n 3, 1) := by decide +kernel
theorem d39_10 : decode jdk_48_method_27_code 10 = .ok (.if_icmp .ge 11, 3) := by decide +kernel
theorem d39_13 : decode jdk_48_method_27_code 13 = .ok (.iload_n 3, 1) := by decide +kernel
theorem d39_14 : decode jdk_48_method_27_code 14 = .ok (.ldc 200, 2) := by decide +kernel
theorem d39_16 : decode jdk_48_method_27_code 16 = .ok (.if_icmp .gt 5, 3) := by decide +kernel
theorem d39_19 : decode jdk_48_method_27_code 19 = .ok (.iload_n 3, 1) := by decide +kernel
theorem d39_20 : decode jdk_48_method_27_code 20 = .ok (.ireturn, 1) := by decide +kernel
theorem pn_jdk_internal_util_ArraysSupport : plainName "jdk/internal/util/ArraysSupport" = true := by first | (simp [plainName, overriddenIn]; done) | decide +kernel
theorem ef_ct_newlen (g : Nat) (m : MethodId) : entryFrame m #[(.int (16 : Int32)), (.int (Int32.ofNat g)), (.int (18 : Int32))] 4 = mkF m 0 #[.val (.int (16 : Int32)), .val (.int (Int32.ofNat g)), .val (.int (18 : Int32)), .unset] [] := by first | (simp [entryFrame, mkF, argsToLocals, Value.category]; done) | rfl
set_option maxRecDepth 65536 in
set_option maxHeartbeats 4000000 in
theorem ct_newlen {l : Launch} {Z : State} {a0 : Array Value} (G : Env1 Z a0) (g : Nat) (h0 : Heap) (hg : g < 18) :
    Ct l Z EL1 [] [] (⟨"jdk/internal/util/ArraysSupport", "newLength", "(III)I"⟩ : MethodName) jdk_48_method_27_code 4 (some .int) ({ frames := 1, cells := 0, slots := 0, locals := 14 } : Room) #[(.int (16 : Int32)), (.int (Int32.ofNat g)), (.int (18 : Int32))] h0 (fun v h => v = some (.int 34) ∧ h0 = h) := by
  refine Ct.of_seg (a0 := a0) (plainFor_of_name pn_jdk_internal_util_ArraysSupport) G.2.1 (ef_ct_newlen g) ?_
  refine Seg.iloadN d39_0 rfl (pc' := 1) rfl ?_
  refine Seg.iloadN d39_1 rfl (pc' := 2) rfl ?_
  refine Seg.iloadN d39_2 rfl (pc' := 3) rfl ?_
  refine Seg.callS (y' := (⟨"java/lang/Math", "max", "(II)I"⟩ : MethodName)) (wd G 218 rfl) (wd G 219 rfl) (wd G 220 rfl) (wd G 221 rfl) ⟨by decide, by decide⟩ (Pays.of_ct (W := 1) (ct_max18 G g h0 hg) all0 (wd G 221 rfl) (wd G 220 rfl) (by decide) (by decide) rfl rfl) (argsL := [(.int (Int32.ofNat g)), (.int (18 : Int32))]) (rest := [(.int (16 : Int32))]) rfl (lenOf pd_9 rfl) rfl (Nat.le_of_eq rfl) rfl d39_3 (pc' := 6) rfl (k' := 0) (n' := 0) rfl rfl (by decide) (by decide) ?_
  intro v_1 h_4 sz_2 q_3
  obtain ⟨rfl, rfl⟩ := q_3
  refine Seg.iadd (v := (34 : Int32)) d39_6 (by decide) (pc' := 7) rfl ?_
  refine Seg.istoreN (L' := #[.val (.int (16 : Int32)), .val (.int (Int32.ofNat g)), .val (.int (18 : Int32)), .val (.int (34 : Int32))]) d39_7 rfl (pc' := 8) rfl ?_
  refine Seg.iconst (v := 0) d39_8 (by decide) (pc' := 9) rfl ?_
  refine Seg.iloadN d39_9 rfl (pc' := 10) rfl ?_
  refine Seg.icN d39_10 (by decide) (pc' := 13) rfl ?_
  refine Seg.iloadN d39_13 rfl (pc' := 14) rfl ?_
  refine Seg.ldcI (wd G 222 rfl) d39_14 (pc' := 16) rfl ?_
  refine Seg.icN d39_16 (by decide) (pc' := 19) rfl ?_
  refine Seg.iloadN d39_19 rfl (pc' := 20) rfl ?_
  exact Seg.retI rfl d39_20 (by decide) (by decide) ⟨rfl, rfl⟩
theorem d38_0 : decode jdk_68_method_10_code 0 = .ok (.aload_n 0, 1) := by decide +kernel
theorem d38_1 : decode jdk_68_method_10_code 1 = .ok (.getfield 15, 3) := by decide +kernel
theorem d38_4 : decode jdk_68_method_10_code 4 = .ok (.arraylength, 1) := by decide +kernel
theorem d38_5 : decode jdk_68_method_10_code 5 = .ok (.istore_n 2, 1) := by decide +kernel
theorem d38_6 : decode jdk_68_method_10_code 6 = .ok (.iload_n 1, 1) := by decide +kernel
theorem d38_7 : decode jdk_68_method_10_code 7 = .ok (.aload_n 0, 1) := by decide +kernel
theorem d38_8 : decode jdk_68_method_10_code 8 = .ok (.getfield 22, 3) := by decide +kernel
theorem d38_11 : decode jdk_68_method_10_code 11 = .ok (.ishl, 1) := by decide +kernel
theorem d38_12 : decode jdk_68_method_10_code 12 = .ok (.istore_n 3, 1) := by decide +kernel
theorem d38_13 : decode jdk_68_method_10_code 13 = .ok (.iload_n 3, 1) := by decide +kernel
theorem d38_14 : decode jdk_68_method_10_code 14 = .ok (.iload_n 2, 1) := by decide +kernel
theorem d38_15 : decode jdk_68_method_10_code 15 = .ok (.isub, 1) := by decide +kernel
theorem d38_16 : decode jdk_68_method_10_code 16 = .ok (.istore 4, 2) := by decide +kernel
theorem d38_18 : decode jdk_68_method_10_code 18 = .ok (.iload_n 2, 1) := by decide +kernel
theorem d38_19 : decode jdk_68_method_10_code 19 = .ok (.iload 4, 2) := by decide +kernel
theorem d38_21 : decode jdk_68_method_10_code 21 = .ok (.iload_n 2, 1) := by decide +kernel
theorem d38_22 : decode jdk_68_method_10_code 22 = .ok (.iconst 2, 1) := by decide +kernel
theorem d38_23 : decode jdk_68_method_10_code 23 = .ok (.aload_n 0, 1) := by decide +kernel
theorem d38_24 : decode jdk_68_method_10_code 24 = .ok (.getfield 22, 3) := by decide +kernel
theorem d38_27 : decode jdk_68_method_10_code 27 = .ok (.ishl, 1) := by decide +kernel
theorem d38_28 : decode jdk_68_method_10_code 28 = .ok (.iadd, 1) := by decide +kernel
theorem d38_29 : decode jdk_68_method_10_code 29 = .ok (.invokestatic 114, 3) := by decide +kernel
theorem pd_10 : parseMethodDescriptor "(III)I" = some ⟨[.int, .int, .int], some .int⟩ := by decide +kernel
theorem d38_32 : decode jdk_68_method_10_code 32 = .ok (.istore 5, 2) := by decide +kernel
theorem d38_34 : decode jdk_68_method_10_code 34 = .ok (.iload 5, 2) := by decide +kernel
theorem d38_36 : decode jdk_68_method_10_code 36 = .ok (.ldc 39, 2) := by decide +kernel
theorem d38_38 : decode jdk_68_method_10_code 38 = .ok (.if_icmp .ne 13, 3) := by decide +kernel
theorem d38_51 : decode jdk_68_method_10_code 51 = .ok (.iload 5, 2) := by decide +kernel
theorem d38_53 : decode jdk_68_method_10_code 53 = .ok (.aload_n 0, 1) := by decide +kernel
theorem d38_54 : decode jdk_68_method_10_code 54 = .ok (.getfield 22, 3) := by decide +kernel
theorem d38_57 : decode jdk_68_method_10_code 57 = .ok (.ishr, 1) := by decide +kernel
theorem d38_58 : decode jdk_68_method_10_code 58 = .ok (.ireturn, 1) := by decide +kernel
theorem ef_ct_newcap (a : Addr) (b : Addr) (kb : ClassId) (vs : List Value) (mm : Nat) (m : MethodId) : entryFrame m #[(.ref a), (.int (Int32.ofNat mm))] 6 = mkF m 0 #[.val (.ref a), .val (.int (Int32.ofNat mm)), .unset, .unset, .unset, .unset] [] := by first | (simp [entryFrame, mkF, argsToLocals, Value.category]; done) | rfl
set_option maxRecDepth 65536 in
set_option maxHeartbeats 4000000 in
theorem ct_newcap {l : Launch} {Z : State} {a0 : Array Value} (G : Env1 Z a0) (a : Addr) (b : Addr) (kb : ClassId) (vs : List Value) (mm : Nat) (h0 : Heap) (F0 : Fld Z h0 a "java/lang/AbstractStringBuilder" "value" "[B" (.ref b)) (F1 : Fld Z h0 a "java/lang/AbstractStringBuilder" "coder" "B" (.int 0)) (Kb : Arv Z h0 b kb .byte 16 vs (.int 0)) (hv : vs.length = 16) (h1 : 16 < mm) (h2 : mm < 34) :
    Ct l Z EL1 [] [] (⟨"java/lang/AbstractStringBuilder", "newCapacity", "(I)I"⟩ : MethodName) jdk_68_method_10_code 6 (some .int) ({ frames := 2, cells := 0, slots := 0, locals := 29 } : Room) #[(.ref a), (.int (Int32.ofNat mm))] h0 (fun v h => v = some (.int 34) ∧ h0 = h) := by
  refine Ct.of_seg (a0 := a0) (plainFor_of_name pn_java_lang_AbstractStringBuilder) G.2.1 (ef_ct_newcap a b kb vs mm) ?_
  refine Seg.aloadN d38_0 rfl rfl (pc' := 1) rfl ?_
  refine Seg.getF (host := "") (Or.inl (wd G 164 rfl)) Via.refl F0 d38_1 (pc' := 4) rfl ?_
  refine Seg.alen Kb d38_4 (pc' := 5) rfl ?_
  refine Seg.istoreN (L' := #[.val (.ref a), .val (.int (Int32.ofNat mm)), .val (.int (16 : Int32)), .unset, .unset, .unset]) d38_5 rfl (pc' := 6) rfl ?_
  refine Seg.iloadN d38_6 rfl (pc' := 7) rfl ?_
  refine Seg.aloadN d38_7 rfl rfl (pc' := 8) rfl ?_
  refine Seg.getF (host := "") (Or.inl (wd G 166 rfl)) Via.refl F1 d38_8 (pc' := 11) rfl ?_
  refine Seg.ishl (v := (Int32.ofNat mm)) d38_11 (shl0 _) (pc' := 12) rfl ?_
  refine Seg.istoreN (L' := #[.val (.ref a), .val (.int (Int32.ofNat mm)), .val (.int (16 : Int32)), .val (.int (Int32.ofNat mm)), .unset, .unset]) d38_12 rfl (pc' := 13) rfl ?_
  refine Seg.iloadN d38_13 rfl (pc' := 14) rfl ?_
  refine Seg.iloadN d38_14 rfl (pc' := 15) rfl ?_
  refine Seg.isub (v := (Int32.ofNat (mm - 16))) d38_15 (n32sub (j := 16) (by omega)) (pc' := 16) rfl ?_
  refine Seg.istore (L' := #[.val (.ref a), .val (.int (Int32.ofNat mm)), .val (.int (16 : Int32)), .val (.int (Int32.ofNat mm)), .val (.int (Int32.ofNat (mm - 16))), .unset]) d38_16 rfl (pc' := 18) rfl ?_
  refine Seg.iloadN d38_18 rfl (pc' := 19) rfl ?_
  refine Seg.iload d38_19 rfl (pc' := 21) rfl ?_
  refine Seg.iloadN d38_21 rfl (pc' := 22) rfl ?_
  refine Seg.iconst (v := 2) d38_22 (by decide) (pc' := 23) rfl ?_
  refine Seg.aloadN d38_23 rfl rfl (pc' := 24) rfl ?_
  refine Seg.getF (host := "") (Or.inl (wd G 166 rfl)) Via.refl F1 d38_24 (pc' := 27) rfl ?_
  refine Seg.ishl (v := (2 : Int32)) d38_27 (by decide) (pc' := 28) rfl ?_
  refine Seg.iadd (v := (18 : Int32)) d38_28 (by decide) (pc' := 29) rfl ?_
  refine Seg.callS (y' := (⟨"jdk/internal/util/ArraysSupport", "newLength", "(III)I"⟩ : MethodName)) (wd G 214 rfl) (wd G 215 rfl) (wd G 216 rfl) (wd G 217 rfl) ⟨by decide, by decide⟩ (Pays.of_ct (W := 0) (ct_newlen G (mm - 16) h0 (by omega)) all0 (wd G 217 rfl) (wd G 216 rfl) (by decide) (by decide) rfl rfl) (argsL := [(.int (16 : Int32)), (.int (Int32.ofNat (mm - 16))), (.int (18 : Int32))]) (rest := []) rfl (lenOf pd_10 rfl) rfl (Nat.le_of_eq rfl) rfl d38_29 (pc' := 32) rfl (k' := 0) (n' := 0) rfl rfl (by decide) (by decide) ?_
  intro v_1 h_4 sz_2 q_3
  obtain ⟨rfl, rfl⟩ := q_3
  refine Seg.istore (L' := #[.val (.ref a), .val (.int (Int32.ofNat mm)), .val (.int (16 : Int32)), .val (.int (Int32.ofNat mm)), .val (.int (Int32.ofNat (mm - 16))), .val (.int (34 : Int32))]) d38_32 rfl (pc' := 34) rfl ?_
  refine Seg.iload d38_34 rfl (pc' := 36) rfl ?_
  refine Seg.ldcI (wd G 223 rfl) d38_36 (pc' := 38) rfl ?_
  refine Seg.icY (pc' := 51) d38_38 (by decide) (by decide) (by decide) ?_
  refine Seg.iload d38_51 rfl (pc' := 53) rfl ?_
  refine Seg.aloadN d38_53 rfl rfl (pc' := 54) rfl ?_
  refine Seg.getF (host := "") (Or.inl (wd G 166 rfl)) Via.refl F1 d38_54 (pc' := 57) rfl ?_
  refine Seg.ishr (v := (34 : Int32)) d38_57 (by decide) (pc' := 58) rfl ?_
  exact Seg.retI rfl d38_58 (by decide) (by decide) ⟨rfl, rfl⟩
theorem d42_0 : decode jdk_29_method_69_code 0 = .ok (.iload_n 0, 1) := by decide +kernel
theorem d42_1 : decode jdk_29_method_69_code 1 = .ok (.iload_n 1, 1) := by decide +kernel
theorem d42_2 : decode jdk_29_method_69_code 2 = .ok (.if_icmp .gt 7, 3) := by decide +kernel
theorem d42_5 : decode jdk_29_method_69_code 5 = .ok (.iload_n 0, 1) := by decide +kernel
theorem d42_6 : decode jdk_29_method_69_code 6 = .ok (.goto 4, 3) := by decide +kernel
theorem d42_10 : decode jdk_29_method_69_code 10 = .ok (.ireturn, 1) := by decide +kernel
theorem pf_java_lang_Math_min__II_I : plainFor (⟨"java/lang/Math", "min", "(II)I"⟩ : MethodName) = true := by decide +kernel
theorem ef_ct_min16 (m : MethodId) : entryFrame m #[(.int (16 : Int32)), (.int (34 : Int32))] 2 = mkF m 0 #[.val (.int (16 : Int32)), .val (.int (34 : Int32))] [] := by first | (simp [entryFrame, mkF, argsToLocals, Value.category]; done) | rfl
set_option maxRecDepth 65536 in
set_option maxHeartbeats 4000000 in
theorem ct_min16 {l : Launch} {Z : State} {a0 : Array Value} (G : Env1 Z a0) (h0 : Heap) :
    Ct l Z EL1 [] [] (⟨"java/lang/Math", "min", "(II)I"⟩ : MethodName) jdk_29_method_69_code 2 (some .int) ({ frames := 0, cells := 0, slots := 0, locals := 0 } : Room) #[(.int (16 : Int32)), (.int (34 : Int32))] h0 (fun v h => v = some (.int 16) ∧ h0 = h) := by
  refine Ct.of_seg (a0 := a0) pf_java_lang_Math_min__II_I G.2.1 (ef_ct_min16 ) ?_
  refine Seg.iloadN d42_0 rfl (pc' := 1) rfl ?_
  refine Seg.iloadN d42_1 rfl (pc' := 2) rfl ?_
  refine Seg.icN d42_2 (by decide) (pc' := 5) rfl ?_
  refine Seg.iloadN d42_5 rfl (pc' := 6) rfl ?_
  refine Seg.goto (pc' := 10) d42_6 (by decide) (by decide) ?_
  exact Seg.retI rfl d42_10 (by decide) (by decide) ⟨rfl, rfl⟩
theorem d41_0 : decode jdk_65_method_121_code 0 = .ok (.iload_n 1, 1) := by decide +kernel
theorem d41_1 : decode jdk_65_method_121_code 1 = .ok (.aload_n 0, 1) := by decide +kernel
theorem d41_2 : decode jdk_65_method_121_code 2 = .ok (.arraylength, 1) := by decide +kernel
theorem d41_3 : decode jdk_65_method_121_code 3 = .ok (.if_icmp .ne 11, 3) := by decide +kernel
theorem d41_14 : decode jdk_65_method_121_code 14 = .ok (.iload_n 1, 1) := by decide +kernel
theorem d41_15 : decode jdk_65_method_121_code 15 = .ok (.newarray .byte, 2) := by decide +kernel
theorem d41_17 : decode jdk_65_method_121_code 17 = .ok (.astore_n 2, 1) := by decide +kernel
theorem d41_18 : decode jdk_65_method_121_code 18 = .ok (.aload_n 0, 1) := by decide +kernel
theorem d41_19 : decode jdk_65_method_121_code 19 = .ok (.iconst 0, 1) := by decide +kernel
theorem d41_20 : decode jdk_65_method_121_code 20 = .ok (.aload_n 2, 1) := by decide +kernel
theorem d41_21 : decode jdk_65_method_121_code 21 = .ok (.iconst 0, 1) := by decide +kernel
theorem d41_22 : decode jdk_65_method_121_code 22 = .ok (.aload_n 0, 1) := by decide +kernel
theorem d41_23 : decode jdk_65_method_121_code 23 = .ok (.arraylength, 1) := by decide +kernel
theorem d41_24 : decode jdk_65_method_121_code 24 = .ok (.iload_n 1, 1) := by decide +kernel
theorem d41_25 : decode jdk_65_method_121_code 25 = .ok (.invokestatic 304, 3) := by decide +kernel
theorem d41_28 : decode jdk_65_method_121_code 28 = .ok (.invokestatic 150, 3) := by decide +kernel
theorem d41_31 : decode jdk_65_method_121_code 31 = .ok (.aload_n 2, 1) := by decide +kernel
theorem d41_32 : decode jdk_65_method_121_code 32 = .ok (.areturn, 1) := by decide +kernel
theorem pn_java_util_Arrays : plainName "java/util/Arrays" = true := by first | (simp [plainName, overriddenIn]; done) | decide +kernel
theorem ef_ct_cpyB (b : Addr) (kb : ClassId) (vs : List Value) (m : MethodId) : entryFrame m #[(.ref b), (.int (34 : Int32))] 3 = mkF m 0 #[.val (.ref b), .val (.int (34 : Int32)), .unset] [] := by first | (simp [entryFrame, mkF, argsToLocals, Value.category]; done) | rfl
set_option maxRecDepth 65536 in
set_option maxHeartbeats 4000000 in
theorem ct_cpyB {l : Launch} {Z : State} {a0 : Array Value} (G : Env1 Z a0) (b : Addr) (kb : ClassId) (vs : List Value) (h0 : Heap) (Kb : Arv Z h0 b kb .byte 16 vs (.int 0)) (hv : vs.length = 16) :
    Ct l Z EL1 [] [] (⟨"java/util/Arrays", "copyOf", "([BI)[B"⟩ : MethodName) jdk_65_method_121_code 3 (some (.array .byte)) ({ frames := 1, cells := 1, slots := 34, locals := 18 } : Room) #[(.ref b), (.int (34 : Int32))] h0 (fun v h => ∃ (r : Addr) (kr : ClassId), v = some (.ref r) ∧ Ext h0 h ∧ h0.size ≤ r ∧ Arv Z h r kr .byte 34 (vs ++ List.replicate 18 (.int 0)) (.int 0)) := by
  refine Ct.of_seg (a0 := a0) (plainFor_of_name pn_java_util_Arrays) G.2.1 (ef_ct_cpyB b kb vs) ?_
  refine Seg.iloadN d41_0 rfl (pc' := 1) rfl ?_
  refine Seg.aloadN d41_1 rfl rfl (pc' := 2) rfl ?_
  refine Seg.alen Kb d41_2 (pc' := 3) rfl ?_
  refine Seg.icY (pc' := 14) d41_3 (by decide) (by decide) (by decide) ?_
  refine Seg.iloadN d41_14 rfl (pc' := 15) rfl ?_
  refine Seg.newP (ty := .byte) (dv := (.int 0)) rfl rfl (wd G 30 rfl) d41_15 (pc' := 17) rfl (by decide) (cap := 34) (by decide) (by decide) (k' := 1) (n' := 34) rfl rfl (by decide) (by decide) ?_
  intro b_1 h_3 k_b_1 E_2 e_b_1 l_b_1 A_b_1
  replace A_b_1 : Arv Z h_3 b_1 k_b_1 .byte (34 : Int32) [(.int (0 : Int32)), (.int (0 : Int32)), (.int (0 : Int32)), (.int (0 : Int32)), (.int (0 : Int32)), (.int (0 : Int32)), (.int (0 : Int32)), (.int (0 : Int32)), (.int (0 : Int32)), (.int (0 : Int32)), (.int (0 : Int32)), (.int (0 : Int32)), (.int (0 : Int32)), (.int (0 : Int32)), (.int (0 : Int32)), (.int (0 : Int32)), (.int (0 : Int32)), (.int (0 : Int32)), (.int (0 : Int32)), (.int (0 : Int32)), (.int (0 : Int32)), (.int (0 : Int32)), (.int (0 : Int32)), (.int (0 : Int32)), (.int (0 : Int32)), (.int (0 : Int32)), (.int (0 : Int32)), (.int (0 : Int32)), (.int (0 : Int32)), (.int (0 : Int32)), (.int (0 : Int32)), (.int (0 : Int32)), (.int (0 : Int32)), (.int (0 : Int32))] (.int 0) := A_b_1.pad (pad_rep [] (.int 0) 34)
  refine Seg.astoreN (L' := #[.val (.ref b), .val (.int (34 : Int32)), .val (.ref b_1)]) d41_17 rfl rfl (pc' := 18) rfl ?_
  refine Seg.aloadN d41_18 rfl rfl (pc' := 19) rfl ?_
  refine Seg.iconst (v := 0) d41_19 (by decide) (pc' := 20) rfl ?_
  refine Seg.aloadN d41_20 rfl rfl (pc' := 21) rfl ?_
  refine Seg.iconst (v := 0) d41_21 (by decide) (pc' := 22) rfl ?_
  refine Seg.aloadN d41_22 rfl rfl (pc' := 23) rfl ?_
  have F_4 := Kb.ext E_2
  refine Seg.alen F_4 d41_23 (pc' := 24) rfl ?_
  refine Seg.iloadN d41_24 rfl (pc' := 25) rfl ?_
  refine Seg.callS (y' := (⟨"java/lang/Math", "min", "(II)I"⟩ : MethodName)) (wd G 228 rfl) (wd G 229 rfl) (wd G 220 rfl) (wd G 230 rfl) ⟨by decide, by decide⟩ (Pays.of_ct (W := 4) (ct_min16 G  h_3) all0 (wd G 230 rfl) (wd G 220 rfl) (by decide) (by decide) rfl rfl) (argsL := [(.int (16 : Int32)), (.int (34 : Int32))]) (rest := [(.int (0 : Int32)), (.ref b_1), (.int (0 : Int32)), (.ref b)]) rfl (lenOf pd_9 rfl) rfl (Nat.le_of_eq rfl) rfl d41_25 (pc' := 28) rfl (k' := 1) (n' := 34) rfl rfl (by decide) (by decide) ?_
  intro v_5 h_8 sz_6 q_7
  obtain ⟨rfl, rfl⟩ := q_7
  refine Seg.cpA (us := vs) (vr := (vs ++ List.replicate 18 (Value.int 0))) (wd G 231 rfl) (wd G 206 rfl) (wd G 204 rfl) (wd G 205 rfl) F_4 A_b_1 (Or.inl ⟨rfl, rfl⟩) (by decide) (by decide) (by decide) (by decide) (by decide) (by have q := range_takeV vs 16 (.int 0) (by omega) (by omega); rwa [List.take_of_length_le (by omega)] at q) (by decide) rfl (List.mem_of_getElem? (i := 0) rfl) rfl d41_28 (pc' := 31) rfl (by decide) (W := 0) (Nat.le_of_eq rfl) (by decide) ?_
  intro h_11 K_9 A_10
  refine Seg.aloadN d41_31 rfl rfl (pc' := 32) rfl ?_
  have E_12 : Ext h0 h_11 := ext_kp E_2 K_9 (allS (Nat.le_trans (ext_rfl _).1 (Nat.le_of_eq e_b_1)) all0)
  exact Seg.retA rfl rfl rfl d41_32 (by decide) (by decide) ⟨b_1, k_b_1, rfl, E_12, (Nat.le_trans (ext_rfl _).1 (Nat.le_of_eq e_b_1)), A_10⟩
theorem d34_17 : decode jdk_68_method_9_code 17 = .ok (.aload_n 0, 1) := by decide +kernel
theorem d34_18 : decode jdk_68_method_9_code 18 = .ok (.aload_n 0, 1) := by decide +kernel
theorem d34_19 : decode jdk_68_method_9_code 19 = .ok (.getfield 15, 3) := by decide +kernel
theorem d34_22 : decode jdk_68_method_9_code 22 = .ok (.aload_n 0, 1) := by decide +kernel
theorem d34_23 : decode jdk_68_method_9_code 23 = .ok (.iload_n 1, 1) := by decide +kernel
theorem d34_24 : decode jdk_68_method_9_code 24 = .ok (.invokevirtual 104, 3) := by decide +kernel
theorem pd_11 : parseMethodDescriptor "(I)I" = some ⟨[.int], some .int⟩ := by decide +kernel
theorem d34_27 : decode jdk_68_method_9_code 27 = .ok (.aload_n 0, 1) := by decide +kernel
theorem d34_28 : decode jdk_68_method_9_code 28 = .ok (.getfield 22, 3) := by decide +kernel
theorem d34_31 : decode jdk_68_method_9_code 31 = .ok (.ishl, 1) := by decide +kernel
theorem d34_32 : decode jdk_68_method_9_code 32 = .ok (.invokestatic 108, 3) := by decide +kernel
theorem pd_12 : parseMethodDescriptor "([BI)[B" = some ⟨[(.array .byte), .int], some (.array .byte)⟩ := by decide +kernel
theorem d34_35 : decode jdk_68_method_9_code 35 = .ok (.putfield 15, 3) := by decide +kernel
theorem ef_ct_ensG (a : Addr) (b : Addr) (kb : ClassId) (vs : List Value) (mm : Nat) (o2 : Value) (m : MethodId) : entryFrame m #[(.ref a), (.int (Int32.ofNat mm))] 3 = mkF m 0 #[.val (.ref a), .val (.int (Int32.ofNat mm)), .unset] [] := by first | (simp [entryFrame, mkF, argsToLocals, Value.category]; done) | rfl
set_option maxRecDepth 65536 in
set_option maxHeartbeats 4000000 in
theorem ct_ensG {l : Launch} {Z : State} {a0 : Array Value} (G : Env1 Z a0) (a : Addr) (b : Addr) (kb : ClassId) (vs : List Value) (mm : Nat) (o2 : Value) (h0 : Heap) (A : Exa Z h0 a "java/lang/StringBuilder") (F0 : Fld Z h0 a "java/lang/AbstractStringBuilder" "value" "[B" (.ref b)) (F1 : Fld Z h0 a "java/lang/AbstractStringBuilder" "coder" "B" (.int 0)) (F2 : Fld Z h0 a "java/lang/AbstractStringBuilder" "count" "I" o2) (Kb : Arv Z h0 b kb .byte 16 vs (.int 0)) (hv : vs.length = 16) (h1 : 16 < mm) (h2 : mm < 34) :
    Ct l Z EL1 [a] [] (⟨"java/lang/AbstractStringBuilder", "ensureCapacityInternal", "(I)V"⟩ : MethodName) jdk_68_method_9_code 3 none ({ frames := 3, cells := 1, slots := 34, locals := 48 } : Room) #[(.ref a), (.int (Int32.ofNat mm))] h0 (fun v h => v = none ∧ ∃ (r : Addr) (kr : ClassId), Keep h0 h [a] ∧ h0.size ≤ r ∧ Arv Z h r kr .byte 34 (vs ++ List.replicate 18 (.int 0)) (.int 0) ∧ Fld Z h a "java/lang/AbstractStringBuilder" "value" "[B" (.ref r) ∧ Fld Z h a "java/lang/AbstractStringBuilder" "coder" "B" (.int 0) ∧ Fld Z h a "java/lang/AbstractStringBuilder" "count" "I" o2) := by
  refine Ct.of_seg (a0 := a0) (plainFor_of_name pn_java_lang_AbstractStringBuilder) G.2.1 (ef_ct_ensG a b kb vs mm o2) ?_
  refine Seg.aloadN d34_0 rfl rfl (pc' := 1) rfl ?_
  refine Seg.getF (host := "") (Or.inl (wd G 164 rfl)) Via.refl F0 d34_1 (pc' := 4) rfl ?_
  refine Seg.alen Kb d34_4 (pc' := 5) rfl ?_
  refine Seg.aloadN d34_5 rfl rfl (pc' := 6) rfl ?_
  refine Seg.getF (host := "") (Or.inl (wd G 166 rfl)) Via.refl F1 d34_6 (pc' := 9) rfl ?_
  refine Seg.ishr (v := (16 : Int32)) d34_9 (by decide) (pc' := 10) rfl ?_
  refine Seg.istoreN (L' := #[.val (.ref a), .val (.int (Int32.ofNat mm)), .val (.int (16 : Int32))]) d34_10 rfl (pc' := 11) rfl ?_
  refine Seg.iloadN d34_11 rfl (pc' := 12) rfl ?_
  refine Seg.iloadN d34_12 rfl (pc' := 13) rfl ?_
  refine Seg.isub (v := (Int32.ofNat (mm - 16))) d34_13 (n32sub (j := 16) (by omega)) (pc' := 14) rfl ?_
  refine Seg.ifN d34_14 (XT.i0_le_f (n32lt (i := 0) (n := mm - 16) (by omega) (by omega))) (pc' := 17) rfl ?_
  refine Seg.aloadN d34_17 rfl rfl (pc' := 18) rfl ?_
  refine Seg.aloadN d34_18 rfl rfl (pc' := 19) rfl ?_
  refine Seg.getF (host := "") (Or.inl (wd G 164 rfl)) Via.refl F0 d34_19 (pc' := 22) rfl ?_
  refine Seg.aloadN d34_22 rfl rfl (pc' := 23) rfl ?_
  refine Seg.iloadN d34_23 rfl (pc' := 24) rfl ?_
  refine Seg.callPr (y' := (⟨"java/lang/AbstractStringBuilder", "newCapacity", "(I)I"⟩ : MethodName)) (a := a) (wd G 209 rfl) (wd G 210 rfl) (sel_self (wd G 212 rfl) (wd G 211 rfl) (wd G 210 rfl) ⟨by decide, by decide⟩) (wd G 211 rfl) (wd G 213 rfl) ⟨by decide, by decide⟩ A (Pays.of_ct (W := 2) (ct_newcap G a b kb vs mm h0 F0 F1 Kb hv h1 h2) all0 (wd G 213 rfl) (wd G 160 rfl) (by decide) (by decide) rfl rfl) (argsL := [(.int (Int32.ofNat mm))]) (rest := [(.ref b), (.ref a)]) rfl (lenOf pd_11 rfl) rfl (Nat.le_of_eq rfl) rfl d34_24 (pc' := 27) rfl (k' := 0) (n' := 0) rfl rfl (by decide) (by decide) ?_
  intro v_1 h_4 sz_2 q_3
  obtain ⟨rfl, rfl⟩ := q_3
  refine Seg.aloadN d34_27 rfl rfl (pc' := 28) rfl ?_
  refine Seg.getF (host := "") (Or.inl (wd G 166 rfl)) Via.refl F1 d34_28 (pc' := 31) rfl ?_
  refine Seg.ishl (v := (34 : Int32)) d34_31 (by decide) (pc' := 32) rfl ?_
  refine Seg.callS (y' := (⟨"java/util/Arrays", "copyOf", "([BI)[B"⟩ : MethodName)) (wd G 224 rfl) (wd G 225 rfl) (wd G 226 rfl) (wd G 227 rfl) ⟨by decide, by decide⟩ (Pays.of_ct (W := 1) (ct_cpyB G b kb vs h0 Kb hv) all0 (wd G 227 rfl) (wd G 226 rfl) (by decide) (by decide) rfl rfl) (argsL := [(.ref b), (.int (34 : Int32))]) (rest := [(.ref a)]) rfl (lenOf pd_12 rfl) rfl (Nat.le_of_eq rfl) rfl d34_32 (pc' := 35) rfl (k' := 1) (n' := 34) rfl rfl (by decide) (by decide) ?_
  intro v_5 h_8 sz_6 q_7
  obtain ⟨r, kr, rfl, E1, g1, A1⟩ := q_7
  have nra : r ≠ a := Nat.ne_of_gt (Nat.lt_of_lt_of_le A.lt g1)
  have F_9 := F0.ext E1
  have F_10 := A.ext E1
  refine Seg.putF (host := "") (ty := (.array .byte)) (v' := (.ref r)) (wd G 164 rfl) Via.refl F_9 F_10 (Or.inl (wd G 165 rfl)) (wd G 151 rfl) (by decide) rfl rfl (List.mem_of_getElem? (i := 0) rfl) d34_35 (pc' := 38) rfl ?_
  intro h_13 W_11 F_12
  have F_14 := (A1.keep (Keep.of_wr W_11) (ninS nra nin0))
  have F_15 := ((F1.ext E1).other W_11 (Or.inr (slot_ne (Or.inl (wd G 167 rfl)) (Or.inl (wd G 165 rfl)) (by decide) (t := .byte) (t' := (.array .byte)) (by decide) (by decide))))
  have F_16 := ((F2.ext E1).other W_11 (Or.inr (slot_ne (Or.inl (wd G 181 rfl)) (Or.inl (wd G 165 rfl)) (by decide) (t := .int) (t' := (.array .byte)) (by decide) (by decide))))
  exact Seg.ret0 rfl d34_38 (by decide) (by decide) ⟨rfl, r, kr, (((Keep.refl h0 [a]).ext E1).wr W_11 (Or.inl (List.mem_of_getElem? (i := 0) rfl))), g1, F_14, F_12, F_15, F_16⟩
theorem d33_0 : decode jdk_68_method_22_code 0 = .ok (.aload_n 1, 1) := by decide +kernel
theorem d33_1 : decode jdk_68_method_22_code 1 = .ok (.ifnonnull 8, 3) := by decide +kernel
theorem d33_9 : decode jdk_68_method_22_code 9 = .ok (.aload_n 1, 1) := by decide +kernel
theorem d33_10 : decode jdk_68_method_22_code 10 = .ok (.invokevirtual 32, 3) := by decide +kernel
theorem d33_13 : decode jdk_68_method_22_code 13 = .ok (.istore_n 2, 1) := by decide +kernel
theorem d33_14 : decode jdk_68_method_22_code 14 = .ok (.aload_n 0, 1) := by decide +kernel
theorem d33_15 : decode jdk_68_method_22_code 15 = .ok (.aload_n 0, 1) := by decide +kernel
theorem d33_16 : decode jdk_68_method_22_code 16 = .ok (.getfield 79, 3) := by decide +kernel
theorem d33_19 : decode jdk_68_method_22_code 19 = .ok (.iload_n 2, 1) := by decide +kernel
theorem d33_20 : decode jdk_68_method_22_code 20 = .ok (.iadd, 1) := by decide +kernel
theorem d33_21 : decode jdk_68_method_22_code 21 = .ok (.invokevirtual 100, 3) := by decide +kernel
theorem d33_24 : decode jdk_68_method_22_code 24 = .ok (.aload_n 0, 1) := by decide +kernel
theorem d33_25 : decode jdk_68_method_22_code 25 = .ok (.aload_n 0, 1) := by decide +kernel
theorem d33_26 : decode jdk_68_method_22_code 26 = .ok (.getfield 79, 3) := by decide +kernel
theorem d33_29 : decode jdk_68_method_22_code 29 = .ok (.aload_n 1, 1) := by decide +kernel
theorem d33_30 : decode jdk_68_method_22_code 30 = .ok (.invokevirtual 208, 3) := by decide +kernel
theorem pd_13 : parseMethodDescriptor "(ILjava/lang/String;)V" = some ⟨[.int, (.object "java/lang/String")], none⟩ := by decide +kernel
theorem d33_33 : decode jdk_68_method_22_code 33 = .ok (.aload_n 0, 1) := by decide +kernel
theorem d33_34 : decode jdk_68_method_22_code 34 = .ok (.dup, 1) := by decide +kernel
theorem d33_35 : decode jdk_68_method_22_code 35 = .ok (.getfield 79, 3) := by decide +kernel
theorem d33_38 : decode jdk_68_method_22_code 38 = .ok (.iload_n 2, 1) := by decide +kernel
theorem d33_39 : decode jdk_68_method_22_code 39 = .ok (.iadd, 1) := by decide +kernel
theorem d33_40 : decode jdk_68_method_22_code 40 = .ok (.putfield 79, 3) := by decide +kernel
theorem d33_43 : decode jdk_68_method_22_code 43 = .ok (.aload_n 0, 1) := by decide +kernel
theorem d33_44 : decode jdk_68_method_22_code 44 = .ok (.areturn, 1) := by decide +kernel
theorem ef_ct_app (a : Addr) (s : Addr) (ds : List Int32) (b : Addr) (kb : ClassId) (cap : Nat) (vs : List Value) (n : Nat) (cs : List Int32) (m : MethodId) : entryFrame m #[(.ref a), (.ref s)] 3 = mkF m 0 #[.val (.ref a), .val (.ref s), .unset] [] := by first | (simp [entryFrame, mkF, argsToLocals, Value.category]; done) | rfl
set_option maxRecDepth 65536 in
set_option maxHeartbeats 4000000 in
theorem ct_app {l : Launch} {Z : State} {a0 : Array Value} (G : Env1 Z a0) (a : Addr) (s : Addr) (ds : List Int32) (b : Addr) (kb : ClassId) (cap : Nat) (vs : List Value) (n : Nat) (cs : List Int32) (h0 : Heap) (A : Exa Z h0 a "java/lang/StringBuilder") (F0 : Fld Z h0 a "java/lang/AbstractStringBuilder" "value" "[B" (.ref b)) (F1 : Fld Z h0 a "java/lang/AbstractStringBuilder" "coder" "B" (.int 0)) (F2 : Fld Z h0 a "java/lang/AbstractStringBuilder" "count" "I" (.int (Int32.ofNat n))) (F : Str Z h0 s ds) (hc : ∀ c ∈ ds, ¬ c < 0 ∧ ¬ (255 : Int32) < c) (Kb : Arv Z h0 b kb .byte (Int32.ofNat cap) vs (.int 0)) (hv : vs.length = cap) (hn : n + ds.length ≤ cap) (hcap : cap ≤ 100) (hcs : vs.take n = cs.map (fun c => Value.int c.toInt8.toInt32)) (hne : a ≠ b) :
    Ct l Z EL1 [a, b] [] (⟨"java/lang/AbstractStringBuilder", "append", "(Ljava/lang/String;)Ljava/lang/AbstractStringBuilder;"⟩ : MethodName) jdk_68_method_22_code 3 (some (.object "java/lang/AbstractStringBuilder")) ({ frames := 3, cells := 0, slots := 0, locals := 47 } : Room) #[(.ref a), (.ref s)] h0 (fun v h => v = some (.ref a) ∧ Keep h0 h [a, b] ∧ ∃ vs' : List Value, vs'.length = cap ∧ vs'.take (n + ds.length) = (cs ++ ds).map (fun c => Value.int c.toInt8.toInt32) ∧ Arv Z h b kb .byte (Int32.ofNat cap) vs' (.int 0) ∧ Fld Z h a "java/lang/AbstractStringBuilder" "value" "[B" (.ref b) ∧ Fld Z h a "java/lang/AbstractStringBuilder" "coder" "B" (.int 0) ∧ Fld Z h a "java/lang/AbstractStringBuilder" "count" "I" (.int (Int32.ofNat (n + ds.length)))) := by
  refine Ct.of_seg (a0 := a0) (plainFor_of_name pn_java_lang_AbstractStringBuilder) G.2.1 (ef_ct_app a s ds b kb cap vs n cs) ?_
  have f1 := F.exa
  have lds : ds.length ≤ 4000 := by obtain ⟨_, _, _, _, _, _, _, _, _, _, _, q⟩ := F; exact q
  refine Seg.aloadN d33_0 rfl rfl (pc' := 1) rfl ?_
  refine Seg.nonnY (pc' := 9) d33_1 (by decide) (by decide) ?_
  refine Seg.aloadN d33_9 rfl rfl (pc' := 10) rfl ?_
  refine Seg.callV (y' := (⟨"java/lang/String", "length", "()I"⟩ : MethodName)) (z := (⟨"java/lang/String", "length", "()I"⟩ : MethodName)) (a := s) (wd G 179 rfl) (wd G 79 rfl) (nf_sel (wd G 81 rfl)) (wd G 81 rfl) (wd G 80 rfl) ⟨by decide, by decide⟩ f1 (pays_len (W := 0) G h0 F (by decide) (by decide)) (argsL := []) (rest := []) rfl (lenOf pd_0 rfl) rfl (Nat.le_of_eq rfl) rfl d33_10 (pc' := 13) rfl (k' := 0) (n' := 0) rfl rfl (by decide) (by decide) ?_
  intro v_1 h_4 sz_2 q_3
  obtain ⟨rfl, rfl⟩ := q_3
  refine Seg.istoreN (L' := #[.val (.ref a), .val (.ref s), .val (.int (Int32.ofNat ds.length))]) d33_13 rfl (pc' := 14) rfl ?_
  refine Seg.aloadN d33_14 rfl rfl (pc' := 15) rfl ?_
  refine Seg.aloadN d33_15 rfl rfl (pc' := 16) rfl ?_
  refine Seg.getF (host := "") (Or.inl (wd G 180 rfl)) Via.refl F2 d33_16 (pc' := 19) rfl ?_
  refine Seg.iloadN d33_19 rfl (pc' := 20) rfl ?_
  refine Seg.iadd (v := (Int32.ofNat (n + ds.length))) d33_20 (n32add _ _) (pc' := 21) rfl ?_
  refine Seg.callPr (y' := (⟨"java/lang/AbstractStringBuilder", "ensureCapacityInternal", "(I)V"⟩ : MethodName)) (a := a) (wd G 182 rfl) (wd G 183 rfl) (sel_self (wd G 185 rfl) (wd G 184 rfl) (wd G 183 rfl) ⟨by decide, by decide⟩) (wd G 184 rfl) (wd G 186 rfl) ⟨by decide, by decide⟩ A (Pays.of_ct (W := 0) (ct_ens G a b kb cap vs (n + ds.length) h0 F0 F1 Kb hn hcap) all0 (wd G 186 rfl) (wd G 160 rfl) (by decide) (by decide) rfl rfl) (argsL := [(.int (Int32.ofNat (n + ds.length)))]) (rest := []) rfl (lenOf pd_5 rfl) rfl (Nat.le_of_eq rfl) rfl d33_21 (pc' := 24) rfl (k' := 0) (n' := 0) rfl rfl (by decide) (by decide) ?_
  intro v_5 h_8 sz_6 q_7
  obtain ⟨rfl, rfl⟩ := q_7
  refine Seg.aloadN d33_24 rfl rfl (pc' := 25) rfl ?_
  refine Seg.aloadN d33_25 rfl rfl (pc' := 26) rfl ?_
  refine Seg.getF (host := "") (Or.inl (wd G 180 rfl)) Via.refl F2 d33_26 (pc' := 29) rfl ?_
  refine Seg.aloadN d33_29 rfl rfl (pc' := 30) rfl ?_
  refine Seg.callPr (y' := (⟨"java/lang/AbstractStringBuilder", "putStringAt", "(ILjava/lang/String;)V"⟩ : MethodName)) (a := a) (wd G 187 rfl) (wd G 188 rfl) (sel_self (wd G 190 rfl) (wd G 189 rfl) (wd G 188 rfl) ⟨by decide, by decide⟩) (wd G 189 rfl) (wd G 191 rfl) ⟨by decide, by decide⟩ A (Pays.of_ct (W := 0) (ct_puts G a s ds b kb cap vs n h0 A F0 F1 F hc Kb hv hn hcap) (allS (List.mem_of_getElem? (i := 1) rfl) all0) (wd G 191 rfl) (wd G 160 rfl) (by decide) (by decide) rfl rfl) (argsL := [(.int (Int32.ofNat n)), (.ref s)]) (rest := []) rfl (lenOf pd_13 rfl) rfl (Nat.le_of_eq rfl) rfl d33_30 (pc' := 33) rfl (k' := 0) (n' := 0) rfl rfl (by decide) (by decide) ?_
  intro v_9 h_12 sz_10 q_11
  obtain ⟨rfl, K1, A1⟩ := q_11
  refine Seg.aloadN d33_33 rfl rfl (pc' := 34) rfl ?_
  refine Seg.dup d33_34 rfl (pc' := 35) rfl ?_
  have F_13 := (F2.keep K1 (ninS hne nin0))
  refine Seg.getF (host := "") (Or.inl (wd G 180 rfl)) Via.refl F_13 d33_35 (pc' := 38) rfl ?_
  refine Seg.iloadN d33_38 rfl (pc' := 39) rfl ?_
  refine Seg.iadd (v := (Int32.ofNat (n + ds.length))) d33_39 (n32add _ _) (pc' := 40) rfl ?_
  have F_14 := (A.keep K1)
  refine Seg.putF (host := "") (ty := .int) (v' := (.int (Int32.ofNat (n + ds.length)))) (wd G 180 rfl) Via.refl F_13 F_14 (Or.inl (wd G 181 rfl)) (wd G 151 rfl) (by decide) rfl rfl (List.mem_of_getElem? (i := 0) rfl) d33_40 (pc' := 43) rfl ?_
  intro h_17 W_15 F_16
  refine Seg.aloadN d33_43 rfl rfl (pc' := 44) rfl ?_
  have F_18 := (A1.keep (Keep.of_wr W_15) (ninS hne.symm nin0))
  have F_19 := ((F0.keep K1 (ninS hne nin0)).other W_15 (Or.inr (slot_ne (Or.inl (wd G 165 rfl)) (Or.inl (wd G 181 rfl)) (by decide) (t := (.array .byte)) (t' := .int) (by decide) (by decide))))
  have F_20 := ((F1.keep K1 (ninS hne nin0)).other W_15 (Or.inr (slot_ne (Or.inl (wd G 167 rfl)) (Or.inl (wd G 181 rfl)) (by decide) (t := .byte) (t' := .int) (by decide) (by decide))))
  exact Seg.retA rfl rfl rfl d33_44 (by decide) (by decide) ⟨rfl, (((Keep.refl h0 [a, b]).trans K1 (allS (Or.inl (List.mem_of_getElem? (i := 1) rfl)) all0)).wr W_15 (Or.inl (List.mem_of_getElem? (i := 0) rfl))), _, (app_take hv hn hcs).1, (app_take hv hn hcs).2, F_18, F_19, F_20, F_16⟩
theorem ef_ct_appG (a : Addr) (s : Addr) (ds : List Int32) (b : Addr) (kb : ClassId) (vs : List Value) (n : Nat) (cs : List Int32) (m : MethodId) : entryFrame m #[(.ref a), (.ref s)] 3 = mkF m 0 #[.val (.ref a), .val (.ref s), .unset] [] := by first | (simp [entryFrame, mkF, argsToLocals, Value.category]; done) | rfl
set_option maxRecDepth 65536 in
set_option maxHeartbeats 4000000 in
theorem ct_appG {l : Launch} {Z : State} {a0 : Array Value} (G : Env1 Z a0) (a : Addr) (s : Addr) (ds : List Int32) (b : Addr) (kb : ClassId) (vs : List Value) (n : Nat) (cs : List Int32) (h0 : Heap) (A : Exa Z h0 a "java/lang/StringBuilder") (F0 : Fld Z h0 a "java/lang/AbstractStringBuilder" "value" "[B" (.ref b)) (F1 : Fld Z h0 a "java/lang/AbstractStringBuilder" "coder" "B" (.int 0)) (F2 : Fld Z h0 a "java/lang/AbstractStringBuilder" "count" "I" (.int (Int32.ofNat n))) (F : Str Z h0 s ds) (hc : ∀ c ∈ ds, ¬ c < 0 ∧ ¬ (255 : Int32) < c) (Kb : Arv Z h0 b kb .byte 16 vs (.int 0)) (hv : vs.length = 16) (h1 : 16 < n + ds.length) (h2 : n + ds.length < 34) (h3 : n ≤ 16) (hcs : vs.take n = cs.map (fun c => Value.int c.toInt8.toInt32)) (Fk : ∀ h1, Keep h0 h1 [a] → Str Z h1 s ds) :
    Ct l Z EL1 [a] [] (⟨"java/lang/AbstractStringBuilder", "append", "(Ljava/lang/String;)Ljava/lang/AbstractStringBuilder;"⟩ : MethodName) jdk_68_method_22_code 3 (some (.object "java/lang/AbstractStringBuilder")) ({ frames := 4, cells := 1, slots := 34, locals := 62 } : Room) #[(.ref a), (.ref s)] h0 (fun v h => v = some (.ref a) ∧ Keep h0 h [a] ∧ ∃ (r : Addr) (kr : ClassId) (vs' : List Value), h0.size ≤ r ∧ vs'.length = 34 ∧ vs'.take (n + ds.length) = (cs ++ ds).map (fun c => Value.int c.toInt8.toInt32) ∧ Arv Z h r kr .byte 34 vs' (.int 0) ∧ Fld Z h a "java/lang/AbstractStringBuilder" "value" "[B" (.ref r) ∧ Fld Z h a "java/lang/AbstractStringBuilder" "coder" "B" (.int 0) ∧ Fld Z h a "java/lang/AbstractStringBuilder" "count" "I" (.int (Int32.ofNat (n + ds.length)))) := by
  refine Ct.of_seg (a0 := a0) (plainFor_of_name pn_java_lang_AbstractStringBuilder) G.2.1 (ef_ct_appG a s ds b kb vs n cs) ?_
  refine Seg.start fun hZ0 => ?_
  have f1 := F.exa
  have lds : ds.length ≤ 4000 := by obtain ⟨_, _, _, _, _, _, _, _, _, _, _, q⟩ := F; exact q
  refine Seg.aloadN d33_0 rfl rfl (pc' := 1) rfl ?_
  refine Seg.nonnY (pc' := 9) d33_1 (by decide) (by decide) ?_
  refine Seg.aloadN d33_9 rfl rfl (pc' := 10) rfl ?_
  refine Seg.callV (y' := (⟨"java/lang/String", "length", "()I"⟩ : MethodName)) (z := (⟨"java/lang/String", "length", "()I"⟩ : MethodName)) (a := s) (wd G 179 rfl) (wd G 79 rfl) (nf_sel (wd G 81 rfl)) (wd G 81 rfl) (wd G 80 rfl) ⟨by decide, by decide⟩ f1 (pays_len (W := 0) G h0 F (by decide) (by decide)) (argsL := []) (rest := []) rfl (lenOf pd_0 rfl) rfl (Nat.le_of_eq rfl) rfl d33_10 (pc' := 13) rfl (k' := 0) (n' := 0) rfl rfl (by decide) (by decide) ?_
  intro v_1 h_4 sz_2 q_3
  obtain ⟨rfl, rfl⟩ := q_3
  refine Seg.istoreN (L' := #[.val (.ref a), .val (.ref s), .val (.int (Int32.ofNat ds.length))]) d33_13 rfl (pc' := 14) rfl ?_
  refine Seg.aloadN d33_14 rfl rfl (pc' := 15) rfl ?_
  refine Seg.aloadN d33_15 rfl rfl (pc' := 16) rfl ?_
  refine Seg.getF (host := "") (Or.inl (wd G 180 rfl)) Via.refl F2 d33_16 (pc' := 19) rfl ?_
  refine Seg.iloadN d33_19 rfl (pc' := 20) rfl ?_
  refine Seg.iadd (v := (Int32.ofNat (n + ds.length))) d33_20 (n32add _ _) (pc' := 21) rfl ?_
  refine Seg.callPr (y' := (⟨"java/lang/AbstractStringBuilder", "ensureCapacityInternal", "(I)V"⟩ : MethodName)) (a := a) (wd G 182 rfl) (wd G 183 rfl) (sel_self (wd G 185 rfl) (wd G 184 rfl) (wd G 183 rfl) ⟨by decide, by decide⟩) (wd G 184 rfl) (wd G 186 rfl) ⟨by decide, by decide⟩ A (Pays.of_ct (W := 0) (ct_ensG G a b kb vs (n + ds.length) (.int (Int32.ofNat n)) h0 A F0 F1 F2 Kb hv h1 h2) (allS (List.mem_of_getElem? (i := 0) rfl) all0) (wd G 186 rfl) (wd G 160 rfl) (by decide) (by decide) rfl rfl) (argsL := [(.int (Int32.ofNat (n + ds.length)))]) (rest := []) rfl (lenOf pd_5 rfl) rfl (Nat.le_of_eq rfl) rfl d33_21 (pc' := 24) rfl (k' := 1) (n' := 34) rfl rfl (by decide) (by decide) ?_
  intro v_5 h_8 sz_6 q_7
  obtain ⟨rfl, r, kr, K0, g0, A0, G0, G1, G2⟩ := q_7
  have l_r := A0.lt
  refine Seg.adopt A0 (fun _ => Nat.le_trans hZ0.1 g0) (litw G 34 (by decide)) ?_
  have nra : r ≠ a := Nat.ne_of_gt (Nat.lt_of_lt_of_le A.lt g0)
  have hz := app_zero hv h3 hcs
  have Fs := Fk _ K0
  refine Seg.aloadN d33_24 rfl rfl (pc' := 25) rfl ?_
  refine Seg.aloadN d33_25 rfl rfl (pc' := 26) rfl ?_
  refine Seg.getF (host := "") (Or.inl (wd G 180 rfl)) Via.refl G2 d33_26 (pc' := 29) rfl ?_
  refine Seg.aloadN d33_29 rfl rfl (pc' := 30) rfl ?_
  have F_9 := (A.keep K0)
  refine Seg.callPr (y' := (⟨"java/lang/AbstractStringBuilder", "putStringAt", "(ILjava/lang/String;)V"⟩ : MethodName)) (a := a) (wd G 187 rfl) (wd G 188 rfl) (sel_self (wd G 190 rfl) (wd G 189 rfl) (wd G 188 rfl) ⟨by decide, by decide⟩) (wd G 189 rfl) (wd G 191 rfl) ⟨by decide, by decide⟩ F_9 (Pays.of_ct (W := 0) (ct_puts G a s ds r kr 34 (vs ++ List.replicate 18 (.int 0)) n h_8 F_9 G0 G1 Fs hc A0 hz.1 (by omega) (by decide)) (allS (List.mem_of_getElem? (i := 0) rfl) all0) (wd G 191 rfl) (wd G 160 rfl) (by decide) (by decide) rfl rfl) (argsL := [(.int (Int32.ofNat n)), (.ref s)]) (rest := []) rfl (lenOf pd_13 rfl) rfl (Nat.le_of_eq rfl) rfl d33_30 (pc' := 33) rfl (k' := 1) (n' := 34) rfl rfl (by decide) (by decide) ?_
  intro v_10 h_13 sz_11 q_12
  obtain ⟨rfl, K1, A1⟩ := q_12
  refine Seg.aloadN d33_33 rfl rfl (pc' := 34) rfl ?_
  refine Seg.dup d33_34 rfl (pc' := 35) rfl ?_
  have F_14 := (G2.keep K1 (ninS nra.symm nin0))
  refine Seg.getF (host := "") (Or.inl (wd G 180 rfl)) Via.refl F_14 d33_35 (pc' := 38) rfl ?_
  refine Seg.iloadN d33_38 rfl (pc' := 39) rfl ?_
  refine Seg.iadd (v := (Int32.ofNat (n + ds.length))) d33_39 (n32add _ _) (pc' := 40) rfl ?_
  have F_15 := (F_9.keep K1)
  refine Seg.putF (host := "") (ty := .int) (v' := (.int (Int32.ofNat (n + ds.length)))) (wd G 180 rfl) Via.refl F_14 F_15 (Or.inl (wd G 181 rfl)) (wd G 151 rfl) (by decide) rfl rfl (List.mem_of_getElem? (i := 1) rfl) d33_40 (pc' := 43) rfl ?_
  intro h_18 W_16 F_17
  refine Seg.aloadN d33_43 rfl rfl (pc' := 44) rfl ?_
  have F_19 := (A1.keep (Keep.of_wr W_16) (ninS nra nin0))
  have F_20 := ((G0.keep K1 (ninS nra.symm nin0)).other W_16 (Or.inr (slot_ne (Or.inl (wd G 165 rfl)) (Or.inl (wd G 181 rfl)) (by decide) (t := (.array .byte)) (t' := .int) (by decide) (by decide))))
  have F_21 := ((G1.keep K1 (ninS nra.symm nin0)).other W_16 (Or.inr (slot_ne (Or.inl (wd G 167 rfl)) (Or.inl (wd G 181 rfl)) (by decide) (t := .byte) (t' := .int) (by decide) (by decide))))
  exact Seg.retA rfl rfl rfl d33_44 (by decide) (by decide) ⟨rfl, ((((Keep.refl h0 [a]).trans K0 (allS (Or.inl (List.mem_of_getElem? (i := 0) rfl)) all0)).trans K1 (allS (Or.inr (Nat.le_trans (ext_rfl _).1 g0)) all0)).wr W_16 (Or.inl (List.mem_of_getElem? (i := 0) rfl))), r, kr, _, g0, (app_take hz.1 (by omega) hz.2).1, (app_take hz.1 (by omega) hz.2).2, F_19, F_20, F_21, F_17⟩
theorem d32_0 : decode jdk_67_method_7_code 0 = .ok (.aload_n 0, 1) := by decide +kernel
theorem d32_1 : decode jdk_67_method_7_code 1 = .ok (.aload_n 1, 1) := by decide +kernel
theorem d32_2 : decode jdk_67_method_7_code 2 = .ok (.invokespecial 29, 3) := by decide +kernel
theorem pd_14 : parseMethodDescriptor "(Ljava/lang/String;)Ljava/lang/AbstractStringBuilder;" = some ⟨[(.object "java/lang/String")], some (.object "java/lang/AbstractStringBuilder")⟩ := by decide +kernel
theorem d32_5 : decode jdk_67_method_7_code 5 = .ok (.pop, 1) := by decide +kernel
theorem d32_6 : decode jdk_67_method_7_code 6 = .ok (.aload_n 0, 1) := by decide +kernel
theorem d32_7 : decode jdk_67_method_7_code 7 = .ok (.areturn, 1) := by decide +kernel
theorem ef_ct_sapp (a : Addr) (s : Addr) (ds : List Int32) (b : Addr) (kb : ClassId) (cap : Nat) (vs : List Value) (n : Nat) (cs : List Int32) (m : MethodId) : entryFrame m #[(.ref a), (.ref s)] 2 = mkF m 0 #[.val (.ref a), .val (.ref s)] [] := by first | (simp [entryFrame, mkF, argsToLocals, Value.category]; done) | rfl
set_option maxRecDepth 65536 in
set_option maxHeartbeats 4000000 in
theorem ct_sapp {l : Launch} {Z : State} {a0 : Array Value} (G : Env1 Z a0) (a : Addr) (s : Addr) (ds : List Int32) (b : Addr) (kb : ClassId) (cap : Nat) (vs : List Value) (n : Nat) (cs : List Int32) (h0 : Heap) (A : Exa Z h0 a "java/lang/StringBuilder") (F0 : Fld Z h0 a "java/lang/AbstractStringBuilder" "value" "[B" (.ref b)) (F1 : Fld Z h0 a "java/lang/AbstractStringBuilder" "coder" "B" (.int 0)) (F2 : Fld Z h0 a "java/lang/AbstractStringBuilder" "count" "I" (.int (Int32.ofNat n))) (F : Str Z h0 s ds) (hc : ∀ c ∈ ds, ¬ c < 0 ∧ ¬ (255 : Int32) < c) (Kb : Arv Z h0 b kb .byte (Int32.ofNat cap) vs (.int 0)) (hv : vs.length = cap) (hn : n + ds.length ≤ cap) (hcap : cap ≤ 100) (hcs : vs.take n = cs.map (fun c => Value.int c.toInt8.toInt32)) (hne : a ≠ b) :
    Ct l Z EL1 [a, b] [] (⟨"java/lang/StringBuilder", "append", "(Ljava/lang/String;)Ljava/lang/StringBuilder;"⟩ : MethodName) jdk_67_method_7_code 2 (some (.object "java/lang/StringBuilder")) ({ frames := 4, cells := 0, slots := 0, locals := 61 } : Room) #[(.ref a), (.ref s)] h0 (fun v h => v = some (.ref a) ∧ Keep h0 h [a, b] ∧ ∃ vs' : List Value, vs'.length = cap ∧ vs'.take (n + ds.length) = (cs ++ ds).map (fun c => Value.int c.toInt8.toInt32) ∧ Arv Z h b kb .byte (Int32.ofNat cap) vs' (.int 0) ∧ Fld Z h a "java/lang/AbstractStringBuilder" "value" "[B" (.ref b) ∧ Fld Z h a "java/lang/AbstractStringBuilder" "coder" "B" (.int 0) ∧ Fld Z h a "java/lang/AbstractStringBuilder" "count" "I" (.int (Int32.ofNat (n + ds.length)))) := by
  refine Ct.of_seg (a0 := a0) (plainFor_of_name pn_java_lang_StringBuilder) G.2.1 (ef_ct_sapp a s ds b kb cap vs n cs) ?_
  refine Seg.aloadN d32_0 rfl rfl (pc' := 1) rfl ?_
  refine Seg.aloadN d32_1 rfl rfl (pc' := 2) rfl ?_
  refine Seg.callSup (y' := (⟨"java/lang/AbstractStringBuilder", "append", "(Ljava/lang/String;)Ljava/lang/AbstractStringBuilder;"⟩ : MethodName)) (a := a) (wd G 174 rfl) (same_of (wd G 175 rfl) (wd G 185 rfl) rfl ⟨by decide, by decide⟩) (wd G 175 rfl) (wd G 176 rfl) (by decide) (wd G 178 rfl) (Ins.self A) (Pays.of_ct (W := 0) (ct_app G a s ds b kb cap vs n cs h0 A F0 F1 F2 F hc Kb hv hn hcap hcs hne) (allS (List.mem_of_getElem? (i := 0) rfl) (allS (List.mem_of_getElem? (i := 1) rfl) all0)) (wd G 178 rfl) (wd G 160 rfl) (by decide) (by decide) rfl rfl) (argsL := [(.ref s)]) (rest := []) rfl (lenOf pd_14 rfl) rfl (Nat.le_of_eq rfl) rfl d32_2 (pc' := 5) rfl (k' := 0) (n' := 0) rfl rfl (by decide) (by decide) ?_
  intro v_1 h_4 sz_2 q_3
  obtain ⟨rfl, K1, vs', u1, u2, A1, G0, G1, G2⟩ := q_3
  refine Seg.pop d32_5 rfl (pc' := 6) rfl ?_
  refine Seg.aloadN d32_6 rfl rfl (pc' := 7) rfl ?_
  exact Seg.retA rfl rfl rfl d32_7 (by decide) (by decide) ⟨rfl, K1, vs', u1, u2, A1, G0, G1, G2⟩
theorem ef_ct_sappG (a : Addr) (s : Addr) (ds : List Int32) (b : Addr) (kb : ClassId) (vs : List Value) (n : Nat) (cs : List Int32) (m : MethodId) : entryFrame m #[(.ref a), (.ref s)] 2 = mkF m 0 #[.val (.ref a), .val (.ref s)] [] := by first | (simp [entryFrame, mkF, argsToLocals, Value.category]; done) | rfl
set_option maxRecDepth 65536 in
set_option maxHeartbeats 4000000 in
theorem ct_sappG {l : Launch} {Z : State} {a0 : Array Value} (G : Env1 Z a0) (a : Addr) (s : Addr) (ds : List Int32) (b : Addr) (kb : ClassId) (vs : List Value) (n : Nat) (cs : List Int32) (h0 : Heap) (A : Exa Z h0 a "java/lang/StringBuilder") (F0 : Fld Z h0 a "java/lang/AbstractStringBuilder" "value" "[B" (.ref b)) (F1 : Fld Z h0 a "java/lang/AbstractStringBuilder" "coder" "B" (.int 0)) (F2 : Fld Z h0 a "java/lang/AbstractStringBuilder" "count" "I" (.int (Int32.ofNat n))) (F : Str Z h0 s ds) (hc : ∀ c ∈ ds, ¬ c < 0 ∧ ¬ (255 : Int32) < c) (Kb : Arv Z h0 b kb .byte 16 vs (.int 0)) (hv : vs.length = 16) (h1 : 16 < n + ds.length) (h2 : n + ds.length < 34) (h3 : n ≤ 16) (hcs : vs.take n = cs.map (fun c => Value.int c.toInt8.toInt32)) (Fk : ∀ h1, Keep h0 h1 [a] → Str Z h1 s ds) :
    Ct l Z EL1 [a] [] (⟨"java/lang/StringBuilder", "append", "(Ljava/lang/String;)Ljava/lang/StringBuilder;"⟩ : MethodName) jdk_67_method_7_code 2 (some (.object "java/lang/StringBuilder")) ({ frames := 5, cells := 1, slots := 34, locals := 76 } : Room) #[(.ref a), (.ref s)] h0 (fun v h => v = some (.ref a) ∧ Keep h0 h [a] ∧ ∃ (r : Addr) (kr : ClassId) (vs' : List Value), h0.size ≤ r ∧ vs'.length = 34 ∧ vs'.take (n + ds.length) = (cs ++ ds).map (fun c => Value.int c.toInt8.toInt32) ∧ Arv Z h r kr .byte 34 vs' (.int 0) ∧ Fld Z h a "java/lang/AbstractStringBuilder" "value" "[B" (.ref r) ∧ Fld Z h a "java/lang/AbstractStringBuilder" "coder" "B" (.int 0) ∧ Fld Z h a "java/lang/AbstractStringBuilder" "count" "I" (.int (Int32.ofNat (n + ds.length)))) := by
  refine Ct.of_seg (a0 := a0) (plainFor_of_name pn_java_lang_StringBuilder) G.2.1 (ef_ct_sappG a s ds b kb vs n cs) ?_
  refine Seg.aloadN d32_0 rfl rfl (pc' := 1) rfl ?_
  refine Seg.aloadN d32_1 rfl rfl (pc' := 2) rfl ?_
  refine Seg.callSup (y' := (⟨"java/lang/AbstractStringBuilder", "append", "(Ljava/lang/String;)Ljava/lang/AbstractStringBuilder;"⟩ : MethodName)) (a := a) (wd G 174 rfl) (same_of (wd G 175 rfl) (wd G 185 rfl) rfl ⟨by decide, by decide⟩) (wd G 175 rfl) (wd G 176 rfl) (by decide) (wd G 178 rfl) (Ins.self A) (Pays.of_ct (W := 0) (ct_appG G a s ds b kb vs n cs h0 A F0 F1 F2 F hc Kb hv h1 h2 h3 hcs Fk) (allS (List.mem_of_getElem? (i := 0) rfl) all0) (wd G 178 rfl) (wd G 160 rfl) (by decide) (by decide) rfl rfl) (argsL := [(.ref s)]) (rest := []) rfl (lenOf pd_14 rfl) rfl (Nat.le_of_eq rfl) rfl d32_2 (pc' := 5) rfl (k' := 1) (n' := 34) rfl rfl (by decide) (by decide) ?_
  intro v_1 h_4 sz_2 q_3
  obtain ⟨rfl, K1, r, kr, vs', g1, u1, u2, A1, G0, G1, G2⟩ := q_3
  refine Seg.pop d32_5 rfl (pc' := 6) rfl ?_
  refine Seg.aloadN d32_6 rfl rfl (pc' := 7) rfl ?_
  exact Seg.retA rfl rfl rfl d32_7 (by decide) (by decide) ⟨rfl, K1, r, kr, vs', g1, u1, u2, A1, G0, G1, G2⟩
theorem d48_0 : decode jdk_68_method_6_code 0 = .ok (.aload_n 0, 1) := by decide +kernel
theorem d48_1 : decode jdk_68_method_6_code 1 = .ok (.getfield 79, 3) := by decide +kernel
theorem d48_4 : decode jdk_68_method_6_code 4 = .ok (.ireturn, 1) := by decide +kernel
theorem ef_ct_asbl (a : Addr) (u : Int32) (m : MethodId) : entryFrame m #[(.ref a)] 1 = mkF m 0 #[.val (.ref a)] [] := by first | (simp [entryFrame, mkF, argsToLocals, Value.category]; done) | rfl
set_option maxRecDepth 65536 in
set_option maxHeartbeats 4000000 in
theorem ct_asbl {l : Launch} {Z : State} {a0 : Array Value} (G : Env1 Z a0) (a : Addr) (u : Int32) (h0 : Heap) (F2 : Fld Z h0 a "java/lang/AbstractStringBuilder" "count" "I" (.int u)) :
    Ct l Z EL1 [] [] (⟨"java/lang/AbstractStringBuilder", "length", "()I"⟩ : MethodName) jdk_68_method_6_code 1 (some .int) ({ frames := 0, cells := 0, slots := 0, locals := 0 } : Room) #[(.ref a)] h0 (fun v h => v = some (.int u) ∧ h0 = h) := by
  refine Ct.of_seg (a0 := a0) (plainFor_of_name pn_java_lang_AbstractStringBuilder) G.2.1 (ef_ct_asbl a u) ?_
  refine Seg.aloadN d48_0 rfl rfl (pc' := 1) rfl ?_
  refine Seg.getF (host := "") (Or.inl (wd G 180 rfl)) Via.refl F2 d48_1 (pc' := 4) rfl ?_
  exact Seg.retI rfl d48_4 (by decide) (by decide) ⟨rfl, rfl⟩
theorem d47_0 : decode jdk_67_method_93_code 0 = .ok (.aload_n 0, 1) := by decide +kernel
theorem d47_1 : decode jdk_67_method_93_code 1 = .ok (.invokespecial 343, 3) := by decide +kernel
theorem d47_4 : decode jdk_67_method_93_code 4 = .ok (.ireturn, 1) := by decide +kernel
theorem ef_ct_sbl (a : Addr) (u : Int32) (m : MethodId) : entryFrame m #[(.ref a)] 1 = mkF m 0 #[.val (.ref a)] [] := by first | (simp [entryFrame, mkF, argsToLocals, Value.category]; done) | rfl
set_option maxRecDepth 65536 in
set_option maxHeartbeats 4000000 in
theorem ct_sbl {l : Launch} {Z : State} {a0 : Array Value} (G : Env1 Z a0) (a : Addr) (u : Int32) (h0 : Heap) (A : Exa Z h0 a "java/lang/StringBuilder") (F2 : Fld Z h0 a "java/lang/AbstractStringBuilder" "count" "I" (.int u)) :
    Ct l Z EL1 [] [] (⟨"java/lang/StringBuilder", "length", "()I"⟩ : MethodName) jdk_67_method_93_code 1 (some .int) ({ frames := 1, cells := 0, slots := 0, locals := 12 } : Room) #[(.ref a)] h0 (fun v h => v = some (.int u) ∧ h0 = h) := by
  refine Ct.of_seg (a0 := a0) (plainFor_of_name pn_java_lang_StringBuilder) G.2.1 (ef_ct_sbl a u) ?_
  refine Seg.aloadN d47_0 rfl rfl (pc' := 1) rfl ?_
  refine Seg.callSup (y' := (⟨"java/lang/AbstractStringBuilder", "length", "()I"⟩ : MethodName)) (a := a) (wd G 256 rfl) (same_of (wd G 252 rfl) (wd G 185 rfl) rfl ⟨by decide, by decide⟩) (wd G 252 rfl) (wd G 176 rfl) (by decide) (wd G 257 rfl) (Ins.self A) (Pays.of_ct (W := 0) (ct_asbl G a u h0 F2) all0 (wd G 257 rfl) (wd G 160 rfl) (by decide) (by decide) rfl rfl) (argsL := []) (rest := []) rfl (lenOf pd_0 rfl) rfl (Nat.le_of_eq rfl) rfl d47_1 (pc' := 4) rfl (k' := 0) (n' := 0) rfl rfl (by decide) (by decide) ?_
  intro v_1 h_4 sz_2 q_3
  obtain ⟨rfl, rfl⟩ := q_3
  exact Seg.retI rfl d47_4 (by decide) (by decide) ⟨rfl, rfl⟩
theorem d46_0 : decode jdk_68_method_64_code 0 = .ok (.aload_n 0, 1) := by decide +kernel
theorem d46_1 : decode jdk_68_method_64_code 1 = .ok (.getfield 15, 3) := by decide +kernel
theorem d46_4 : decode jdk_68_method_64_code 4 = .ok (.areturn, 1) := by decide +kernel
theorem ef_ct_gv (a : Addr) (b : Addr) (m : MethodId) : entryFrame m #[(.ref a)] 1 = mkF m 0 #[.val (.ref a)] [] := by first | (simp [entryFrame, mkF, argsToLocals, Value.category]; done) | rfl
set_option maxRecDepth 65536 in
set_option maxHeartbeats 4000000 in
theorem ct_gv {l : Launch} {Z : State} {a0 : Array Value} (G : Env1 Z a0) (a : Addr) (b : Addr) (h0 : Heap) (F0 : Fld Z h0 a "java/lang/AbstractStringBuilder" "value" "[B" (.ref b)) :
    Ct l Z EL1 [] [] (⟨"java/lang/AbstractStringBuilder", "getValue", "()[B"⟩ : MethodName) jdk_68_method_64_code 1 (some (.array .byte)) ({ frames := 0, cells := 0, slots := 0, locals := 0 } : Room) #[(.ref a)] h0 (fun v h => v = some (.ref b) ∧ h0 = h) := by
  refine Ct.of_seg (a0 := a0) (plainFor_of_name pn_java_lang_AbstractStringBuilder) G.2.1 (ef_ct_gv a b) ?_
  refine Seg.aloadN d46_0 rfl rfl (pc' := 1) rfl ?_
  refine Seg.getF (host := "") (Or.inl (wd G 164 rfl)) Via.refl F0 d46_1 (pc' := 4) rfl ?_
  exact Seg.retA rfl rfl rfl d46_4 (by decide) (by decide) ⟨rfl, rfl⟩
theorem d49_0 : decode jdk_68_method_68_code 0 = .ok (.getstatic 18, 3) := by decide +kernel
theorem d49_3 : decode jdk_68_method_68_code 3 = .ok (.ifCond .eq 14, 3) := by decide +kernel
theorem d49_6 : decode jdk_68_method_68_code 6 = .ok (.aload_n 0, 1) := by decide +kernel
theorem d49_7 : decode jdk_68_method_68_code 7 = .ok (.getfield 22, 3) := by decide +kernel
theorem d49_10 : decode jdk_68_method_68_code 10 = .ok (.ifCond .ne 7, 3) := by decide +kernel
theorem d49_13 : decode jdk_68_method_68_code 13 = .ok (.iconst 1, 1) := by decide +kernel
theorem d49_14 : decode jdk_68_method_68_code 14 = .ok (.goto 4, 3) := by decide +kernel
theorem d49_18 : decode jdk_68_method_68_code 18 = .ok (.ireturn, 1) := by decide +kernel
theorem ef_ct_asbil (a : Addr) (m : MethodId) : entryFrame m #[(.ref a)] 1 = mkF m 0 #[.val (.ref a)] [] := by first | (simp [entryFrame, mkF, argsToLocals, Value.category]; done) | rfl
set_option maxRecDepth 65536 in
set_option maxHeartbeats 4000000 in
theorem ct_asbil {l : Launch} {Z : State} {a0 : Array Value} (G : Env1 Z a0) (a : Addr) (h0 : Heap) (F1 : Fld Z h0 a "java/lang/AbstractStringBuilder" "coder" "B" (.int 0)) :
    Ct l Z EL1 [] [] (⟨"java/lang/AbstractStringBuilder", "isLatin1", "()Z"⟩ : MethodName) jdk_68_method_68_code 1 (some .boolean) ({ frames := 0, cells := 0, slots := 0, locals := 0 } : Room) #[(.ref a)] h0 (fun v h => v = some (.int 1) ∧ h0 = h) := by
  refine Ct.of_seg (a0 := a0) (plainFor_of_name pn_java_lang_AbstractStringBuilder) G.2.1 (ef_ct_asbil a) ?_
  obtain ⟨zc, Sc, hz⟩ := G.2.2.1
  refine Seg.getS (wd G 163 rfl) Via.refl Sc d49_0 (pc' := 3) rfl ?_
  refine Seg.ifN d49_3 (XT.i0_eq_f hz) (pc' := 6) rfl ?_
  refine Seg.aloadN d49_6 rfl rfl (pc' := 7) rfl ?_
  refine Seg.getF (host := "") (Or.inl (wd G 166 rfl)) Via.refl F1 d49_7 (pc' := 10) rfl ?_
  refine Seg.ifN d49_10 (by decide) (pc' := 13) rfl ?_
  refine Seg.iconst (v := 1) d49_13 (by decide) (pc' := 14) rfl ?_
  refine Seg.goto (pc' := 18) d49_14 (by decide) (by decide) ?_
  exact Seg.retN (t := .boolean) (w := (1 : Int32)) rfl (by decide) (by decide) d49_18 (by decide) (by decide) ⟨rfl, rfl⟩
theorem d52_0 : decode jdk_65_method_131_code 0 = .ok (.iload_n 1, 1) := by decide +kernel
theorem d52_1 : decode jdk_65_method_131_code 1 = .ok (.iload_n 0, 1) := by decide +kernel
theorem d52_2 : decode jdk_65_method_131_code 2 = .ok (.if_icmp .ge 35, 3) := by decide +kernel
theorem d52_37 : decode jdk_65_method_131_code 37 = .ok (.return_, 1) := by decide +kernel
theorem ef_ct_cl (e : Nat) (m : MethodId) : entryFrame m #[(.int (0 : Int32)), (.int (Int32.ofNat e))] 2 = mkF m 0 #[.val (.int (0 : Int32)), .val (.int (Int32.ofNat e))] [] := by first | (simp [entryFrame, mkF, argsToLocals, Value.category]; done) | rfl
set_option maxRecDepth 65536 in
set_option maxHeartbeats 4000000 in
theorem ct_cl {l : Launch} {Z : State} {a0 : Array Value} (G : Env1 Z a0) (e : Nat) (h0 : Heap) (hn : e ≤ 100) :
    Ct l Z EL1 [] [] (⟨"java/util/Arrays", "checkLength", "(II)V"⟩ : MethodName) jdk_65_method_131_code 2 none ({ frames := 0, cells := 0, slots := 0, locals := 0 } : Room) #[(.int (0 : Int32)), (.int (Int32.ofNat e))] h0 (fun v h => v = none ∧ h0 = h) := by
  refine Ct.of_seg (a0 := a0) (plainFor_of_name pn_java_util_Arrays) G.2.1 (ef_ct_cl e) ?_
  refine Seg.iloadN d52_0 rfl (pc' := 1) rfl ?_
  refine Seg.iloadN d52_1 rfl (pc' := 2) rfl ?_
  refine Seg.icY (pc' := 37) d52_2 (XT.ii_ge_t (n32nn (by omega))) (by decide) (by decide) ?_
  exact Seg.ret0 rfl d52_37 (by decide) (by decide) ⟨rfl, rfl⟩
theorem d42_9 : decode jdk_29_method_69_code 9 = .ok (.iload_n 1, 1) := by decide +kernel
theorem ef_ct_minE (e : Nat) (cap : Nat) (m : MethodId) : entryFrame m #[(.int (Int32.ofNat cap)), (.int (Int32.ofNat e))] 2 = mkF m 0 #[.val (.int (Int32.ofNat cap)), .val (.int (Int32.ofNat e))] [] := by first | (simp [entryFrame, mkF, argsToLocals, Value.category]; done) | rfl
set_option maxRecDepth 65536 in
set_option maxHeartbeats 4000000 in
theorem ct_minE {l : Launch} {Z : State} {a0 : Array Value} (G : Env1 Z a0) (e : Nat) (cap : Nat) (h0 : Heap) (he : e < cap) (hcap : cap ≤ 100) :
    Ct l Z EL1 [] [] (⟨"java/lang/Math", "min", "(II)I"⟩ : MethodName) jdk_29_method_69_code 2 (some .int) ({ frames := 0, cells := 0, slots := 0, locals := 0 } : Room) #[(.int (Int32.ofNat cap)), (.int (Int32.ofNat e))] h0 (fun v h => v = some (.int (Int32.ofNat e)) ∧ h0 = h) := by
  refine Ct.of_seg (a0 := a0) pf_java_lang_Math_min__II_I G.2.1 (ef_ct_minE e cap) ?_
  refine Seg.iloadN d42_0 rfl (pc' := 1) rfl ?_
  refine Seg.iloadN d42_1 rfl (pc' := 2) rfl ?_
  refine Seg.icY (pc' := 9) d42_2 (XT.ii_gt_t (n32lt he (by omega))) (by decide) (by decide) ?_
  refine Seg.iloadN d42_9 rfl (pc' := 10) rfl ?_
  exact Seg.retI rfl d42_10 (by decide) (by decide) ⟨rfl, rfl⟩
theorem d51_0 : decode jdk_65_method_133_code 0 = .ok (.iload_n 1, 1) := by decide +kernel
theorem d51_1 : decode jdk_65_method_133_code 1 = .ok (.iload_n 2, 1) := by decide +kernel
theorem d51_2 : decode jdk_65_method_133_code 2 = .ok (.invokestatic 343, 3) := by decide +kernel
theorem pd_15 : parseMethodDescriptor "(II)V" = some ⟨[.int, .int], none⟩ := by decide +kernel
theorem d51_5 : decode jdk_65_method_133_code 5 = .ok (.iload_n 2, 1) := by decide +kernel
theorem d51_6 : decode jdk_65_method_133_code 6 = .ok (.iload_n 1, 1) := by decide +kernel
theorem d51_7 : decode jdk_65_method_133_code 7 = .ok (.isub, 1) := by decide +kernel
theorem d51_8 : decode jdk_65_method_133_code 8 = .ok (.istore_n 3, 1) := by decide +kernel
theorem d51_9 : decode jdk_65_method_133_code 9 = .ok (.iload_n 3, 1) := by decide +kernel
theorem d51_10 : decode jdk_65_method_133_code 10 = .ok (.newarray .byte, 2) := by decide +kernel
theorem d51_12 : decode jdk_65_method_133_code 12 = .ok (.astore 4, 2) := by decide +kernel
theorem d51_14 : decode jdk_65_method_133_code 14 = .ok (.aload_n 0, 1) := by decide +kernel
theorem d51_15 : decode jdk_65_method_133_code 15 = .ok (.iload_n 1, 1) := by decide +kernel
theorem d51_16 : decode jdk_65_method_133_code 16 = .ok (.aload 4, 2) := by decide +kernel
theorem d51_18 : decode jdk_65_method_133_code 18 = .ok (.iconst 0, 1) := by decide +kernel
theorem d51_19 : decode jdk_65_method_133_code 19 = .ok (.aload_n 0, 1) := by decide +kernel
theorem d51_20 : decode jdk_65_method_133_code 20 = .ok (.arraylength, 1) := by decide +kernel
theorem d51_21 : decode jdk_65_method_133_code 21 = .ok (.iload_n 1, 1) := by decide +kernel
theorem d51_22 : decode jdk_65_method_133_code 22 = .ok (.isub, 1) := by decide +kernel
theorem d51_23 : decode jdk_65_method_133_code 23 = .ok (.iload_n 3, 1) := by decide +kernel
theorem d51_24 : decode jdk_65_method_133_code 24 = .ok (.invokestatic 304, 3) := by decide +kernel
theorem d51_27 : decode jdk_65_method_133_code 27 = .ok (.invokestatic 150, 3) := by decide +kernel
theorem d51_30 : decode jdk_65_method_133_code 30 = .ok (.aload 4, 2) := by decide +kernel
theorem d51_32 : decode jdk_65_method_133_code 32 = .ok (.areturn, 1) := by decide +kernel
theorem ef_ct_corb (b : Addr) (kb : ClassId) (cap : Nat) (vs : List Value) (e : Nat) (m : MethodId) : entryFrame m #[(.ref b), (.int (0 : Int32)), (.int (Int32.ofNat e))] 5 = mkF m 0 #[.val (.ref b), .val (.int (0 : Int32)), .val (.int (Int32.ofNat e)), .unset, .unset] [] := by first | (simp [entryFrame, mkF, argsToLocals, Value.category]; done) | rfl
set_option maxRecDepth 65536 in
set_option maxHeartbeats 4000000 in
theorem ct_corb {l : Launch} {Z : State} {a0 : Array Value} (G : Env1 Z a0) (b : Addr) (kb : ClassId) (cap : Nat) (vs : List Value) (e : Nat) (h0 : Heap) (Kb : Arv Z h0 b kb .byte (Int32.ofNat cap) vs (.int 0)) (hv : vs.length = cap) (he : e < cap) (hcap : cap ≤ 100) :
    Ct l Z EL1 [] [] (⟨"java/util/Arrays", "copyOfRangeByte", "([BII)[B"⟩ : MethodName) jdk_65_method_133_code 5 (some (.array .byte)) ({ frames := 1, cells := 1, slots := 100, locals := 18 } : Room) #[(.ref b), (.int (0 : Int32)), (.int (Int32.ofNat e))] h0 (fun v h => ∃ (r : Addr) (kr : ClassId), v = some (.ref r) ∧ Ext h0 h ∧ h0.size ≤ r ∧ Arv Z h r kr .byte (Int32.ofNat e) (vs.take e) (.int 0)) := by
  refine Ct.of_seg (a0 := a0) (plainFor_of_name pn_java_util_Arrays) G.2.1 (ef_ct_corb b kb cap vs e) ?_
  refine Seg.iloadN d51_0 rfl (pc' := 1) rfl ?_
  refine Seg.iloadN d51_1 rfl (pc' := 2) rfl ?_
  refine Seg.callS (y' := (⟨"java/util/Arrays", "checkLength", "(II)V"⟩ : MethodName)) (wd G 269 rfl) (wd G 270 rfl) (wd G 226 rfl) (wd G 271 rfl) ⟨by decide, by decide⟩ (Pays.of_ct (W := 0) (ct_cl G e h0 (by omega)) all0 (wd G 271 rfl) (wd G 226 rfl) (by decide) (by decide) rfl rfl) (argsL := [(.int (0 : Int32)), (.int (Int32.ofNat e))]) (rest := []) rfl (lenOf pd_15 rfl) rfl (Nat.le_of_eq rfl) rfl d51_2 (pc' := 5) rfl (k' := 0) (n' := 0) rfl rfl (by decide) (by decide) ?_
  intro v_1 h_4 sz_2 q_3
  obtain ⟨rfl, rfl⟩ := q_3
  refine Seg.iloadN d51_5 rfl (pc' := 6) rfl ?_
  refine Seg.iloadN d51_6 rfl (pc' := 7) rfl ?_
  refine Seg.isub (v := (Int32.ofNat e)) d51_7 (n32z _) (pc' := 8) rfl ?_
  refine Seg.istoreN (L' := #[.val (.ref b), .val (.int (0 : Int32)), .val (.int (Int32.ofNat e)), .val (.int (Int32.ofNat e)), .unset]) d51_8 rfl (pc' := 9) rfl ?_
  refine Seg.iloadN d51_9 rfl (pc' := 10) rfl ?_
  refine Seg.newP (ty := .byte) (dv := (.int 0)) rfl rfl (wd G 30 rfl) d51_10 (pc' := 12) rfl (n32nn (by omega)) (cap := 100) (by rw [n32c (by omega)]; omega) (by decide) (k' := 1) (n' := 100) rfl rfl (by decide) (by decide) ?_
  intro b_5 h_7 k_b_5 E_6 e_b_5 l_b_5 A_b_5
  replace A_b_5 := A_b_5.pad (pad_rep [] (.int 0) e)
  refine Seg.astore (L' := #[.val (.ref b), .val (.int (0 : Int32)), .val (.int (Int32.ofNat e)), .val (.int (Int32.ofNat e)), .val (.ref b_5)]) d51_12 rfl rfl (pc' := 14) rfl ?_
  refine Seg.aloadN d51_14 rfl rfl (pc' := 15) rfl ?_
  refine Seg.iloadN d51_15 rfl (pc' := 16) rfl ?_
  refine Seg.aload d51_16 rfl rfl (pc' := 18) rfl ?_
  refine Seg.iconst (v := 0) d51_18 (by decide) (pc' := 19) rfl ?_
  refine Seg.aloadN d51_19 rfl rfl (pc' := 20) rfl ?_
  have F_8 := Kb.ext E_6
  refine Seg.alen F_8 d51_20 (pc' := 21) rfl ?_
  refine Seg.iloadN d51_21 rfl (pc' := 22) rfl ?_
  refine Seg.isub (v := (Int32.ofNat cap)) d51_22 (n32z _) (pc' := 23) rfl ?_
  refine Seg.iloadN d51_23 rfl (pc' := 24) rfl ?_
  refine Seg.callS (y' := (⟨"java/lang/Math", "min", "(II)I"⟩ : MethodName)) (wd G 228 rfl) (wd G 229 rfl) (wd G 220 rfl) (wd G 230 rfl) ⟨by decide, by decide⟩ (Pays.of_ct (W := 4) (ct_minE G e cap h_7 he hcap) all0 (wd G 230 rfl) (wd G 220 rfl) (by decide) (by decide) rfl rfl) (argsL := [(.int (Int32.ofNat cap)), (.int (Int32.ofNat e))]) (rest := [(.int (0 : Int32)), (.ref b_5), (.int (0 : Int32)), (.ref b)]) rfl (lenOf pd_9 rfl) rfl (Nat.le_of_eq rfl) rfl d51_24 (pc' := 27) rfl (k' := 1) (n' := 100) rfl rfl (by decide) (by decide) ?_
  intro v_9 h_12 sz_10 q_11
  obtain ⟨rfl, rfl⟩ := q_11
  refine Seg.cpA (us := (vs.take e)) (vr := (vs.take e)) (wd G 231 rfl) (wd G 206 rfl) (wd G 204 rfl) (wd G 205 rfl) F_8 A_b_5 (Or.inl ⟨rfl, rfl⟩) (by decide) (by decide) (n32nn (by omega)) (by rw [n32c (by omega), n32c (by omega)]; show 0 + e ≤ _; omega) (by rw [n32c (by omega)]; show 0 + e ≤ _; omega) (range_takeV vs e _ (by omega) (by omega)) (by rw [n32c (by omega)]; show 0 + e ≤ ([] ++ List.replicate e _).length; simp) (take_all _ _ e (by simp) (by omega)) (List.mem_of_getElem? (i := 0) rfl) rfl d51_27 (pc' := 30) rfl (by decide) (W := 0) (Nat.le_of_eq rfl) (by decide) ?_
  intro h_15 K_13 A_14
  refine Seg.aload d51_30 rfl rfl (pc' := 32) rfl ?_
  have E_16 : Ext h0 h_15 := ext_kp E_6 K_13 (allS (Nat.le_trans (ext_rfl _).1 (Nat.le_of_eq e_b_5)) all0)
  exact Seg.retA rfl rfl rfl d51_32 (by decide) (by decide) ⟨b_5, k_b_5, rfl, E_16, (Nat.le_trans (ext_rfl _).1 (Nat.le_of_eq e_b_5)), A_14⟩
theorem d50_0 : decode jdk_65_method_132_code 0 = .ok (.iload_n 1, 1) := by decide +kernel
theorem d50_1 : decode jdk_65_method_132_code 1 = .ok (.ifCond .ne 9, 3) := by decide +kernel
theorem d50_4 : decode jdk_65_method_132_code 4 = .ok (.iload_n 2, 1) := by decide +kernel
theorem d50_5 : decode jdk_65_method_132_code 5 = .ok (.aload_n 0, 1) := by decide +kernel
theorem d50_6 : decode jdk_65_method_132_code 6 = .ok (.arraylength, 1) := by decide +kernel
theorem d50_7 : decode jdk_65_method_132_code 7 = .ok (.if_icmp .eq 10, 3) := by decide +kernel
theorem d50_10 : decode jdk_65_method_132_code 10 = .ok (.aload_n 0, 1) := by decide +kernel
theorem d50_11 : decode jdk_65_method_132_code 11 = .ok (.iload_n 1, 1) := by decide +kernel
theorem d50_12 : decode jdk_65_method_132_code 12 = .ok (.iload_n 2, 1) := by decide +kernel
theorem d50_13 : decode jdk_65_method_132_code 13 = .ok (.invokestatic 339, 3) := by decide +kernel
theorem pd_16 : parseMethodDescriptor "([BII)[B" = some ⟨[(.array .byte), .int, .int], some (.array .byte)⟩ := by decide +kernel
theorem d50_16 : decode jdk_65_method_132_code 16 = .ok (.areturn, 1) := by decide +kernel
theorem ef_ct_cor (b : Addr) (kb : ClassId) (cap : Nat) (vs : List Value) (e : Nat) (m : MethodId) : entryFrame m #[(.ref b), (.int (0 : Int32)), (.int (Int32.ofNat e))] 3 = mkF m 0 #[.val (.ref b), .val (.int (0 : Int32)), .val (.int (Int32.ofNat e))] [] := by first | (simp [entryFrame, mkF, argsToLocals, Value.category]; done) | rfl
set_option maxRecDepth 65536 in
set_option maxHeartbeats 4000000 in
theorem ct_cor {l : Launch} {Z : State} {a0 : Array Value} (G : Env1 Z a0) (b : Addr) (kb : ClassId) (cap : Nat) (vs : List Value) (e : Nat) (h0 : Heap) (Kb : Arv Z h0 b kb .byte (Int32.ofNat cap) vs (.int 0)) (hv : vs.length = cap) (he : e < cap) (hcap : cap ≤ 100) :
    Ct l Z EL1 [] [] (⟨"java/util/Arrays", "copyOfRange", "([BII)[B"⟩ : MethodName) jdk_65_method_132_code 3 (some (.array .byte)) ({ frames := 2, cells := 1, slots := 100, locals := 34 } : Room) #[(.ref b), (.int (0 : Int32)), (.int (Int32.ofNat e))] h0 (fun v h => ∃ (r : Addr) (kr : ClassId), v = some (.ref r) ∧ Ext h0 h ∧ h0.size ≤ r ∧ Arv Z h r kr .byte (Int32.ofNat e) (vs.take e) (.int 0)) := by
  refine Ct.of_seg (a0 := a0) (plainFor_of_name pn_java_util_Arrays) G.2.1 (ef_ct_cor b kb cap vs e) ?_
  refine Seg.iloadN d50_0 rfl (pc' := 1) rfl ?_
  refine Seg.ifN d50_1 (by decide) (pc' := 4) rfl ?_
  refine Seg.iloadN d50_4 rfl (pc' := 5) rfl ?_
  refine Seg.aloadN d50_5 rfl rfl (pc' := 6) rfl ?_
  refine Seg.alen Kb d50_6 (pc' := 7) rfl ?_
  refine Seg.icN d50_7 (XT.ii_eq_f fun q => absurd (n32eq (by omega) (by omega) q) (by omega)) (pc' := 10) rfl ?_
  refine Seg.aloadN d50_10 rfl rfl (pc' := 11) rfl ?_
  refine Seg.iloadN d50_11 rfl (pc' := 12) rfl ?_
  refine Seg.iloadN d50_12 rfl (pc' := 13) rfl ?_
  refine Seg.callS (y' := (⟨"java/util/Arrays", "copyOfRangeByte", "([BII)[B"⟩ : MethodName)) (wd G 266 rfl) (wd G 267 rfl) (wd G 226 rfl) (wd G 268 rfl) ⟨by decide, by decide⟩ (Pays.of_ct (W := 0) (ct_corb G b kb cap vs e h0 Kb hv he hcap) all0 (wd G 268 rfl) (wd G 226 rfl) (by decide) (by decide) rfl rfl) (argsL := [(.ref b), (.int (0 : Int32)), (.int (Int32.ofNat e))]) (rest := []) rfl (lenOf pd_16 rfl) rfl (Nat.le_of_eq rfl) rfl d50_13 (pc' := 16) rfl (k' := 1) (n' := 100) rfl rfl (by decide) (by decide) ?_
  intro v_1 h_4 sz_2 q_3
  obtain ⟨r, kr, rfl, E1, g1, A1⟩ := q_3
  exact Seg.retA rfl rfl rfl d50_16 (by decide) (by decide) ⟨r, kr, rfl, E1, g1, A1⟩
theorem d45_0 : decode jdk_42_method_150_code 0 = .ok (.aload_n 0, 1) := by decide +kernel
theorem d45_1 : decode jdk_42_method_150_code 1 = .ok (.invokespecial 1, 3) := by decide +kernel
theorem d45_4 : decode jdk_42_method_150_code 4 = .ok (.aload_n 1, 1) := by decide +kernel
theorem d45_5 : decode jdk_42_method_150_code 5 = .ok (.invokevirtual 552, 3) := by decide +kernel
theorem pd_17 : parseMethodDescriptor "()[B" = some ⟨[], some (.array .byte)⟩ := by decide +kernel
theorem d45_8 : decode jdk_42_method_150_code 8 = .ok (.astore_n 3, 1) := by decide +kernel
theorem d45_9 : decode jdk_42_method_150_code 9 = .ok (.aload_n 1, 1) := by decide +kernel
theorem d45_10 : decode jdk_42_method_150_code 10 = .ok (.invokevirtual 549, 3) := by decide +kernel
theorem d45_13 : decode jdk_42_method_150_code 13 = .ok (.istore 4, 2) := by decide +kernel
theorem d45_15 : decode jdk_42_method_150_code 15 = .ok (.aload_n 1, 1) := by decide +kernel
theorem d45_16 : decode jdk_42_method_150_code 16 = .ok (.invokevirtual 1047, 3) := by decide +kernel
theorem d45_19 : decode jdk_42_method_150_code 19 = .ok (.ifCond .eq 22, 3) := by decide +kernel
theorem d45_22 : decode jdk_42_method_150_code 22 = .ok (.aload_n 0, 1) := by decide +kernel
theorem d45_23 : decode jdk_42_method_150_code 23 = .ok (.iconst 0, 1) := by decide +kernel
theorem d45_24 : decode jdk_42_method_150_code 24 = .ok (.putfield 15, 3) := by decide +kernel
theorem d45_27 : decode jdk_42_method_150_code 27 = .ok (.aload_n 0, 1) := by decide +kernel
theorem d45_28 : decode jdk_42_method_150_code 28 = .ok (.aload_n 3, 1) := by decide +kernel
theorem d45_29 : decode jdk_42_method_150_code 29 = .ok (.iconst 0, 1) := by decide +kernel
theorem d45_30 : decode jdk_42_method_150_code 30 = .ok (.iload 4, 2) := by decide +kernel
theorem d45_32 : decode jdk_42_method_150_code 32 = .ok (.invokestatic 54, 3) := by decide +kernel
theorem d45_35 : decode jdk_42_method_150_code 35 = .ok (.putfield 9, 3) := by decide +kernel
theorem d45_38 : decode jdk_42_method_150_code 38 = .ok (.goto 59, 3) := by decide +kernel
theorem d45_97 : decode jdk_42_method_150_code 97 = .ok (.return_, 1) := by decide +kernel
theorem ef_ct_sias (x : Addr) (a : Addr) (v0 : Value) (c0 : Value) (b : Addr) (kb : ClassId) (cap : Nat) (vs : List Value) (e : Nat) (m : MethodId) : entryFrame m #[(.ref x), (.ref a), Value.null] 5 = mkF m 0 #[.val (.ref x), .val (.ref a), .val Value.null, .unset, .unset] [] := by first | (simp [entryFrame, mkF, argsToLocals, Value.category]; done) | rfl
set_option maxRecDepth 65536 in
set_option maxHeartbeats 4000000 in
theorem ct_sias {l : Launch} {Z : State} {a0 : Array Value} (G : Env1 Z a0) (x : Addr) (a : Addr) (v0 : Value) (c0 : Value) (b : Addr) (kb : ClassId) (cap : Nat) (vs : List Value) (e : Nat) (h0 : Heap) (B : Exa Z h0 x STN) (V0 : Fld Z h0 x STN "value" "[B" v0) (V1 : Fld Z h0 x STN "coder" "B" c0) (A : Exa Z h0 a "java/lang/StringBuilder") (F0 : Fld Z h0 a "java/lang/AbstractStringBuilder" "value" "[B" (.ref b)) (F1 : Fld Z h0 a "java/lang/AbstractStringBuilder" "coder" "B" (.int 0)) (F2 : Fld Z h0 a "java/lang/AbstractStringBuilder" "count" "I" (.int (Int32.ofNat e))) (Kb : Arv Z h0 b kb .byte (Int32.ofNat cap) vs (.int 0)) (hv : vs.length = cap) (he : e < cap) (hcap : cap ≤ 100) (nax : a ≠ x) (nbx : b ≠ x) :
    Ct l Z EL1 [x] [] (⟨"java/lang/String", "<init>", "(Ljava/lang/AbstractStringBuilder;Ljava/lang/Void;)V"⟩ : MethodName) jdk_42_method_150_code 5 none ({ frames := 3, cells := 1, slots := 100, locals := 49 } : Room) #[(.ref x), (.ref a), Value.null] h0 (fun v h => v = none ∧ Keep h0 h [x] ∧ ∃ (r : Addr) (kr : ClassId), Arv Z h r kr .byte (Int32.ofNat e) (vs.take e) (.int 0) ∧ Fld Z h x STN "value" "[B" (.ref r) ∧ Fld Z h x STN "coder" "B" (.int 0)) := by
  refine Ct.of_seg (a0 := a0) (plainFor_of_name pn_java_lang_String) G.2.1 (ef_ct_sias x a v0 c0 b kb cap vs e) ?_
  refine Seg.aloadN d45_0 rfl rfl (pc' := 1) rfl ?_
  refine Seg.initO (wd G 22 rfl) (wd G 23 rfl) (wd G 24 rfl) rfl d45_1 (pc' := 4) rfl (by decide) (W := 0) (Nat.le_of_eq rfl) (by decide) ?_
  refine Seg.aloadN d45_4 rfl rfl (pc' := 5) rfl ?_
  refine Seg.callV (y' := (⟨"java/lang/AbstractStringBuilder", "getValue", "()[B"⟩ : MethodName)) (z := (⟨"java/lang/AbstractStringBuilder", "getValue", "()[B"⟩ : MethodName)) (a := a) (wd G 245 rfl) (wd G 246 rfl) (nf_sel (wd G 248 rfl)) (wd G 248 rfl) (wd G 247 rfl) ⟨by decide, by decide⟩ A (Pays.of_ct (W := 0) (ct_gv G a b h0 F0) all0 (wd G 249 rfl) (wd G 160 rfl) (by decide) (by decide) rfl rfl) (argsL := []) (rest := []) rfl (lenOf pd_17 rfl) rfl (Nat.le_of_eq rfl) rfl d45_5 (pc' := 8) rfl (k' := 0) (n' := 0) rfl rfl (by decide) (by decide) ?_
  intro v_1 h_4 sz_2 q_3
  obtain ⟨rfl, rfl⟩ := q_3
  refine Seg.astoreN (L' := #[.val (.ref x), .val (.ref a), .val Value.null, .val (.ref b), .unset]) d45_8 rfl rfl (pc' := 9) rfl ?_
  refine Seg.aloadN d45_9 rfl rfl (pc' := 10) rfl ?_
  refine Seg.callV (y' := (⟨"java/lang/AbstractStringBuilder", "length", "()I"⟩ : MethodName)) (z := (⟨"java/lang/StringBuilder", "length", "()I"⟩ : MethodName)) (a := a) (wd G 250 rfl) (wd G 251 rfl) (nf_cls (wd G 185 rfl) rfl) (wd G 253 rfl) (wd G 254 rfl) ⟨by decide, by decide⟩ A (Pays.of_ct (W := 0) (ct_sbl G a (Int32.ofNat e) h0 A F2) all0 (wd G 255 rfl) (wd G 152 rfl) (by decide) (by decide) rfl rfl) (argsL := []) (rest := []) rfl (lenOf pd_0 rfl) rfl (Nat.le_of_eq rfl) rfl d45_10 (pc' := 13) rfl (k' := 0) (n' := 0) rfl rfl (by decide) (by decide) ?_
  intro v_5 h_8 sz_6 q_7
  obtain ⟨rfl, rfl⟩ := q_7
  refine Seg.istore (L' := #[.val (.ref x), .val (.ref a), .val Value.null, .val (.ref b), .val (.int (Int32.ofNat e))]) d45_13 rfl (pc' := 15) rfl ?_
  refine Seg.aloadN d45_15 rfl rfl (pc' := 16) rfl ?_
  refine Seg.callV (y' := (⟨"java/lang/AbstractStringBuilder", "isLatin1", "()Z"⟩ : MethodName)) (z := (⟨"java/lang/AbstractStringBuilder", "isLatin1", "()Z"⟩ : MethodName)) (a := a) (wd G 258 rfl) (wd G 259 rfl) (nf_sel (wd G 261 rfl)) (wd G 261 rfl) (wd G 260 rfl) ⟨by decide, by decide⟩ A (Pays.of_ct (W := 0) (ct_asbil G a h0 F1) all0 (wd G 262 rfl) (wd G 160 rfl) (by decide) (by decide) rfl rfl) (argsL := []) (rest := []) rfl (lenOf pd_2 rfl) rfl (Nat.le_of_eq rfl) rfl d45_16 (pc' := 19) rfl (k' := 0) (n' := 0) rfl rfl (by decide) (by decide) ?_
  intro v_9 h_12 sz_10 q_11
  obtain ⟨rfl, rfl⟩ := q_11
  refine Seg.ifN d45_19 (by decide) (pc' := 22) rfl ?_
  refine Seg.aloadN d45_22 rfl rfl (pc' := 23) rfl ?_
  refine Seg.iconst (v := 0) d45_23 (by decide) (pc' := 24) rfl ?_
  refine Seg.putF (host := "") (ty := .byte) (v' := (.int (0 : Int32))) (wd G 37 rfl) Via.refl V1 B (Or.inr ⟨(wd G 38 rfl), rfl, rfl⟩) (wd G 12 rfl) (by decide) rfl rfl (List.mem_of_getElem? (i := 0) rfl) d45_24 (pc' := 27) rfl ?_
  intro h_15 W_13 F_14
  refine Seg.aloadN d45_27 rfl rfl (pc' := 28) rfl ?_
  refine Seg.aloadN d45_28 rfl rfl (pc' := 29) rfl ?_
  refine Seg.iconst (v := 0) d45_29 (by decide) (pc' := 30) rfl ?_
  refine Seg.iload d45_30 rfl (pc' := 32) rfl ?_
  have F_16 := (Kb.keep (Keep.of_wr W_13) (ninS nbx nin0))
  refine Seg.callS (y' := (⟨"java/util/Arrays", "copyOfRange", "([BII)[B"⟩ : MethodName)) (wd G 263 rfl) (wd G 264 rfl) (wd G 226 rfl) (wd G 265 rfl) ⟨by decide, by decide⟩ (Pays.of_ct (W := 1) (ct_cor G b kb cap vs e h_15 F_16 hv he hcap) all0 (wd G 265 rfl) (wd G 226 rfl) (by decide) (by decide) rfl rfl) (argsL := [(.ref b), (.int (0 : Int32)), (.int (Int32.ofNat e))]) (rest := [(.ref x)]) rfl (lenOf pd_16 rfl) rfl (Nat.le_of_eq rfl) rfl d45_32 (pc' := 35) rfl (k' := 1) (n' := 100) rfl rfl (by decide) (by decide) ?_
  intro v_17 h_20 sz_18 q_19
  obtain ⟨r, kr, rfl, E1, g1, A1⟩ := q_19
  have nrx : r ≠ x := Nat.ne_of_gt (Nat.lt_of_lt_of_le B.lt (Nat.le_trans (Nat.le_of_eq (Wr.size W_13).symm) g1))
  have F_21 := ((V0.other W_13 (Or.inr (slot_ne (Or.inr (wd G 40 rfl)) (Or.inr (wd G 38 rfl)) (by decide) (t := (.array .byte)) (t' := .byte) (by decide) (by decide)))).ext E1)
  have F_22 := ((B.wr W_13).ext E1)
  refine Seg.putF (host := "") (ty := (.array .byte)) (v' := (.ref r)) (wd G 39 rfl) Via.refl F_21 F_22 (Or.inr ⟨(wd G 40 rfl), rfl, rfl⟩) (wd G 12 rfl) (by decide) rfl rfl (List.mem_of_getElem? (i := 0) rfl) d45_35 (pc' := 38) rfl ?_
  intro h_25 W_23 F_24
  refine Seg.goto (pc' := 97) d45_38 (by decide) (by decide) ?_
  have F_26 := (A1.keep (Keep.of_wr W_23) (ninS nrx nin0))
  have F_27 := ((F_14.ext E1).other W_23 (Or.inr (slot_ne (Or.inr (wd G 38 rfl)) (Or.inr (wd G 40 rfl)) (by decide) (t := .byte) (t' := (.array .byte)) (by decide) (by decide))))
  exact Seg.ret0 rfl d45_97 (by decide) (by decide) ⟨rfl, ((((Keep.refl h0 [x]).wr W_13 (Or.inl (List.mem_of_getElem? (i := 0) rfl))).ext E1).wr W_23 (Or.inl (List.mem_of_getElem? (i := 0) rfl))), r, kr, F_26, F_24, F_27⟩
theorem d44_0 : decode jdk_42_method_53_code 0 = .ok (.aload_n 0, 1) := by decide +kernel
theorem d44_1 : decode jdk_42_method_53_code 1 = .ok (.aload_n 1, 1) := by decide +kernel
theorem d44_2 : decode jdk_42_method_53_code 2 = .ok (.aconst_null, 1) := by decide +kernel
theorem d44_3 : decode jdk_42_method_53_code 3 = .ok (.invokespecial 489, 3) := by decide +kernel
theorem pd_18 : parseMethodDescriptor "(Ljava/lang/AbstractStringBuilder;Ljava/lang/Void;)V" = some ⟨[(.object "java/lang/AbstractStringBuilder"), (.object "java/lang/Void")], none⟩ := by decide +kernel
theorem d44_6 : decode jdk_42_method_53_code 6 = .ok (.return_, 1) := by decide +kernel
theorem ef_ct_sis (x : Addr) (a : Addr) (v0 : Value) (c0 : Value) (b : Addr) (kb : ClassId) (cap : Nat) (vs : List Value) (e : Nat) (m : MethodId) : entryFrame m #[(.ref x), (.ref a)] 2 = mkF m 0 #[.val (.ref x), .val (.ref a)] [] := by first | (simp [entryFrame, mkF, argsToLocals, Value.category]; done) | rfl
set_option maxRecDepth 65536 in
set_option maxHeartbeats 4000000 in
theorem ct_sis {l : Launch} {Z : State} {a0 : Array Value} (G : Env1 Z a0) (x : Addr) (a : Addr) (v0 : Value) (c0 : Value) (b : Addr) (kb : ClassId) (cap : Nat) (vs : List Value) (e : Nat) (h0 : Heap) (B : Exa Z h0 x STN) (V0 : Fld Z h0 x STN "value" "[B" v0) (V1 : Fld Z h0 x STN "coder" "B" c0) (A : Exa Z h0 a "java/lang/StringBuilder") (F0 : Fld Z h0 a "java/lang/AbstractStringBuilder" "value" "[B" (.ref b)) (F1 : Fld Z h0 a "java/lang/AbstractStringBuilder" "coder" "B" (.int 0)) (F2 : Fld Z h0 a "java/lang/AbstractStringBuilder" "count" "I" (.int (Int32.ofNat e))) (Kb : Arv Z h0 b kb .byte (Int32.ofNat cap) vs (.int 0)) (hv : vs.length = cap) (he : e < cap) (hcap : cap ≤ 100) (nax : a ≠ x) (nbx : b ≠ x) :
    Ct l Z EL1 [x] [] (⟨"java/lang/String", "<init>", "(Ljava/lang/StringBuilder;)V"⟩ : MethodName) jdk_42_method_53_code 2 none ({ frames := 4, cells := 1, slots := 100, locals := 65 } : Room) #[(.ref x), (.ref a)] h0 (fun v h => v = none ∧ Keep h0 h [x] ∧ ∃ (r : Addr) (kr : ClassId), Arv Z h r kr .byte (Int32.ofNat e) (vs.take e) (.int 0) ∧ Fld Z h x STN "value" "[B" (.ref r) ∧ Fld Z h x STN "coder" "B" (.int 0)) := by
  refine Ct.of_seg (a0 := a0) (plainFor_of_name pn_java_lang_String) G.2.1 (ef_ct_sis x a v0 c0 b kb cap vs e) ?_
  refine Seg.aloadN d44_0 rfl rfl (pc' := 1) rfl ?_
  refine Seg.aloadN d44_1 rfl rfl (pc' := 2) rfl ?_
  refine Seg.anull d44_2 (pc' := 3) rfl ?_
  refine Seg.callN (y' := (⟨"java/lang/String", "<init>", "(Ljava/lang/AbstractStringBuilder;Ljava/lang/Void;)V"⟩ : MethodName)) (a := x) rfl (wd G 242 rfl) (wd G 243 rfl) (wd G 244 rfl) ⟨by decide, by decide⟩ (Pays.of_ct (W := 0) (ct_sias G x a v0 c0 b kb cap vs e h0 B V0 V1 A F0 F1 F2 Kb hv he hcap nax nbx) (allS (List.mem_of_getElem? (i := 0) rfl) all0) (wd G 244 rfl) (wd G 13 rfl) (by decide) (by decide) rfl rfl) (argsL := [(.ref a), Value.null]) (rest := []) rfl (lenOf pd_18 rfl) rfl (Nat.le_of_eq rfl) rfl d44_3 (pc' := 6) rfl (k' := 1) (n' := 100) rfl rfl (by decide) (by decide) ?_
  intro v_1 h_4 sz_2 q_3
  obtain ⟨rfl, K1, r, kr, A1, G0, G1⟩ := q_3
  exact Seg.ret0 rfl d44_6 (by decide) (by decide) ⟨rfl, K1, r, kr, A1, G0, G1⟩
theorem d43_0 : decode jdk_67_method_42_code 0 = .ok (.new 18, 3) := by decide +kernel
theorem d43_3 : decode jdk_67_method_42_code 3 = .ok (.dup, 1) := by decide +kernel
theorem d43_4 : decode jdk_67_method_42_code 4 = .ok (.aload_n 0, 1) := by decide +kernel
theorem d43_5 : decode jdk_67_method_42_code 5 = .ok (.invokespecial 137, 3) := by decide +kernel
theorem pd_19 : parseMethodDescriptor "(Ljava/lang/StringBuilder;)V" = some ⟨[(.object "java/lang/StringBuilder")], none⟩ := by decide +kernel
theorem d43_8 : decode jdk_67_method_42_code 8 = .ok (.areturn, 1) := by decide +kernel
theorem ef_ct_sbts (a : Addr) (b : Addr) (kb : ClassId) (cap : Nat) (vs : List Value) (e : Nat) (cs : List Int32) (m : MethodId) : entryFrame m #[(.ref a)] 1 = mkF m 0 #[.val (.ref a)] [] := by first | (simp [entryFrame, mkF, argsToLocals, Value.category]; done) | rfl
set_option maxRecDepth 65536 in
set_option maxHeartbeats 4000000 in
theorem ct_sbts {l : Launch} {Z : State} {a0 : Array Value} (G : Env1 Z a0) (a : Addr) (b : Addr) (kb : ClassId) (cap : Nat) (vs : List Value) (e : Nat) (cs : List Int32) (h0 : Heap) (A : Exa Z h0 a "java/lang/StringBuilder") (F0 : Fld Z h0 a "java/lang/AbstractStringBuilder" "value" "[B" (.ref b)) (F1 : Fld Z h0 a "java/lang/AbstractStringBuilder" "coder" "B" (.int 0)) (F2 : Fld Z h0 a "java/lang/AbstractStringBuilder" "count" "I" (.int (Int32.ofNat e))) (Kb : Arv Z h0 b kb .byte (Int32.ofNat cap) vs (.int 0)) (hv : vs.length = cap) (he : e < cap) (hcap : cap ≤ 100) (hcs : vs.take e = cs.map (fun c => Value.int c.toInt8.toInt32)) (hce : cs.length = e) (hc : ∀ c ∈ cs, ¬ c < 0 ∧ ¬ (255 : Int32) < c) :
    Ct l Z EL1 [] [] (⟨"java/lang/StringBuilder", "toString", "()Ljava/lang/String;"⟩ : MethodName) jdk_67_method_42_code 1 (some (.object "java/lang/String")) ({ frames := 5, cells := 2, slots := 104, locals := 79 } : Room) #[(.ref a)] h0 (fun v h => ∃ r, v = some (.ref r) ∧ Ext h0 h ∧ Str Z h r cs) := by
  refine Ct.of_seg (a0 := a0) (plainFor_of_name pn_java_lang_StringBuilder) G.2.1 (ef_ct_sbts a b kb cap vs e cs) ?_
  refine Seg.newO (wd G 238 rfl) (wd G 12 rfl) (wd G 13 rfl) d43_0 (pc' := 3) rfl (k' := 1) (n' := 4) rfl rfl (by decide) (by decide) ?_
  intro b_1 h_3 E_2 e_b_1 l_b_1 A_b_1 D_b_1
  have F_coder_b_1 : Fld Z h_3 b_1 "java/lang/String" "coder" "B" (.int (0 : Int32)) := D_b_1 (Or.inr (wd G 38 rfl)) (ty := .byte) (by decide)
  have F_value_b_1 : Fld Z h_3 b_1 "java/lang/String" "value" "[B" Value.null := D_b_1 (Or.inr (wd G 40 rfl)) (ty := (.array .byte)) (by decide)
  refine Seg.dup d43_3 rfl (pc' := 4) rfl ?_
  refine Seg.aloadN d43_4 rfl rfl (pc' := 5) rfl ?_
  have F_4 := A.ext E_2
  have F_5 := F0.ext E_2
  have F_6 := F1.ext E_2
  have F_7 := F2.ext E_2
  have F_8 := Kb.ext E_2
  refine Seg.callN (y' := (⟨"java/lang/String", "<init>", "(Ljava/lang/StringBuilder;)V"⟩ : MethodName)) (a := b_1) rfl (wd G 239 rfl) (wd G 240 rfl) (wd G 241 rfl) ⟨by decide, by decide⟩ (Pays.of_ct (W := 1) (ct_sis G b_1 a .null (.int 0) b kb cap vs e h_3 A_b_1 F_value_b_1 F_coder_b_1 F_4 F_5 F_6 F_7 F_8 hv he hcap (Nat.ne_of_lt (Nat.lt_of_lt_of_le A.lt (Nat.le_trans (ext_rfl _).1 (Nat.le_of_eq e_b_1)))) (Nat.ne_of_lt (Nat.lt_of_lt_of_le Kb.lt (Nat.le_trans (ext_rfl _).1 (Nat.le_of_eq e_b_1))))) (allS (List.mem_of_getElem? (i := 0) rfl) all0) (wd G 241 rfl) (wd G 13 rfl) (by decide) (by decide) rfl rfl) (argsL := [(.ref a)]) (rest := [(.ref b_1)]) rfl (lenOf pd_19 rfl) rfl (Nat.le_of_eq rfl) rfl d43_5 (pc' := 8) rfl (k' := 2) (n' := 104) rfl rfl (by decide) (by decide) ?_
  intro v_9 h_12 sz_10 q_11
  obtain ⟨rfl, K1, r, kr, A1, G0, G1⟩ := q_11
  have E_13 : Ext h0 h_12 := ext_kp E_2 K1 (allS (Nat.le_trans (ext_rfl _).1 (Nat.le_of_eq e_b_1)) all0)
  have F_14 := (A_b_1.keep K1)
  exact Seg.retA rfl rfl rfl d43_8 (by decide) (by decide) ⟨b_1, rfl, E_13, r, kr, 0, _, _, F_14, G0, G1, A1, Or.inl ⟨rfl, by rw [hce], hcs, fun c q => (hc c q).2⟩, le16 hc, (by omega)⟩
theorem d29_0 : decode prog_25_method_9_code 0 = .ok (.new 65, 3) := by decide +kernel
theorem d29_3 : decode prog_25_method_9_code 3 = .ok (.dup, 1) := by decide +kernel
theorem d29_4 : decode prog_25_method_9_code 4 = .ok (.invokespecial 67, 3) := by decide +kernel
theorem pd_20 : parseMethodDescriptor "()V" = some ⟨[], none⟩ := by decide +kernel
theorem d29_7 : decode prog_25_method_9_code 7 = .ok (.ldc 68, 2) := by decide +kernel
theorem d29_9 : decode prog_25_method_9_code 9 = .ok (.invokevirtual 70, 3) := by decide +kernel
theorem pd_21 : parseMethodDescriptor "(Ljava/lang/String;)Ljava/lang/StringBuilder;" = some ⟨[(.object "java/lang/String")], some (.object "java/lang/StringBuilder")⟩ := by decide +kernel
theorem d29_12 : decode prog_25_method_9_code 12 = .ok (.aload_n 0, 1) := by decide +kernel
theorem d29_13 : decode prog_25_method_9_code 13 = .ok (.getfield 32, 3) := by decide +kernel
theorem d29_16 : decode prog_25_method_9_code 16 = .ok (.invokevirtual 70, 3) := by decide +kernel
theorem d29_19 : decode prog_25_method_9_code 19 = .ok (.ldc 74, 2) := by decide +kernel
theorem d29_21 : decode prog_25_method_9_code 21 = .ok (.invokevirtual 70, 3) := by decide +kernel
theorem d29_24 : decode prog_25_method_9_code 24 = .ok (.aload_n 0, 1) := by decide +kernel
theorem d29_25 : decode prog_25_method_9_code 25 = .ok (.getfield 35, 3) := by decide +kernel
theorem d29_28 : decode prog_25_method_9_code 28 = .ok (.invokevirtual 70, 3) := by decide +kernel
theorem d29_31 : decode prog_25_method_9_code 31 = .ok (.ldc 76, 2) := by decide +kernel
theorem d29_33 : decode prog_25_method_9_code 33 = .ok (.invokevirtual 70, 3) := by decide +kernel
theorem d29_36 : decode prog_25_method_9_code 36 = .ok (.aload_n 0, 1) := by decide +kernel
theorem d29_37 : decode prog_25_method_9_code 37 = .ok (.getfield 38, 3) := by decide +kernel
theorem d29_40 : decode prog_25_method_9_code 40 = .ok (.invokevirtual 70, 3) := by decide +kernel
theorem d29_43 : decode prog_25_method_9_code 43 = .ok (.ldc 78, 2) := by decide +kernel
theorem d29_45 : decode prog_25_method_9_code 45 = .ok (.invokevirtual 70, 3) := by decide +kernel
theorem d29_48 : decode prog_25_method_9_code 48 = .ok (.invokevirtual 80, 3) := by decide +kernel
theorem pd_22 : parseMethodDescriptor "()Ljava/lang/String;" = some ⟨[], some (.object "java/lang/String")⟩ := by decide +kernel
theorem d29_51 : decode prog_25_method_9_code 51 = .ok (.areturn, 1) := by decide +kernel
theorem ef_ct_rts (r : Addr) (s1 : Addr) (s2 : Addr) (s3 : Addr) (c1 : List Int32) (c2 : List Int32) (c3 : List Int32) (m : MethodId) : entryFrame m #[(.ref r)] 1 = mkF m 0 #[.val (.ref r)] [] := by first | (simp [entryFrame, mkF, argsToLocals, Value.category]; done) | rfl
set_option maxRecDepth 65536 in
set_option maxHeartbeats 4000000 in
theorem ct_rts {l : Launch} {Z : State} {a0 : Array Value} (G : Env1 Z a0) (r : Addr) (s1 : Addr) (s2 : Addr) (s3 : Addr) (c1 : List Int32) (c2 : List Int32) (c3 : List Int32) (h0 : Heap) (R : Exa Z h0 r "com/example/kredential/kredential/Resource") (F0 : Fld Z h0 r "com/example/kredential/kredential/Resource" "type" "Ljava/lang/String;" (.ref s1)) (F1 : Fld Z h0 r "com/example/kredential/kredential/Resource" "id" "Ljava/lang/String;" (.ref s2)) (F2 : Fld Z h0 r "com/example/kredential/kredential/Resource" "owner" "Ljava/lang/String;" (.ref s3)) (T1 : Str Z h0 s1 c1) (T2 : Str Z h0 s2 c2) (T3 : Str Z h0 s3 c3) (h1 : ∀ c ∈ c1, ¬ c < 0 ∧ ¬ (255 : Int32) < c) (h2 : ∀ c ∈ c2, ¬ c < 0 ∧ ¬ (255 : Int32) < c) (h3 : ∀ c ∈ c3, ¬ c < 0 ∧ ¬ (255 : Int32) < c) (l1 : c1.length ≤ 2) (l2 : c2.length ≤ 2) (l3 : c3.length ≤ 2) :
    Ct l Z EL1 [] [] (⟨"com/example/kredential/kredential/Resource", "toString", "()Ljava/lang/String;"⟩ : MethodName) prog_25_method_9_code 1 (some (.object "java/lang/String")) ({ frames := 6, cells := 13, slots := 250, locals := 91 } : Room) #[(.ref r)] h0 (fun v h => ∃ z, v = some (.ref z) ∧ Ext h0 h ∧ Str Z h z ((((((([] ++ L1) ++ c1) ++ L2) ++ c2) ++ L3) ++ c3) ++ L4)) := by
  refine Ct.of_seg (a0 := a0) (plainFor_of_name pn_com_example_kredential_kredential_Resource) G.2.1 (ef_ct_rts r s1 s2 s3 c1 c2 c3) ?_
  refine Seg.start fun hZ0 => ?_
  have eL1 : L1.length = 9 := rfl
  have eL2 : L2.length = 1 := rfl
  have eL3 : L3.length = 8 := rfl
  have eL4 : L4.length = 1 := rfl
  refine Seg.newO (wd G 150 rfl) (wd G 151 rfl) (wd G 152 rfl) d29_0 (pc' := 3) rfl (k' := 1) (n' := 4) rfl rfl (by decide) (by decide) ?_
  intro b_1 h_3 E_2 e_b_1 l_b_1 A_b_1 D_b_1
  have F_value_b_1 : Fld Z h_3 b_1 "java/lang/AbstractStringBuilder" "value" "[B" Value.null := D_b_1 (Or.inl (wd G 165 rfl)) (ty := (.array .byte)) (by decide)
  have F_coder_b_1 : Fld Z h_3 b_1 "java/lang/AbstractStringBuilder" "coder" "B" (.int (0 : Int32)) := D_b_1 (Or.inl (wd G 167 rfl)) (ty := .byte) (by decide)
  have F_count_b_1 : Fld Z h_3 b_1 "java/lang/AbstractStringBuilder" "count" "I" (.int (0 : Int32)) := D_b_1 (Or.inl (wd G 181 rfl)) (ty := .int) (by decide)
  refine Seg.dup d29_3 rfl (pc' := 4) rfl ?_
  refine Seg.callN (y' := (⟨"java/lang/StringBuilder", "<init>", "()V"⟩ : MethodName)) (a := b_1) rfl (wd G 153 rfl) (wd G 154 rfl) (wd G 155 rfl) ⟨by decide, by decide⟩ (Pays.of_ct (W := 1) (ct_sbi G b_1 .null (.int 0) (.int 0) h_3 A_b_1 F_value_b_1 F_coder_b_1 F_count_b_1) (allS (List.mem_of_getElem? (i := 0) rfl) all0) (wd G 155 rfl) (wd G 152 rfl) (by decide) (by decide) rfl rfl) (argsL := []) (rest := [(.ref b_1)]) rfl (lenOf pd_20 rfl) rfl (Nat.le_of_eq rfl) rfl d29_4 (pc' := 7) rfl (k' := 2) (n' := 20) rfl rfl (by decide) (by decide) ?_
  intro v_4 h_7 sz_5 q_6
  obtain ⟨rfl, b, kb, K0, g0, A0, G0, G1, G2⟩ := q_6
  have l_b := A0.lt
  refine Seg.adopt A0 (fun _ => Nat.le_trans (Nat.le_trans hZ0.1 E_2.1) g0) (litw G 16 (by decide)) ?_
  refine Seg.ldcS (text := "Resource[") (vs := [(.int 82), (.int 101), (.int 115), (.int 111), (.int 117), (.int 114), (.int 99), (.int 101), (.int 91)]) (z := 9) (nn := 36) (wd G 168 rfl) (wS G) (by decide) (by decide +kernel) (by decide) (by decide) d29_7 (pc' := 9) rfl (by decide) (by decide) (k' := 4) (n' := 60) rfl rfl (by decide) (by decide) ?_
  intro a_8 h_17 b_9 kb_10 E_11 A_12 F_13 F_14 A_15 ne_16
  have F_L1 : Str Z h_17 a_8 L1 := ⟨b_9, kb_10, 0, 9, _, A_12, F_14, F_13, A_15, (Or.inl ⟨rfl, rfl, rfl, by decide⟩), le16 (by decide), (by decide)⟩
  have F_18 := ((A_b_1.keep K0).ext E_11)
  have F_19 := G0.ext E_11
  have F_20 := G1.ext E_11
  have F_21 := G2.ext E_11
  have F_22 := A0.ext E_11
  refine Seg.callV (y' := (⟨"java/lang/StringBuilder", "append", "(Ljava/lang/String;)Ljava/lang/StringBuilder;"⟩ : MethodName)) (z := (⟨"java/lang/StringBuilder", "append", "(Ljava/lang/String;)Ljava/lang/StringBuilder;"⟩ : MethodName)) (a := b_1) (wd G 169 rfl) (wd G 170 rfl) (nf_sel (wd G 172 rfl)) (wd G 172 rfl) (wd G 171 rfl) ⟨by decide, by decide⟩ F_18 (Pays.of_ct (W := 0) (ct_sapp G b_1 a_8 L1 b kb 16 (List.replicate 16 (.int 0)) 0 [] h_17 F_18 F_19 F_20 F_21 F_L1 all_L1 F_22 rfl (by omega) (by decide) rfl (Nat.ne_of_lt (Nat.lt_of_lt_of_le l_b_1 (Nat.le_trans (Nat.le_refl _) g0)))) (allS (List.mem_of_getElem? (i := 1) rfl) (allS (List.mem_of_getElem? (i := 0) rfl) all0)) (wd G 173 rfl) (wd G 152 rfl) (by decide) (by decide) rfl rfl) (argsL := [(.ref a_8)]) (rest := []) rfl (lenOf pd_21 rfl) rfl (Nat.le_of_eq rfl) rfl d29_9 (pc' := 12) rfl (k' := 4) (n' := 60) rfl rfl (by decide) (by decide) ?_
  intro v_23 h_26 sz_24 q_25
  obtain ⟨rfl, K1, vs1, u1, t1, A1, P01, P11, P21⟩ := q_25
  refine Seg.aloadN d29_12 rfl rfl (pc' := 13) rfl ?_
  have E_27 : Ext h0 h_7 := ext_kp E_2 K0 (allS (Nat.le_trans (ext_rfl _).1 (Nat.le_of_eq e_b_1)) all0)
  have E_28 : Ext h0 h_17 := ext_tr E_27 E_11
  have E_29 : Ext h0 h_26 := ext_kp E_28 K1 (allS (Nat.le_trans (ext_rfl _).1 (Nat.le_of_eq e_b_1)) (allS (Nat.le_trans E_2.1 g0) all0))
  have F_30 := F0.ext E_29
  refine Seg.getF (host := "") (Or.inl (wd G 139 rfl)) Via.refl F_30 d29_13 (pc' := 16) rfl ?_
  have F_31 := (F_18.keep K1)
  have F_32 := T1.ext E_29
  refine Seg.callV (y' := (⟨"java/lang/StringBuilder", "append", "(Ljava/lang/String;)Ljava/lang/StringBuilder;"⟩ : MethodName)) (z := (⟨"java/lang/StringBuilder", "append", "(Ljava/lang/String;)Ljava/lang/StringBuilder;"⟩ : MethodName)) (a := b_1) (wd G 169 rfl) (wd G 170 rfl) (nf_sel (wd G 172 rfl)) (wd G 172 rfl) (wd G 171 rfl) ⟨by decide, by decide⟩ F_31 (Pays.of_ct (W := 0) (ct_sapp G b_1 s1 c1 b kb 16 vs1 (0 + L1.length) ([] ++ L1) h_26 F_31 P01 P11 P21 F_32 h1 A1 u1 (by omega) (by decide) t1 (Nat.ne_of_lt (Nat.lt_of_lt_of_le l_b_1 (Nat.le_trans (Nat.le_refl _) g0)))) (allS (List.mem_of_getElem? (i := 1) rfl) (allS (List.mem_of_getElem? (i := 0) rfl) all0)) (wd G 173 rfl) (wd G 152 rfl) (by decide) (by decide) rfl rfl) (argsL := [(.ref s1)]) (rest := []) rfl (lenOf pd_21 rfl) rfl (Nat.le_of_eq rfl) rfl d29_16 (pc' := 19) rfl (k' := 4) (n' := 60) rfl rfl (by decide) (by decide) ?_
  intro v_33 h_36 sz_34 q_35
  obtain ⟨rfl, K2, vs2, u2, t2, A2, P02, P12, P22⟩ := q_35
  refine Seg.ldcS (text := "/") (vs := [(.int 47)]) (z := 1) (nn := 4) (wd G 207 rfl) (wS G) (by decide) (by decide +kernel) (by decide) (by decide) d29_19 (pc' := 21) rfl (by decide) (by decide) (k' := 6) (n' := 68) rfl rfl (by decide) (by decide) ?_
  intro a_37 h_46 b_38 kb_39 E_40 A_41 F_42 F_43 A_44 ne_45
  have F_L2 : Str Z h_46 a_37 L2 := ⟨b_38, kb_39, 0, 1, _, A_41, F_43, F_42, A_44, (Or.inl ⟨rfl, rfl, rfl, by decide⟩), le16 (by decide), (by decide)⟩
  have F_47 := ((F_31.keep K2).ext E_40)
  have F_48 := P02.ext E_40
  have F_49 := P12.ext E_40
  have F_50 := P22.ext E_40
  have F_51 := A2.ext E_40
  refine Seg.callV (y' := (⟨"java/lang/StringBuilder", "append", "(Ljava/lang/String;)Ljava/lang/StringBuilder;"⟩ : MethodName)) (z := (⟨"java/lang/StringBuilder", "append", "(Ljava/lang/String;)Ljava/lang/StringBuilder;"⟩ : MethodName)) (a := b_1) (wd G 169 rfl) (wd G 170 rfl) (nf_sel (wd G 172 rfl)) (wd G 172 rfl) (wd G 171 rfl) ⟨by decide, by decide⟩ F_47 (Pays.of_ct (W := 0) (ct_sapp G b_1 a_37 L2 b kb 16 vs2 ((0 + L1.length) + c1.length) (([] ++ L1) ++ c1) h_46 F_47 F_48 F_49 F_50 F_L2 all_L2 F_51 u2 (by omega) (by decide) t2 (Nat.ne_of_lt (Nat.lt_of_lt_of_le l_b_1 (Nat.le_trans (Nat.le_refl _) g0)))) (allS (List.mem_of_getElem? (i := 1) rfl) (allS (List.mem_of_getElem? (i := 0) rfl) all0)) (wd G 173 rfl) (wd G 152 rfl) (by decide) (by decide) rfl rfl) (argsL := [(.ref a_37)]) (rest := []) rfl (lenOf pd_21 rfl) rfl (Nat.le_of_eq rfl) rfl d29_21 (pc' := 24) rfl (k' := 6) (n' := 68) rfl rfl (by decide) (by decide) ?_
  intro v_52 h_55 sz_53 q_54
  obtain ⟨rfl, K3, vs3, u3, t3, A3, P03, P13, P23⟩ := q_54
  refine Seg.aloadN d29_24 rfl rfl (pc' := 25) rfl ?_
  have E_56 : Ext h0 h_36 := ext_kp E_29 K2 (allS (Nat.le_trans (ext_rfl _).1 (Nat.le_of_eq e_b_1)) (allS (Nat.le_trans E_2.1 g0) all0))
  have E_57 : Ext h0 h_46 := ext_tr E_56 E_40
  have E_58 : Ext h0 h_55 := ext_kp E_57 K3 (allS (Nat.le_trans (ext_rfl _).1 (Nat.le_of_eq e_b_1)) (allS (Nat.le_trans E_2.1 g0) all0))
  have F_59 := F1.ext E_58
  refine Seg.getF (host := "") (Or.inl (wd G 141 rfl)) Via.refl F_59 d29_25 (pc' := 28) rfl ?_
  have F_60 := (F_47.keep K3)
  have F_61 := T2.ext E_58
  refine Seg.callV (y' := (⟨"java/lang/StringBuilder", "append", "(Ljava/lang/String;)Ljava/lang/StringBuilder;"⟩ : MethodName)) (z := (⟨"java/lang/StringBuilder", "append", "(Ljava/lang/String;)Ljava/lang/StringBuilder;"⟩ : MethodName)) (a := b_1) (wd G 169 rfl) (wd G 170 rfl) (nf_sel (wd G 172 rfl)) (wd G 172 rfl) (wd G 171 rfl) ⟨by decide, by decide⟩ F_60 (Pays.of_ct (W := 0) (ct_sapp G b_1 s2 c2 b kb 16 vs3 (((0 + L1.length) + c1.length) + L2.length) ((([] ++ L1) ++ c1) ++ L2) h_55 F_60 P03 P13 P23 F_61 h2 A3 u3 (by omega) (by decide) t3 (Nat.ne_of_lt (Nat.lt_of_lt_of_le l_b_1 (Nat.le_trans (Nat.le_refl _) g0)))) (allS (List.mem_of_getElem? (i := 1) rfl) (allS (List.mem_of_getElem? (i := 0) rfl) all0)) (wd G 173 rfl) (wd G 152 rfl) (by decide) (by decide) rfl rfl) (argsL := [(.ref s2)]) (rest := []) rfl (lenOf pd_21 rfl) rfl (Nat.le_of_eq rfl) rfl d29_28 (pc' := 31) rfl (k' := 6) (n' := 68) rfl rfl (by decide) (by decide) ?_
  intro v_62 h_65 sz_63 q_64
  obtain ⟨rfl, K4, vs4, u4, t4, A4, P04, P14, P24⟩ := q_64
  refine Seg.ldcS (text := ", owner ") (vs := [(.int 44), (.int 32), (.int 111), (.int 119), (.int 110), (.int 101), (.int 114), (.int 32)]) (z := 8) (nn := 32) (wd G 208 rfl) (wS G) (by decide) (by decide +kernel) (by decide) (by decide) d29_31 (pc' := 33) rfl (by decide) (by decide) (k' := 8) (n' := 104) rfl rfl (by decide) (by decide) ?_
  intro a_66 h_75 b_67 kb_68 E_69 A_70 F_71 F_72 A_73 ne_74
  have F_L3 : Str Z h_75 a_66 L3 := ⟨b_67, kb_68, 0, 8, _, A_70, F_72, F_71, A_73, (Or.inl ⟨rfl, rfl, rfl, by decide⟩), le16 (by decide), (by decide)⟩
  have F_76 := ((F_60.keep K4).ext E_69)
  have F_77 := P04.ext E_69
  have F_78 := P14.ext E_69
  have F_79 := P24.ext E_69
  have F_80 := A4.ext E_69
  have Fk : ∀ h1, Keep h_75 h1 [b_1] → Str Z h1 a_66 L3 := fun h1 K => ⟨b_67, kb_68, 0, 8, _, A_70.keep K, F_72.keep K (ninS (ne_74 b_1 (List.mem_of_getElem? (i := 1) rfl)).1.symm nin0), F_71.keep K (ninS (ne_74 b_1 (List.mem_of_getElem? (i := 1) rfl)).1.symm nin0), A_73.keep K (ninS (ne_74 b_1 (List.mem_of_getElem? (i := 1) rfl)).2.symm nin0), (Or.inl ⟨rfl, rfl, rfl, by decide⟩), le16 (by decide), (by decide)⟩
  refine Seg.callV (y' := (⟨"java/lang/StringBuilder", "append", "(Ljava/lang/String;)Ljava/lang/StringBuilder;"⟩ : MethodName)) (z := (⟨"java/lang/StringBuilder", "append", "(Ljava/lang/String;)Ljava/lang/StringBuilder;"⟩ : MethodName)) (a := b_1) (wd G 169 rfl) (wd G 170 rfl) (nf_sel (wd G 172 rfl)) (wd G 172 rfl) (wd G 171 rfl) ⟨by decide, by decide⟩ F_76 (Pays.of_ct (W := 0) (ct_sappG G b_1 a_66 L3 b kb vs4 ((((0 + L1.length) + c1.length) + L2.length) + c2.length) (((([] ++ L1) ++ c1) ++ L2) ++ c2) h_75 F_76 F_77 F_78 F_79 F_L3 all_L3 F_80 u4 (by omega) (by omega) (by omega) t4 Fk) (allS (List.mem_of_getElem? (i := 1) rfl) all0) (wd G 173 rfl) (wd G 152 rfl) (by decide) (by decide) rfl rfl) (argsL := [(.ref a_66)]) (rest := []) rfl (lenOf pd_21 rfl) rfl (Nat.le_of_eq rfl) rfl d29_33 (pc' := 36) rfl (k' := 9) (n' := 138) rfl rfl (by decide) (by decide) ?_
  intro v_81 h_84 sz_82 q_83
  obtain ⟨rfl, K5, q, kq, vs5, gq, u5, t5, A5, P05, P15, P25⟩ := q_83
  have l_q := A5.lt
  refine Seg.adopt A5 (fun _ => Nat.le_trans (Nat.le_trans hZ0.1 (Nat.le_trans (Nat.le_trans (Nat.le_trans (Nat.le_trans (Nat.le_trans (Nat.le_trans (Nat.le_trans (Nat.le_trans E_2.1 K0.1) E_11.1) K1.1) K2.1) E_40.1) K3.1) K4.1) E_69.1)) gq) (litw G 34 (by decide)) ?_
  refine Seg.aloadN d29_36 rfl rfl (pc' := 37) rfl ?_
  have E_85 : Ext h0 h_65 := ext_kp E_58 K4 (allS (Nat.le_trans (ext_rfl _).1 (Nat.le_of_eq e_b_1)) (allS (Nat.le_trans E_2.1 g0) all0))
  have E_86 : Ext h0 h_75 := ext_tr E_85 E_69
  have E_87 : Ext h0 h_84 := ext_kp E_86 K5 (allS (Nat.le_trans (ext_rfl _).1 (Nat.le_of_eq e_b_1)) all0)
  have F_88 := F2.ext E_87
  refine Seg.getF (host := "") (Or.inl (wd G 143 rfl)) Via.refl F_88 d29_37 (pc' := 40) rfl ?_
  have F_89 := (F_76.keep K5)
  have F_90 := T3.ext E_87
  refine Seg.callV (y' := (⟨"java/lang/StringBuilder", "append", "(Ljava/lang/String;)Ljava/lang/StringBuilder;"⟩ : MethodName)) (z := (⟨"java/lang/StringBuilder", "append", "(Ljava/lang/String;)Ljava/lang/StringBuilder;"⟩ : MethodName)) (a := b_1) (wd G 169 rfl) (wd G 170 rfl) (nf_sel (wd G 172 rfl)) (wd G 172 rfl) (wd G 171 rfl) ⟨by decide, by decide⟩ F_89 (Pays.of_ct (W := 0) (ct_sapp G b_1 s3 c3 q kq 34 vs5 (((((0 + L1.length) + c1.length) + L2.length) + c2.length) + L3.length) ((((([] ++ L1) ++ c1) ++ L2) ++ c2) ++ L3) h_84 F_89 P05 P15 P25 F_90 h3 A5 u5 (by omega) (by decide) t5 (Nat.ne_of_lt (Nat.lt_of_lt_of_le l_b_1 (Nat.le_trans (Nat.le_trans (Nat.le_trans (Nat.le_trans (Nat.le_trans (Nat.le_trans (Nat.le_trans (Nat.le_trans K0.1 E_11.1) K1.1) K2.1) E_40.1) K3.1) K4.1) E_69.1) gq)))) (allS (List.mem_of_getElem? (i := 2) rfl) (allS (List.mem_of_getElem? (i := 0) rfl) all0)) (wd G 173 rfl) (wd G 152 rfl) (by decide) (by decide) rfl rfl) (argsL := [(.ref s3)]) (rest := []) rfl (lenOf pd_21 rfl) rfl (Nat.le_of_eq rfl) rfl d29_40 (pc' := 43) rfl (k' := 9) (n' := 138) rfl rfl (by decide) (by decide) ?_
  intro v_91 h_94 sz_92 q_93
  obtain ⟨rfl, K6, vs6, u6, t6, A6, P06, P16, P26⟩ := q_93
  refine Seg.ldcS (text := "]") (vs := [(.int 93)]) (z := 1) (nn := 4) (wd G 232 rfl) (wS G) (by decide) (by decide +kernel) (by decide) (by decide) d29_43 (pc' := 45) rfl (by decide) (by decide) (k' := 11) (n' := 146) rfl rfl (by decide) (by decide) ?_
  intro a_95 h_104 b_96 kb_97 E_98 A_99 F_100 F_101 A_102 ne_103
  have F_L4 : Str Z h_104 a_95 L4 := ⟨b_96, kb_97, 0, 1, _, A_99, F_101, F_100, A_102, (Or.inl ⟨rfl, rfl, rfl, by decide⟩), le16 (by decide), (by decide)⟩
  have F_105 := ((F_89.keep K6).ext E_98)
  have F_106 := P06.ext E_98
  have F_107 := P16.ext E_98
  have F_108 := P26.ext E_98
  have F_109 := A6.ext E_98
  refine Seg.callV (y' := (⟨"java/lang/StringBuilder", "append", "(Ljava/lang/String;)Ljava/lang/StringBuilder;"⟩ : MethodName)) (z := (⟨"java/lang/StringBuilder", "append", "(Ljava/lang/String;)Ljava/lang/StringBuilder;"⟩ : MethodName)) (a := b_1) (wd G 169 rfl) (wd G 170 rfl) (nf_sel (wd G 172 rfl)) (wd G 172 rfl) (wd G 171 rfl) ⟨by decide, by decide⟩ F_105 (Pays.of_ct (W := 0) (ct_sapp G b_1 a_95 L4 q kq 34 vs6 ((((((0 + L1.length) + c1.length) + L2.length) + c2.length) + L3.length) + c3.length) (((((([] ++ L1) ++ c1) ++ L2) ++ c2) ++ L3) ++ c3) h_104 F_105 F_106 F_107 F_108 F_L4 all_L4 F_109 u6 (by omega) (by decide) t6 (Nat.ne_of_lt (Nat.lt_of_lt_of_le l_b_1 (Nat.le_trans (Nat.le_trans (Nat.le_trans (Nat.le_trans (Nat.le_trans (Nat.le_trans (Nat.le_trans (Nat.le_trans K0.1 E_11.1) K1.1) K2.1) E_40.1) K3.1) K4.1) E_69.1) gq)))) (allS (List.mem_of_getElem? (i := 2) rfl) (allS (List.mem_of_getElem? (i := 0) rfl) all0)) (wd G 173 rfl) (wd G 152 rfl) (by decide) (by decide) rfl rfl) (argsL := [(.ref a_95)]) (rest := []) rfl (lenOf pd_21 rfl) rfl (Nat.le_of_eq rfl) rfl d29_45 (pc' := 48) rfl (k' := 11) (n' := 146) rfl rfl (by decide) (by decide) ?_
  intro v_110 h_113 sz_111 q_112
  obtain ⟨rfl, K7, vs7, u7, t7, A7, P07, P17, P27⟩ := q_112
  have hall : ∀ c ∈ ((((((([] ++ L1) ++ c1) ++ L2) ++ c2) ++ L3) ++ c3) ++ L4), ¬ c < 0 ∧ ¬ (255 : Int32) < c := by
    intro c hc
    simp only [List.mem_append, List.not_mem_nil, false_or] at hc
    rcases hc with (((((hc | hc) | hc) | hc) | hc) | hc) | hc
    · exact all_L1 c hc
    · exact h1 c hc
    · exact all_L2 c hc
    · exact h2 c hc
    · exact all_L3 c hc
    · exact h3 c hc
    · exact all_L4 c hc
  have F_114 := (F_105.keep K7)
  refine Seg.callV (y' := (⟨"java/lang/StringBuilder", "toString", "()Ljava/lang/String;"⟩ : MethodName)) (z := (⟨"java/lang/StringBuilder", "toString", "()Ljava/lang/String;"⟩ : MethodName)) (a := b_1) (wd G 233 rfl) (wd G 234 rfl) (nf_sel (wd G 236 rfl)) (wd G 236 rfl) (wd G 235 rfl) ⟨by decide, by decide⟩ F_114 (Pays.of_ct (W := 0) (ct_sbts G b_1 q kq 34 vs7 (((((((0 + L1.length) + c1.length) + L2.length) + c2.length) + L3.length) + c3.length) + L4.length) ((((((([] ++ L1) ++ c1) ++ L2) ++ c2) ++ L3) ++ c3) ++ L4) h_113 F_114 P07 P17 P27 A7 u7 (by omega) (by decide) t7 (by simp only [List.length_append, List.length_nil]) hall) all0 (wd G 237 rfl) (wd G 152 rfl) (by decide) (by decide) rfl rfl) (argsL := []) (rest := []) rfl (lenOf pd_22 rfl) rfl (Nat.le_of_eq rfl) rfl d29_48 (pc' := 51) rfl (k' := 13) (n' := 250) rfl rfl (by decide) (by decide) ?_
  intro v_115 h_118 sz_116 q_117
  obtain ⟨z, rfl, E9, F9⟩ := q_117
  have E_119 : Ext h0 h_94 := ext_kp E_87 K6 (allS (Nat.le_trans (ext_rfl _).1 (Nat.le_of_eq e_b_1)) (allS (Nat.le_trans E_86.1 gq) all0))
  have E_120 : Ext h0 h_104 := ext_tr E_119 E_98
  have E_121 : Ext h0 h_113 := ext_kp E_120 K7 (allS (Nat.le_trans (ext_rfl _).1 (Nat.le_of_eq e_b_1)) (allS (Nat.le_trans E_86.1 gq) all0))
  have E_122 : Ext h0 h_118 := ext_tr E_121 E9
  exact Seg.retA rfl rfl rfl d29_51 (by decide) (by decide) ⟨z, rfl, E_122, F9⟩
theorem d1_0 : decode method_2_code 0 = .ok (.iload_n 0, 1) := by decide +kernel
theorem d1_1 : decode method_2_code 1 = .ok (.bipush 37, 2) := by decide +kernel
theorem d1_3 : decode method_2_code 3 = .ok (.irem, 1) := by decide +kernel
theorem d1_4 : decode method_2_code 4 = .ok (.istore_n 1, 1) := by decide +kernel
theorem d1_5 : decode method_2_code 5 = .ok (.iload_n 1, 1) := by decide +kernel
theorem d1_6 : decode method_2_code 6 = .ok (.bipush 26, 2) := by decide +kernel
theorem d1_8 : decode method_2_code 8 = .ok (.if_icmp .ge 9, 3) := by decide +kernel
theorem d1_11 : decode method_2_code 11 = .ok (.bipush 97, 2) := by decide +kernel
theorem d1_13 : decode method_2_code 13 = .ok (.iload_n 1, 1) := by decide +kernel
theorem d1_14 : decode method_2_code 14 = .ok (.iadd, 1) := by decide +kernel
theorem d1_15 : decode method_2_code 15 = .ok (.i2c, 1) := by decide +kernel
theorem d1_16 : decode method_2_code 16 = .ok (.ireturn, 1) := by decide +kernel
theorem d1_17 : decode method_2_code 17 = .ok (.iload_n 1, 1) := by decide +kernel
theorem d1_18 : decode method_2_code 18 = .ok (.bipush 36, 2) := by decide +kernel
theorem d1_20 : decode method_2_code 20 = .ok (.if_icmp .ge 12, 3) := by decide +kernel
theorem d1_23 : decode method_2_code 23 = .ok (.bipush 48, 2) := by decide +kernel
theorem d1_25 : decode method_2_code 25 = .ok (.iload_n 1, 1) := by decide +kernel
theorem d1_26 : decode method_2_code 26 = .ok (.bipush 26, 2) := by decide +kernel
theorem d1_28 : decode method_2_code 28 = .ok (.isub, 1) := by decide +kernel
theorem d1_29 : decode method_2_code 29 = .ok (.iadd, 1) := by decide +kernel
theorem d1_30 : decode method_2_code 30 = .ok (.i2c, 1) := by decide +kernel
theorem d1_31 : decode method_2_code 31 = .ok (.ireturn, 1) := by decide +kernel
theorem d1_32 : decode method_2_code 32 = .ok (.bipush 45, 2) := by decide +kernel
theorem d1_34 : decode method_2_code 34 = .ok (.ireturn, 1) := by decide +kernel
theorem pn_com_example_kredential_kredential_ResourceToStringPinLaw : plainName "com/example/kredential/kredential/ResourceToStringPinLaw" = true := by first | (simp [plainName, overriddenIn]; done) | decide +kernel
theorem ef_ct_tc (u : Int32) (m : MethodId) : entryFrame m #[(.int u)] 2 = mkF m 0 #[.val (.int u), .unset] [] := by first | (simp [entryFrame, mkF, argsToLocals, Value.category]; done) | rfl
set_option maxRecDepth 65536 in
set_option maxHeartbeats 4000000 in
theorem ct_tc {l : Launch} {Z : State} {a0 : Array Value} (G : Env1 Z a0) (u : Int32) (h0 : Heap) (hu : 0 ≤ u.toInt) :
    Ct l Z EL1 [] [] (⟨"com/example/kredential/kredential/ResourceToStringPinLaw", "typeChar", "(I)C"⟩ : MethodName) method_2_code 2 (some .char) ({ frames := 0, cells := 0, slots := 0, locals := 0 } : Room) #[(.int u)] h0 (fun v h => ∃ r : Int32, v = some (.int r) ∧ h0 = h ∧ okT r) := by
  refine Ct.of_seg (a0 := a0) (plainFor_of_name pn_com_example_kredential_kredential_ResourceToStringPinLaw) G.2.1 (ef_ct_tc u) ?_
  obtain ⟨k, hk, ek⟩ := remN hu 37 (by decide) (by decide)
  refine Seg.iloadN d1_0 rfl (pc' := 1) rfl ?_
  refine Seg.bipush (v := 37) d1_1 (by decide) (pc' := 3) rfl ?_
  refine Seg.irem (v := (Int32.ofNat k)) d1_3 (by decide) ek (pc' := 4) rfl ?_
  refine Seg.istoreN (L' := #[.val (.int u), .val (.int (Int32.ofNat k))]) d1_4 rfl (pc' := 5) rfl ?_
  refine Seg.iloadN d1_5 rfl (pc' := 6) rfl ?_
  refine Seg.bipush (v := 26) d1_6 (by decide) (pc' := 8) rfl ?_
  by_cases g0 : k < 26
  · refine Seg.icN d1_8 (XT.ii_ge_f (n32lt (n := 26) g0 (by decide))) (pc' := 11) rfl ?_
    refine Seg.bipush (v := 97) d1_11 (by decide) (pc' := 13) rfl ?_
    refine Seg.iloadN d1_13 rfl (pc' := 14) rfl ?_
    refine Seg.iadd (v := (Int32.ofNat (97 + k))) d1_14 (n32add 97 _) (pc' := 15) rfl ?_
    refine Seg.i2c (v := (Int32.ofNat (97 + k))) d1_15 (i2cN (by omega)) (pc' := 16) rfl ?_
    exact Seg.retN (t := .char) (w := (Int32.ofNat (97 + k))) rfl (by decide) (i2cN (by omega)) d1_16 (by decide) (by decide) ⟨_, rfl, rfl, okT_n (by omega)⟩
  · refine Seg.icY (pc' := 17) d1_8 (XT.ii_ge_t (n32nlt (n := 26) (by omega) (by omega))) (by decide) (by decide) ?_
    refine Seg.iloadN d1_17 rfl (pc' := 18) rfl ?_
    refine Seg.bipush (v := 36) d1_18 (by decide) (pc' := 20) rfl ?_
    by_cases g1 : k < 36
    · refine Seg.icN d1_20 (XT.ii_ge_f (n32lt (n := 36) g1 (by decide))) (pc' := 23) rfl ?_
      refine Seg.bipush (v := 48) d1_23 (by decide) (pc' := 25) rfl ?_
      refine Seg.iloadN d1_25 rfl (pc' := 26) rfl ?_
      refine Seg.bipush (v := 26) d1_26 (by decide) (pc' := 28) rfl ?_
      refine Seg.isub (v := (Int32.ofNat (k - 26))) d1_28 (n32sub (j := 26) (by omega)) (pc' := 29) rfl ?_
      refine Seg.iadd (v := (Int32.ofNat (48 + (k - 26)))) d1_29 (n32add 48 _) (pc' := 30) rfl ?_
      refine Seg.i2c (v := (Int32.ofNat (48 + (k - 26)))) d1_30 (i2cN (by omega)) (pc' := 31) rfl ?_
      exact Seg.retN (t := .char) (w := (Int32.ofNat (48 + (k - 26)))) rfl (by decide) (i2cN (by omega)) d1_31 (by decide) (by decide) ⟨_, rfl, rfl, okT_n (by omega)⟩
    · refine Seg.icY (pc' := 32) d1_20 (XT.ii_ge_t (n32nlt (n := 36) (by omega) (by omega))) (by decide) (by decide) ?_
      refine Seg.bipush (v := 45) d1_32 (by decide) (pc' := 34) rfl ?_
      exact Seg.retN (t := .char) (w := (45 : Int32)) rfl (by decide) (by decide) d1_34 (by decide) (by decide) ⟨_, rfl, rfl, by decide⟩
theorem d2_0 : decode method_3_code 0 = .ok (.iload_n 0, 1) := by decide +kernel
theorem d2_1 : decode method_3_code 1 = .ok (.bipush 66, 2) := by decide +kernel
theorem d2_3 : decode method_3_code 3 = .ok (.irem, 1) := by decide +kernel
theorem d2_4 : decode method_3_code 4 = .ok (.istore_n 1, 1) := by decide +kernel
theorem d2_5 : decode method_3_code 5 = .ok (.iload_n 1, 1) := by decide +kernel
theorem d2_6 : decode method_3_code 6 = .ok (.bipush 26, 2) := by decide +kernel
theorem d2_8 : decode method_3_code 8 = .ok (.if_icmp .ge 9, 3) := by decide +kernel
theorem d2_11 : decode method_3_code 11 = .ok (.bipush 65, 2) := by decide +kernel
theorem d2_13 : decode method_3_code 13 = .ok (.iload_n 1, 1) := by decide +kernel
theorem d2_14 : decode method_3_code 14 = .ok (.iadd, 1) := by decide +kernel
theorem d2_15 : decode method_3_code 15 = .ok (.i2c, 1) := by decide +kernel
theorem d2_16 : decode method_3_code 16 = .ok (.ireturn, 1) := by decide +kernel
theorem d2_17 : decode method_3_code 17 = .ok (.iload_n 1, 1) := by decide +kernel
theorem d2_18 : decode method_3_code 18 = .ok (.bipush 52, 2) := by decide +kernel
theorem d2_20 : decode method_3_code 20 = .ok (.if_icmp .ge 12, 3) := by decide +kernel
theorem d2_23 : decode method_3_code 23 = .ok (.bipush 97, 2) := by decide +kernel
theorem d2_25 : decode method_3_code 25 = .ok (.iload_n 1, 1) := by decide +kernel
theorem d2_26 : decode method_3_code 26 = .ok (.bipush 26, 2) := by decide +kernel
theorem d2_28 : decode method_3_code 28 = .ok (.isub, 1) := by decide +kernel
theorem d2_29 : decode method_3_code 29 = .ok (.iadd, 1) := by decide +kernel
theorem d2_30 : decode method_3_code 30 = .ok (.i2c, 1) := by decide +kernel
theorem d2_31 : decode method_3_code 31 = .ok (.ireturn, 1) := by decide +kernel
theorem d2_32 : decode method_3_code 32 = .ok (.iload_n 1, 1) := by decide +kernel
theorem d2_33 : decode method_3_code 33 = .ok (.bipush 62, 2) := by decide +kernel
theorem d2_35 : decode method_3_code 35 = .ok (.if_icmp .ge 12, 3) := by decide +kernel
theorem d2_38 : decode method_3_code 38 = .ok (.bipush 48, 2) := by decide +kernel
theorem d2_40 : decode method_3_code 40 = .ok (.iload_n 1, 1) := by decide +kernel
theorem d2_41 : decode method_3_code 41 = .ok (.bipush 52, 2) := by decide +kernel
theorem d2_43 : decode method_3_code 43 = .ok (.isub, 1) := by decide +kernel
theorem d2_44 : decode method_3_code 44 = .ok (.iadd, 1) := by decide +kernel
theorem d2_45 : decode method_3_code 45 = .ok (.i2c, 1) := by decide +kernel
theorem d2_46 : decode method_3_code 46 = .ok (.ireturn, 1) := by decide +kernel
theorem d2_47 : decode method_3_code 47 = .ok (.iload_n 1, 1) := by decide +kernel
theorem d2_48 : decode method_3_code 48 = .ok (.bipush 62, 2) := by decide +kernel
theorem d2_50 : decode method_3_code 50 = .ok (.if_icmp .ne 6, 3) := by decide +kernel
theorem d2_53 : decode method_3_code 53 = .ok (.bipush 46, 2) := by decide +kernel
theorem d2_55 : decode method_3_code 55 = .ok (.ireturn, 1) := by decide +kernel
theorem d2_56 : decode method_3_code 56 = .ok (.iload_n 1, 1) := by decide +kernel
theorem d2_57 : decode method_3_code 57 = .ok (.bipush 63, 2) := by decide +kernel
theorem d2_59 : decode method_3_code 59 = .ok (.if_icmp .ne 6, 3) := by decide +kernel
theorem d2_62 : decode method_3_code 62 = .ok (.bipush 95, 2) := by decide +kernel
theorem d2_64 : decode method_3_code 64 = .ok (.ireturn, 1) := by decide +kernel
theorem d2_65 : decode method_3_code 65 = .ok (.iload_n 1, 1) := by decide +kernel
theorem d2_66 : decode method_3_code 66 = .ok (.bipush 64, 2) := by decide +kernel
theorem d2_68 : decode method_3_code 68 = .ok (.if_icmp .ne 6, 3) := by decide +kernel
theorem d2_71 : decode method_3_code 71 = .ok (.bipush 45, 2) := by decide +kernel
theorem d2_73 : decode method_3_code 73 = .ok (.ireturn, 1) := by decide +kernel
theorem d2_74 : decode method_3_code 74 = .ok (.bipush 58, 2) := by decide +kernel
theorem d2_76 : decode method_3_code 76 = .ok (.ireturn, 1) := by decide +kernel
theorem ef_ct_idc (u : Int32) (m : MethodId) : entryFrame m #[(.int u)] 2 = mkF m 0 #[.val (.int u), .unset] [] := by first | (simp [entryFrame, mkF, argsToLocals, Value.category]; done) | rfl
set_option maxRecDepth 65536 in
set_option maxHeartbeats 4000000 in
theorem ct_idc {l : Launch} {Z : State} {a0 : Array Value} (G : Env1 Z a0) (u : Int32) (h0 : Heap) (hu : 0 ≤ u.toInt) :
    Ct l Z EL1 [] [] (⟨"com/example/kredential/kredential/ResourceToStringPinLaw", "idChar", "(I)C"⟩ : MethodName) method_3_code 2 (some .char) ({ frames := 0, cells := 0, slots := 0, locals := 0 } : Room) #[(.int u)] h0 (fun v h => ∃ r : Int32, v = some (.int r) ∧ h0 = h ∧ okI r) := by
  refine Ct.of_seg (a0 := a0) (plainFor_of_name pn_com_example_kredential_kredential_ResourceToStringPinLaw) G.2.1 (ef_ct_idc u) ?_
  obtain ⟨k, hk, ek⟩ := remN hu 66 (by decide) (by decide)
  refine Seg.iloadN d2_0 rfl (pc' := 1) rfl ?_
  refine Seg.bipush (v := 66) d2_1 (by decide) (pc' := 3) rfl ?_
  refine Seg.irem (v := (Int32.ofNat k)) d2_3 (by decide) ek (pc' := 4) rfl ?_
  refine Seg.istoreN (L' := #[.val (.int u), .val (.int (Int32.ofNat k))]) d2_4 rfl (pc' := 5) rfl ?_
  refine Seg.iloadN d2_5 rfl (pc' := 6) rfl ?_
  refine Seg.bipush (v := 26) d2_6 (by decide) (pc' := 8) rfl ?_
  by_cases g0 : k < 26
  · refine Seg.icN d2_8 (XT.ii_ge_f (n32lt (n := 26) g0 (by decide))) (pc' := 11) rfl ?_
    refine Seg.bipush (v := 65) d2_11 (by decide) (pc' := 13) rfl ?_
    refine Seg.iloadN d2_13 rfl (pc' := 14) rfl ?_
    refine Seg.iadd (v := (Int32.ofNat (65 + k))) d2_14 (n32add 65 _) (pc' := 15) rfl ?_
    refine Seg.i2c (v := (Int32.ofNat (65 + k))) d2_15 (i2cN (by omega)) (pc' := 16) rfl ?_
    exact Seg.retN (t := .char) (w := (Int32.ofNat (65 + k))) rfl (by decide) (i2cN (by omega)) d2_16 (by decide) (by decide) ⟨_, rfl, rfl, okI_n (by omega)⟩
  · refine Seg.icY (pc' := 17) d2_8 (XT.ii_ge_t (n32nlt (n := 26) (by omega) (by omega))) (by decide) (by decide) ?_
    refine Seg.iloadN d2_17 rfl (pc' := 18) rfl ?_
    refine Seg.bipush (v := 52) d2_18 (by decide) (pc' := 20) rfl ?_
    by_cases g1 : k < 52
    · refine Seg.icN d2_20 (XT.ii_ge_f (n32lt (n := 52) g1 (by decide))) (pc' := 23) rfl ?_
      refine Seg.bipush (v := 97) d2_23 (by decide) (pc' := 25) rfl ?_
      refine Seg.iloadN d2_25 rfl (pc' := 26) rfl ?_
      refine Seg.bipush (v := 26) d2_26 (by decide) (pc' := 28) rfl ?_
      refine Seg.isub (v := (Int32.ofNat (k - 26))) d2_28 (n32sub (j := 26) (by omega)) (pc' := 29) rfl ?_
      refine Seg.iadd (v := (Int32.ofNat (97 + (k - 26)))) d2_29 (n32add 97 _) (pc' := 30) rfl ?_
      refine Seg.i2c (v := (Int32.ofNat (97 + (k - 26)))) d2_30 (i2cN (by omega)) (pc' := 31) rfl ?_
      exact Seg.retN (t := .char) (w := (Int32.ofNat (97 + (k - 26)))) rfl (by decide) (i2cN (by omega)) d2_31 (by decide) (by decide) ⟨_, rfl, rfl, okI_n (by omega)⟩
    · refine Seg.icY (pc' := 32) d2_20 (XT.ii_ge_t (n32nlt (n := 52) (by omega) (by omega))) (by decide) (by decide) ?_
      refine Seg.iloadN d2_32 rfl (pc' := 33) rfl ?_
      refine Seg.bipush (v := 62) d2_33 (by decide) (pc' := 35) rfl ?_
      by_cases g2 : k < 62
      · refine Seg.icN d2_35 (XT.ii_ge_f (n32lt (n := 62) g2 (by decide))) (pc' := 38) rfl ?_
        refine Seg.bipush (v := 48) d2_38 (by decide) (pc' := 40) rfl ?_
        refine Seg.iloadN d2_40 rfl (pc' := 41) rfl ?_
        refine Seg.bipush (v := 52) d2_41 (by decide) (pc' := 43) rfl ?_
        refine Seg.isub (v := (Int32.ofNat (k - 52))) d2_43 (n32sub (j := 52) (by omega)) (pc' := 44) rfl ?_
        refine Seg.iadd (v := (Int32.ofNat (48 + (k - 52)))) d2_44 (n32add 48 _) (pc' := 45) rfl ?_
        refine Seg.i2c (v := (Int32.ofNat (48 + (k - 52)))) d2_45 (i2cN (by omega)) (pc' := 46) rfl ?_
        exact Seg.retN (t := .char) (w := (Int32.ofNat (48 + (k - 52)))) rfl (by decide) (i2cN (by omega)) d2_46 (by decide) (by decide) ⟨_, rfl, rfl, okI_n (by omega)⟩
      · refine Seg.icY (pc' := 47) d2_35 (XT.ii_ge_t (n32nlt (n := 62) (by omega) (by omega))) (by decide) (by decide) ?_
        refine Seg.iloadN d2_47 rfl (pc' := 48) rfl ?_
        refine Seg.bipush (v := 62) d2_48 (by decide) (pc' := 50) rfl ?_
        by_cases q0 : k = 62
        · refine Seg.icN d2_50 (XT.ii_ne_f (by rw [q0]; rfl)) (pc' := 53) rfl ?_
          refine Seg.bipush (v := 46) d2_53 (by decide) (pc' := 55) rfl ?_
          exact Seg.retN (t := .char) (w := (46 : Int32)) rfl (by decide) (by decide) d2_55 (by decide) (by decide) ⟨_, rfl, rfl, by decide⟩
        · refine Seg.icY (pc' := 56) d2_50 (XT.ii_ne_t fun q => q0 (n32eq (j := 62) (by omega) (by decide) q)) (by decide) (by decide) ?_
          refine Seg.iloadN d2_56 rfl (pc' := 57) rfl ?_
          refine Seg.bipush (v := 63) d2_57 (by decide) (pc' := 59) rfl ?_
          by_cases q1 : k = 63
          · refine Seg.icN d2_59 (XT.ii_ne_f (by rw [q1]; rfl)) (pc' := 62) rfl ?_
            refine Seg.bipush (v := 95) d2_62 (by decide) (pc' := 64) rfl ?_
            exact Seg.retN (t := .char) (w := (95 : Int32)) rfl (by decide) (by decide) d2_64 (by decide) (by decide) ⟨_, rfl, rfl, by decide⟩
          · refine Seg.icY (pc' := 65) d2_59 (XT.ii_ne_t fun q => q1 (n32eq (j := 63) (by omega) (by decide) q)) (by decide) (by decide) ?_
            refine Seg.iloadN d2_65 rfl (pc' := 66) rfl ?_
            refine Seg.bipush (v := 64) d2_66 (by decide) (pc' := 68) rfl ?_
            by_cases q2 : k = 64
            · refine Seg.icN d2_68 (XT.ii_ne_f (by rw [q2]; rfl)) (pc' := 71) rfl ?_
              refine Seg.bipush (v := 45) d2_71 (by decide) (pc' := 73) rfl ?_
              exact Seg.retN (t := .char) (w := (45 : Int32)) rfl (by decide) (by decide) d2_73 (by decide) (by decide) ⟨_, rfl, rfl, by decide⟩
            · refine Seg.icY (pc' := 74) d2_68 (XT.ii_ne_t fun q => q2 (n32eq (j := 64) (by omega) (by decide) q)) (by decide) (by decide) ?_
              refine Seg.bipush (v := 58) d2_74 (by decide) (pc' := 76) rfl ?_
              exact Seg.retN (t := .char) (w := (58 : Int32)) rfl (by decide) (by decide) d2_76 (by decide) (by decide) ⟨_, rfl, rfl, by decide⟩
theorem d11_0 : decode jdk_43_method_3_code 0 = .ok (.iload_n 0, 1) := by decide +kernel
theorem d11_1 : decode jdk_43_method_3_code 1 = .ok (.sipush 255, 3) := by decide +kernel
theorem d11_4 : decode jdk_43_method_3_code 4 = .ok (.if_icmp .gt 7, 3) := by decide +kernel
theorem d11_7 : decode jdk_43_method_3_code 7 = .ok (.iconst 1, 1) := by decide +kernel
theorem d11_8 : decode jdk_43_method_3_code 8 = .ok (.goto 4, 3) := by decide +kernel
theorem d11_12 : decode jdk_43_method_3_code 12 = .ok (.ireturn, 1) := by decide +kernel
theorem pn_java_lang_StringLatin1 : plainName "java/lang/StringLatin1" = true := by first | (simp [plainName, overriddenIn]; done) | decide +kernel
theorem ef_ct_canEnc (u : Int32) (m : MethodId) : entryFrame m #[(.int u)] 1 = mkF m 0 #[.val (.int u)] [] := by first | (simp [entryFrame, mkF, argsToLocals, Value.category]; done) | rfl
set_option maxRecDepth 65536 in
set_option maxHeartbeats 4000000 in
theorem ct_canEnc {l : Launch} {Z : State} {a0 : Array Value} (G : Env1 Z a0) (u : Int32) (h0 : Heap) (hc : ¬ u < 0 ∧ ¬ (255 : Int32) < u) :
    Ct l Z EL1 [] [] (⟨"java/lang/StringLatin1", "canEncode", "(C)Z"⟩ : MethodName) jdk_43_method_3_code 1 (some .boolean) ({ frames := 0, cells := 0, slots := 0, locals := 0 } : Room) #[(.int u)] h0 (fun v h => v = some (.int 1) ∧ h0 = h) := by
  refine Ct.of_seg (a0 := a0) (plainFor_of_name pn_java_lang_StringLatin1) G.2.1 (ef_ct_canEnc u) ?_
  refine Seg.iloadN d11_0 rfl (pc' := 1) rfl ?_
  refine Seg.sipush (v := 255) d11_1 (by decide) (pc' := 4) rfl ?_
  refine Seg.icN d11_4 (XT.ii_gt_f hc.2) (pc' := 7) rfl ?_
  refine Seg.iconst (v := 1) d11_7 (by decide) (pc' := 8) rfl ?_
  refine Seg.goto (pc' := 12) d11_8 (by decide) (by decide) ?_
  exact Seg.retN (t := .boolean) (w := (1 : Int32)) rfl (by decide) (by decide) d11_12 (by decide) (by decide) ⟨rfl, rfl⟩
theorem d12_0 : decode jdk_43_method_46_code 0 = .ok (.iconst 1, 1) := by decide +kernel
theorem d12_1 : decode jdk_43_method_46_code 1 = .ok (.newarray .byte, 2) := by decide +kernel
theorem d12_3 : decode jdk_43_method_46_code 3 = .ok (.dup, 1) := by decide +kernel
theorem d12_4 : decode jdk_43_method_46_code 4 = .ok (.iconst 0, 1) := by decide +kernel
theorem d12_5 : decode jdk_43_method_46_code 5 = .ok (.iload_n 0, 1) := by decide +kernel
theorem d12_6 : decode jdk_43_method_46_code 6 = .ok (.i2b, 1) := by decide +kernel
theorem d12_7 : decode jdk_43_method_46_code 7 = .ok (.bastore, 1) := by decide +kernel
theorem d12_8 : decode jdk_43_method_46_code 8 = .ok (.areturn, 1) := by decide +kernel
theorem ef_ct_toB (u : Int32) (m : MethodId) : entryFrame m #[(.int u)] 1 = mkF m 0 #[.val (.int u)] [] := by first | (simp [entryFrame, mkF, argsToLocals, Value.category]; done) | rfl
set_option maxRecDepth 65536 in
set_option maxHeartbeats 4000000 in
theorem ct_toB {l : Launch} {Z : State} {a0 : Array Value} (G : Env1 Z a0) (u : Int32) (h0 : Heap) :
    Ct l Z EL1 [] [] (⟨"java/lang/StringLatin1", "toBytes", "(C)[B"⟩ : MethodName) jdk_43_method_46_code 1 (some (.array .byte)) ({ frames := 0, cells := 1, slots := 1, locals := 0 } : Room) #[(.int u)] h0 (fun v h => ∃ (r : Addr) (kc : ClassId), v = some (.ref r) ∧ Ext h0 h ∧ h0.size ≤ r ∧ Arv Z h r kc .byte 1 [.int (u).toInt8.toInt32] (.int 0)) := by
  refine Ct.of_seg (a0 := a0) (plainFor_of_name pn_java_lang_StringLatin1) G.2.1 (ef_ct_toB u) ?_
  refine Seg.iconst (v := 1) d12_0 (by decide) (pc' := 1) rfl ?_
  refine Seg.newP (ty := .byte) (dv := (.int 0)) rfl rfl (wd G 30 rfl) d12_1 (pc' := 3) rfl (by decide) (cap := 1) (by decide) (by decide) (k' := 1) (n' := 1) rfl rfl (by decide) (by decide) ?_
  intro b_1 h_3 k_b_1 E_2 e_b_1 l_b_1 A_b_1
  replace A_b_1 : Arv Z h_3 b_1 k_b_1 .byte (1 : Int32) [(.int (0 : Int32))] (.int 0) := A_b_1.pad (pad_rep [] (.int 0) 1)
  refine Seg.dup d12_3 rfl (pc' := 4) rfl ?_
  refine Seg.iconst (v := 0) d12_4 (by decide) (pc' := 5) rfl ?_
  refine Seg.iloadN d12_5 rfl (pc' := 6) rfl ?_
  refine Seg.i2b (v := (u).toInt8.toInt32) d12_6 rfl (pc' := 7) rfl ?_
  refine Seg.bastore (v' := (u).toInt8.toInt32) (i := 0) A_b_1 ⟨by decide, by decide⟩ rfl (Nat.le_of_ble_eq_true rfl) (narb u) (List.mem_of_getElem? (i := 0) rfl) d12_7 (pc' := 8) rfl ?_
  intro h_6 W_4 A_5
  replace A_5 : Arv Z h_6 b_1 k_b_1 .byte (1 : Int32) [(.int (u).toInt8.toInt32)] (.int 0) := A_5
  have E_7 : Ext h0 h_6 := ext_wr E_2 W_4 (Nat.le_trans (ext_rfl _).1 (Nat.le_of_eq e_b_1))
  exact Seg.retA rfl rfl rfl d12_8 (by decide) (by decide) ⟨b_1, k_b_1, rfl, E_7, (Nat.le_of_eq e_b_1), A_5⟩
theorem d13_0 : decode jdk_42_method_151_code 0 = .ok (.aload_n 0, 1) := by decide +kernel
theorem d13_1 : decode jdk_42_method_151_code 1 = .ok (.invokespecial 1, 3) := by decide +kernel
theorem d13_4 : decode jdk_42_method_151_code 4 = .ok (.aload_n 0, 1) := by decide +kernel
theorem d13_5 : decode jdk_42_method_151_code 5 = .ok (.aload_n 1, 1) := by decide +kernel
theorem d13_6 : decode jdk_42_method_151_code 6 = .ok (.putfield 9, 3) := by decide +kernel
theorem d13_9 : decode jdk_42_method_151_code 9 = .ok (.aload_n 0, 1) := by decide +kernel
theorem d13_10 : decode jdk_42_method_151_code 10 = .ok (.iload_n 2, 1) := by decide +kernel
theorem d13_11 : decode jdk_42_method_151_code 11 = .ok (.putfield 15, 3) := by decide +kernel
theorem d13_14 : decode jdk_42_method_151_code 14 = .ok (.return_, 1) := by decide +kernel
theorem ef_ct_sibb (x : Addr) (b : Addr) (v0 : Value) (c0 : Value) (m : MethodId) : entryFrame m #[(.ref x), (.ref b), (.int (0 : Int32))] 3 = mkF m 0 #[.val (.ref x), .val (.ref b), .val (.int (0 : Int32))] [] := by first | (simp [entryFrame, mkF, argsToLocals, Value.category]; done) | rfl
set_option maxRecDepth 65536 in
set_option maxHeartbeats 4000000 in
theorem ct_sibb {l : Launch} {Z : State} {a0 : Array Value} (G : Env1 Z a0) (x : Addr) (b : Addr) (v0 : Value) (c0 : Value) (h0 : Heap) (A : Exa Z h0 x STN) (F0 : Fld Z h0 x STN "value" "[B" v0) (F1 : Fld Z h0 x STN "coder" "B" c0) :
    Ct l Z EL1 [x] [] (⟨"java/lang/String", "<init>", "([BB)V"⟩ : MethodName) jdk_42_method_151_code 3 none ({ frames := 1, cells := 0, slots := 0, locals := 12 } : Room) #[(.ref x), (.ref b), (.int (0 : Int32))] h0 (fun v h => v = none ∧ Keep h0 h [x] ∧ Fld Z h x STN "value" "[B" (.ref b) ∧ Fld Z h x STN "coder" "B" (.int 0)) := by
  refine Ct.of_seg (a0 := a0) (plainFor_of_name pn_java_lang_String) G.2.1 (ef_ct_sibb x b v0 c0) ?_
  refine Seg.aloadN d13_0 rfl rfl (pc' := 1) rfl ?_
  refine Seg.initO (wd G 22 rfl) (wd G 23 rfl) (wd G 24 rfl) rfl d13_1 (pc' := 4) rfl (by decide) (W := 0) (Nat.le_of_eq rfl) (by decide) ?_
  refine Seg.aloadN d13_4 rfl rfl (pc' := 5) rfl ?_
  refine Seg.aloadN d13_5 rfl rfl (pc' := 6) rfl ?_
  refine Seg.putF (host := "") (ty := (.array .byte)) (v' := (.ref b)) (wd G 39 rfl) Via.refl F0 A (Or.inr ⟨(wd G 40 rfl), rfl, rfl⟩) (wd G 12 rfl) (by decide) rfl rfl (List.mem_of_getElem? (i := 0) rfl) d13_6 (pc' := 9) rfl ?_
  intro h_3 W_1 F_2
  refine Seg.aloadN d13_9 rfl rfl (pc' := 10) rfl ?_
  refine Seg.iloadN d13_10 rfl (pc' := 11) rfl ?_
  have F_4 := (F1.other W_1 (Or.inr (slot_ne (Or.inr (wd G 38 rfl)) (Or.inr (wd G 40 rfl)) (by decide) (t := .byte) (t' := (.array .byte)) (by decide) (by decide))))
  have F_5 := (A.wr W_1)
  refine Seg.putF (host := "") (ty := .byte) (v' := (.int (0 : Int32))) (wd G 37 rfl) Via.refl F_4 F_5 (Or.inr ⟨(wd G 38 rfl), rfl, rfl⟩) (wd G 12 rfl) (by decide) rfl rfl (List.mem_of_getElem? (i := 0) rfl) d13_11 (pc' := 14) rfl ?_
  intro h_8 W_6 F_7
  have F_9 := (F_2.other W_6 (Or.inr (slot_ne (Or.inr (wd G 40 rfl)) (Or.inr (wd G 38 rfl)) (by decide) (t := (.array .byte)) (t' := .byte) (by decide) (by decide))))
  exact Seg.ret0 rfl d13_14 (by decide) (by decide) ⟨rfl, (((Keep.refl h0 [x]).wr W_1 (Or.inl (List.mem_of_getElem? (i := 0) rfl))).wr W_6 (Or.inl (List.mem_of_getElem? (i := 0) rfl))), F_9, F_7⟩
theorem d10_0 : decode jdk_42_method_139_code 0 = .ok (.getstatic 38, 3) := by decide +kernel
theorem d10_3 : decode jdk_42_method_139_code 3 = .ok (.ifCond .eq 23, 3) := by decide +kernel
theorem d10_6 : decode jdk_42_method_139_code 6 = .ok (.iload_n 0, 1) := by decide +kernel
theorem d10_7 : decode jdk_42_method_139_code 7 = .ok (.invokestatic 1015, 3) := by decide +kernel
theorem pd_23 : parseMethodDescriptor "(C)Z" = some ⟨[.char], some .boolean⟩ := by decide +kernel
theorem d10_10 : decode jdk_42_method_139_code 10 = .ok (.ifCond .eq 16, 3) := by decide +kernel
theorem d10_13 : decode jdk_42_method_139_code 13 = .ok (.new 10, 3) := by decide +kernel
theorem d10_16 : decode jdk_42_method_139_code 16 = .ok (.dup, 1) := by decide +kernel
theorem d10_17 : decode jdk_42_method_139_code 17 = .ok (.iload_n 0, 1) := by decide +kernel
theorem d10_18 : decode jdk_42_method_139_code 18 = .ok (.invokestatic 1018, 3) := by decide +kernel
theorem pd_24 : parseMethodDescriptor "(C)[B" = some ⟨[.char], some (.array .byte)⟩ := by decide +kernel
theorem d10_21 : decode jdk_42_method_139_code 21 = .ok (.iconst 0, 1) := by decide +kernel
theorem d10_22 : decode jdk_42_method_139_code 22 = .ok (.invokespecial 209, 3) := by decide +kernel
theorem pd_25 : parseMethodDescriptor "([BB)V" = some ⟨[(.array .byte), .byte], none⟩ := by decide +kernel
theorem d10_25 : decode jdk_42_method_139_code 25 = .ok (.areturn, 1) := by decide +kernel
theorem ef_ct_vof (u : Int32) (m : MethodId) : entryFrame m #[(.int u)] 1 = mkF m 0 #[.val (.int u)] [] := by first | (simp [entryFrame, mkF, argsToLocals, Value.category]; done) | rfl
set_option maxRecDepth 65536 in
set_option maxHeartbeats 4000000 in
theorem ct_vof {l : Launch} {Z : State} {a0 : Array Value} (G : Env1 Z a0) (u : Int32) (h0 : Heap) (hc : ¬ u < 0 ∧ ¬ (255 : Int32) < u) :
    Ct l Z EL1 [] [] (⟨"java/lang/String", "valueOf", "(C)Ljava/lang/String;"⟩ : MethodName) jdk_42_method_139_code 1 (some (.object "java/lang/String")) ({ frames := 2, cells := 2, slots := 5, locals := 27 } : Room) #[(.int u)] h0 (fun v h => ∃ r, v = some (.ref r) ∧ Ext h0 h ∧ Str Z h r [u]) := by
  refine Ct.of_seg (a0 := a0) (plainFor_of_name pn_java_lang_String) G.2.1 (ef_ct_vof u) ?_
  obtain ⟨zc, Sc, hz⟩ := G.2.2.1
  refine Seg.getS (wd G 25 rfl) Via.refl Sc d10_0 (pc' := 3) rfl ?_
  refine Seg.ifN d10_3 (XT.i0_eq_f hz) (pc' := 6) rfl ?_
  refine Seg.iloadN d10_6 rfl (pc' := 7) rfl ?_
  refine Seg.callS (y' := (⟨"java/lang/StringLatin1", "canEncode", "(C)Z"⟩ : MethodName)) (wd G 44 rfl) (wd G 45 rfl) (wd G 46 rfl) (wd G 47 rfl) ⟨by decide, by decide⟩ (Pays.of_ct (W := 0) (ct_canEnc G u h0 hc) all0 (wd G 47 rfl) (wd G 46 rfl) (by decide) (by decide) rfl rfl) (argsL := [(.int u)]) (rest := []) rfl (lenOf pd_23 rfl) rfl (Nat.le_of_eq rfl) rfl d10_7 (pc' := 10) rfl (k' := 0) (n' := 0) rfl rfl (by decide) (by decide) ?_
  intro v_1 h_4 sz_2 q_3
  obtain ⟨rfl, rfl⟩ := q_3
  refine Seg.ifN d10_10 (by decide) (pc' := 13) rfl ?_
  refine Seg.newO (wd G 48 rfl) (wd G 12 rfl) (wd G 13 rfl) d10_13 (pc' := 16) rfl (k' := 1) (n' := 4) rfl rfl (by decide) (by decide) ?_
  intro b_5 h_7 E_6 e_b_5 l_b_5 A_b_5 D_b_5
  have F_coder_b_5 : Fld Z h_7 b_5 "java/lang/String" "coder" "B" (.int (0 : Int32)) := D_b_5 (Or.inr (wd G 38 rfl)) (ty := .byte) (by decide)
  have F_value_b_5 : Fld Z h_7 b_5 "java/lang/String" "value" "[B" Value.null := D_b_5 (Or.inr (wd G 40 rfl)) (ty := (.array .byte)) (by decide)
  refine Seg.dup d10_16 rfl (pc' := 17) rfl ?_
  refine Seg.iloadN d10_17 rfl (pc' := 18) rfl ?_
  refine Seg.callS (y' := (⟨"java/lang/StringLatin1", "toBytes", "(C)[B"⟩ : MethodName)) (wd G 49 rfl) (wd G 50 rfl) (wd G 46 rfl) (wd G 51 rfl) ⟨by decide, by decide⟩ (Pays.of_ct (W := 2) (ct_toB G u h_7) all0 (wd G 51 rfl) (wd G 46 rfl) (by decide) (by decide) rfl rfl) (argsL := [(.int u)]) (rest := [(.ref b_5), (.ref b_5)]) rfl (lenOf pd_24 rfl) rfl (Nat.le_of_eq rfl) rfl d10_18 (pc' := 21) rfl (k' := 2) (n' := 5) rfl rfl (by decide) (by decide) ?_
  intro v_8 h_11 sz_9 q_10
  obtain ⟨r1, kc1, rfl, E91, g91, A91⟩ := q_10
  refine Seg.iconst (v := 0) d10_21 (by decide) (pc' := 22) rfl ?_
  have F_12 := A_b_5.ext E91
  have F_13 := F_value_b_5.ext E91
  have F_14 := F_coder_b_5.ext E91
  refine Seg.callN (y' := (⟨"java/lang/String", "<init>", "([BB)V"⟩ : MethodName)) (a := b_5) rfl (wd G 52 rfl) (wd G 53 rfl) (wd G 54 rfl) ⟨by decide, by decide⟩ (Pays.of_ct (W := 1) (ct_sibb G b_5 r1 .null (.int 0) h_11 F_12 F_13 F_14) (allS (List.mem_of_getElem? (i := 0) rfl) all0) (wd G 54 rfl) (wd G 13 rfl) (by decide) (by decide) rfl rfl) (argsL := [(.ref r1), (.int (0 : Int32))]) (rest := [(.ref b_5)]) rfl (lenOf pd_25 rfl) rfl (Nat.le_of_eq rfl) rfl d10_22 (pc' := 25) rfl (k' := 2) (n' := 5) rfl rfl (by decide) (by decide) ?_
  intro v_15 h_18 sz_16 q_17
  obtain ⟨rfl, K92, F92, F93⟩ := q_17
  have F_19 := (A91.keep K92 (ninS (Nat.ne_of_gt (Nat.lt_of_lt_of_le l_b_5 (Nat.le_trans (Nat.le_refl _) g91))) nin0))
  have E_20 : Ext h0 h_11 := ext_tr E_6 E91
  have E_21 : Ext h0 h_18 := ext_kp E_20 K92 (allS (Nat.le_trans (ext_rfl _).1 (Nat.le_of_eq e_b_5)) all0)
  have F_22 := (F_12.keep K92)
  exact Seg.retA rfl rfl rfl d10_25 (by decide) (by decide) ⟨b_5, rfl, E_21, r1, kc1, 0, 1, _, F_22, F92, F93, F_19, StrChars.Road.codOf (cs := [u]) rfl (fun c hc' => by cases List.mem_singleton.mp hc'; exact hc.2), le16 (fun c hc' => by cases List.mem_singleton.mp hc'; exact hc), (by decide : 1 ≤ 4000)⟩
theorem d3_0 : decode method_5_code 0 = .ok (.iload_n 0, 1) := by decide +kernel
theorem d3_1 : decode method_5_code 1 = .ok (.iconst 1, 1) := by decide +kernel
theorem d3_2 : decode method_5_code 2 = .ok (.if_icmp .ne 8, 3) := by decide +kernel
theorem d3_5 : decode method_5_code 5 = .ok (.iload_n 1, 1) := by decide +kernel
theorem d3_6 : decode method_5_code 6 = .ok (.invokestatic 17, 3) := by decide +kernel
theorem pd_26 : parseMethodDescriptor "(C)Ljava/lang/String;" = some ⟨[.char], some (.object "java/lang/String")⟩ := by decide +kernel
theorem d3_9 : decode method_5_code 9 = .ok (.areturn, 1) := by decide +kernel
theorem ef_ct_mk1 (u : Int32) (u' : Int32) (m : MethodId) : entryFrame m #[(.int (1 : Int32)), (.int u), (.int u')] 3 = mkF m 0 #[.val (.int (1 : Int32)), .val (.int u), .val (.int u')] [] := by first | (simp [entryFrame, mkF, argsToLocals, Value.category]; done) | rfl
set_option maxRecDepth 65536 in
set_option maxHeartbeats 4000000 in
theorem ct_mk1 {l : Launch} {Z : State} {a0 : Array Value} (G : Env1 Z a0) (u : Int32) (u' : Int32) (h0 : Heap) (z0 : ¬ u < 0 ∧ ¬ (255 : Int32) < u) (z1 : ¬ u' < 0 ∧ ¬ (255 : Int32) < u') :
    Ct l Z EL1 [] [] (⟨"com/example/kredential/kredential/ResourceToStringPinLaw", "make", "(ICC)Ljava/lang/String;"⟩ : MethodName) method_5_code 3 (some (.object "java/lang/String")) ({ frames := 3, cells := 2, slots := 5, locals := 39 } : Room) #[(.int (1 : Int32)), (.int u), (.int u')] h0 (fun v h => ∃ r, v = some (.ref r) ∧ Ext h0 h ∧ Str Z h r [u]) := by
  refine Ct.of_seg (a0 := a0) (plainFor_of_name pn_com_example_kredential_kredential_ResourceToStringPinLaw) G.2.1 (ef_ct_mk1 u u') ?_
  refine Seg.iloadN d3_0 rfl (pc' := 1) rfl ?_
  refine Seg.iconst (v := 1) d3_1 (by decide) (pc' := 2) rfl ?_
  refine Seg.icN d3_2 (by decide) (pc' := 5) rfl ?_
  refine Seg.iloadN d3_5 rfl (pc' := 6) rfl ?_
  refine Seg.callS (y' := (⟨"java/lang/String", "valueOf", "(C)Ljava/lang/String;"⟩ : MethodName)) (wd G 41 rfl) (wd G 42 rfl) (wd G 13 rfl) (wd G 43 rfl) ⟨by decide, by decide⟩ (Pays.of_ct (W := 0) (ct_vof G u h0 z0) all0 (wd G 43 rfl) (wd G 13 rfl) (by decide) (by decide) rfl rfl) (argsL := [(.int u)]) (rest := []) rfl (lenOf pd_26 rfl) rfl (Nat.le_of_eq rfl) rfl d3_6 (pc' := 9) rfl (k' := 2) (n' := 5) rfl rfl (by decide) (by decide) ?_
  intro v_1 h_4 sz_2 q_3
  obtain ⟨r, rfl, E1, F1⟩ := q_3
  exact Seg.retA rfl rfl rfl d3_9 (by decide) (by decide) ⟨r, rfl, E1, F1⟩
theorem d3_10 : decode method_5_code 10 = .ok (.new 8, 3) := by decide +kernel
theorem d3_13 : decode method_5_code 13 = .ok (.dup, 1) := by decide +kernel
theorem d3_14 : decode method_5_code 14 = .ok (.iconst 2, 1) := by decide +kernel
theorem d3_15 : decode method_5_code 15 = .ok (.newarray .char, 2) := by decide +kernel
theorem d3_17 : decode method_5_code 17 = .ok (.dup, 1) := by decide +kernel
theorem d3_18 : decode method_5_code 18 = .ok (.iconst 0, 1) := by decide +kernel
theorem d3_19 : decode method_5_code 19 = .ok (.iload_n 1, 1) := by decide +kernel
theorem d3_20 : decode method_5_code 20 = .ok (.castore, 1) := by decide +kernel
theorem d3_21 : decode method_5_code 21 = .ok (.dup, 1) := by decide +kernel
theorem d3_22 : decode method_5_code 22 = .ok (.iconst 1, 1) := by decide +kernel
theorem d3_23 : decode method_5_code 23 = .ok (.iload_n 2, 1) := by decide +kernel
theorem d3_24 : decode method_5_code 24 = .ok (.castore, 1) := by decide +kernel
theorem d3_25 : decode method_5_code 25 = .ok (.invokespecial 21, 3) := by decide +kernel
theorem pd_27 : parseMethodDescriptor "([C)V" = some ⟨[(.array .char)], none⟩ := by decide +kernel
theorem d3_28 : decode method_5_code 28 = .ok (.areturn, 1) := by decide +kernel
theorem ef_ct_mk2 (u : Int32) (u' : Int32) (m : MethodId) : entryFrame m #[(.int (2 : Int32)), (.int u), (.int u')] 3 = mkF m 0 #[.val (.int (2 : Int32)), .val (.int u), .val (.int u')] [] := by first | (simp [entryFrame, mkF, argsToLocals, Value.category]; done) | rfl
set_option maxRecDepth 65536 in
set_option maxHeartbeats 4000000 in
theorem ct_mk2 {l : Launch} {Z : State} {a0 : Array Value} (G : Env1 Z a0) (u : Int32) (u' : Int32) (h0 : Heap) (z0 : ¬ u < 0 ∧ ¬ (255 : Int32) < u) (z1 : ¬ u' < 0 ∧ ¬ (255 : Int32) < u') :
    Ct l Z EL1 [] [] (⟨"com/example/kredential/kredential/ResourceToStringPinLaw", "make", "(ICC)Ljava/lang/String;"⟩ : MethodName) method_5_code 3 (some (.object "java/lang/String")) ({ frames := 4, cells := 3, slots := 8, locals := 66 } : Room) #[(.int (2 : Int32)), (.int u), (.int u')] h0 (fun v h => ∃ r, v = some (.ref r) ∧ Ext h0 h ∧ Str Z h r [u, u']) := by
  refine Ct.of_seg (a0 := a0) (plainFor_of_name pn_com_example_kredential_kredential_ResourceToStringPinLaw) G.2.1 (ef_ct_mk2 u u') ?_
  refine Seg.iloadN d3_0 rfl (pc' := 1) rfl ?_
  refine Seg.iconst (v := 1) d3_1 (by decide) (pc' := 2) rfl ?_
  refine Seg.icY (pc' := 10) d3_2 (by decide) (by decide) (by decide) ?_
  refine Seg.newO (wd G 11 rfl) (wd G 12 rfl) (wd G 13 rfl) d3_10 (pc' := 13) rfl (k' := 1) (n' := 4) rfl rfl (by decide) (by decide) ?_
  intro b_1 h_3 E_2 e_b_1 l_b_1 A_b_1 D_b_1
  have F_coder_b_1 : Fld Z h_3 b_1 "java/lang/String" "coder" "B" (.int (0 : Int32)) := D_b_1 (Or.inr (wd G 38 rfl)) (ty := .byte) (by decide)
  have F_value_b_1 : Fld Z h_3 b_1 "java/lang/String" "value" "[B" Value.null := D_b_1 (Or.inr (wd G 40 rfl)) (ty := (.array .byte)) (by decide)
  refine Seg.dup d3_13 rfl (pc' := 14) rfl ?_
  refine Seg.iconst (v := 2) d3_14 (by decide) (pc' := 15) rfl ?_
  refine Seg.newP (ty := .char) (dv := (.int 0)) rfl rfl (wd G 14 rfl) d3_15 (pc' := 17) rfl (by decide) (cap := 2) (by decide) (by decide) (k' := 2) (n' := 6) rfl rfl (by decide) (by decide) ?_
  intro b_4 h_6 k_b_4 E_5 e_b_4 l_b_4 A_b_4
  replace A_b_4 : Arv Z h_6 b_4 k_b_4 .char (2 : Int32) [(.int (0 : Int32)), (.int (0 : Int32))] (.int 0) := A_b_4.pad (pad_rep [] (.int 0) 2)
  refine Seg.dup d3_17 rfl (pc' := 18) rfl ?_
  refine Seg.iconst (v := 0) d3_18 (by decide) (pc' := 19) rfl ?_
  refine Seg.iloadN d3_19 rfl (pc' := 20) rfl ?_
  refine Seg.castore (v' := u) (i := 0) A_b_4 ⟨by decide, by decide⟩ rfl (Nat.le_of_ble_eq_true rfl) (nar255 z0) (List.mem_of_getElem? (i := 0) rfl) d3_20 (pc' := 21) rfl ?_
  intro h_9 W_7 A_8
  replace A_8 : Arv Z h_9 b_4 k_b_4 .char (2 : Int32) [(.int u), (.int (0 : Int32))] (.int 0) := A_8
  refine Seg.dup d3_21 rfl (pc' := 22) rfl ?_
  refine Seg.iconst (v := 1) d3_22 (by decide) (pc' := 23) rfl ?_
  refine Seg.iloadN d3_23 rfl (pc' := 24) rfl ?_
  refine Seg.castore (v' := u') (i := 1) A_8 ⟨by decide, by decide⟩ rfl (Nat.le_of_ble_eq_true rfl) (nar255 z1) (List.mem_of_getElem? (i := 0) rfl) d3_24 (pc' := 25) rfl ?_
  intro h_12 W_10 A_11
  replace A_11 : Arv Z h_12 b_4 k_b_4 .char (2 : Int32) [(.int u), (.int u')] (.int 0) := A_11
  have E_13 : Ext h_3 h_9 := ext_wr E_5 W_7 (Nat.le_trans (ext_rfl _).1 (Nat.le_of_eq e_b_4))
  have E_14 : Ext h_3 h_12 := ext_wr E_13 W_10 (Nat.le_trans (ext_rfl _).1 (Nat.le_of_eq e_b_4))
  have F_15 := A_b_1.ext E_14
  have F_16 := F_value_b_1.ext E_14
  have F_17 := F_coder_b_1.ext E_14
  refine Seg.callN (y' := (⟨"java/lang/String", "<init>", "([C)V"⟩ : MethodName)) (a := b_1) rfl (wd G 15 rfl) (wd G 16 rfl) (wd G 17 rfl) ⟨by decide, by decide⟩ (pays_str (W := 1) G [u, u'] 2 h_12 F_15 F_16 F_17 A_11 rfl rfl (by decide) (by decide) (by intro c hc; simp only [List.mem_cons, List.not_mem_nil, or_false] at hc; rcases hc with rfl | rfl <;> assumption) (List.mem_of_getElem? (i := 1) rfl) (by decide) (by decide)) (argsL := [(.ref b_4)]) (rest := [(.ref b_1)]) rfl (lenOf pd_27 rfl) rfl (Nat.le_of_eq rfl) rfl d3_25 (pc' := 28) rfl (k' := 3) (n' := 8) rfl rfl (by decide) (by decide) ?_
  intro v_18 h_21 sz_19 q_20
  obtain ⟨rfl, K8, F8⟩ := q_20
  have E_22 : Ext h0 h_6 := ext_tr E_2 E_5
  have E_23 : Ext h0 h_9 := ext_wr E_22 W_7 (Nat.le_trans E_2.1 (Nat.le_of_eq e_b_4))
  have E_24 : Ext h0 h_12 := ext_wr E_23 W_10 (Nat.le_trans E_2.1 (Nat.le_of_eq e_b_4))
  have E_25 : Ext h0 h_21 := ext_kp E_24 K8 (allS (Nat.le_trans (ext_rfl _).1 (Nat.le_of_eq e_b_1)) all0)
  exact Seg.retA rfl rfl rfl d3_28 (by decide) (by decide) ⟨b_1, rfl, E_25, F8⟩
theorem d53_0 : decode method_4_code 0 = .ok (.iload_n 1, 1) := by decide +kernel
theorem d53_1 : decode method_4_code 1 = .ok (.ifCond .lt 24, 3) := by decide +kernel
theorem d53_4 : decode method_4_code 4 = .ok (.iload_n 1, 1) := by decide +kernel
theorem d53_5 : decode method_4_code 5 = .ok (.aload_n 0, 1) := by decide +kernel
theorem d53_6 : decode method_4_code 6 = .ok (.invokevirtual 7, 3) := by decide +kernel
theorem d53_9 : decode method_4_code 9 = .ok (.if_icmp .ge 16, 3) := by decide +kernel
theorem d53_12 : decode method_4_code 12 = .ok (.aload_n 0, 1) := by decide +kernel
theorem d53_13 : decode method_4_code 13 = .ok (.iload_n 1, 1) := by decide +kernel
theorem d53_14 : decode method_4_code 14 = .ok (.invokevirtual 13, 3) := by decide +kernel
theorem d53_17 : decode method_4_code 17 = .ok (.iload_n 2, 1) := by decide +kernel
theorem d53_18 : decode method_4_code 18 = .ok (.if_icmp .ne 7, 3) := by decide +kernel
theorem d53_21 : decode method_4_code 21 = .ok (.iconst 1, 1) := by decide +kernel
theorem d53_22 : decode method_4_code 22 = .ok (.goto 4, 3) := by decide +kernel
theorem d53_26 : decode method_4_code 26 = .ok (.ireturn, 1) := by decide +kernel
theorem ef_ct_at (s : Addr) (cs : List Int32) (i : Nat) (u : Int32) (m : MethodId) : entryFrame m #[(.ref s), (.int (Int32.ofNat i)), (.int u)] 3 = mkF m 0 #[.val (.ref s), .val (.int (Int32.ofNat i)), .val (.int u)] [] := by first | (simp [entryFrame, mkF, argsToLocals, Value.category]; done) | rfl
set_option maxRecDepth 65536 in
set_option maxHeartbeats 4000000 in
theorem ct_at {l : Launch} {Z : State} {a0 : Array Value} (G : Env1 Z a0) (s : Addr) (cs : List Int32) (i : Nat) (u : Int32) (h0 : Heap) (F : Str Z h0 s cs) (hc : ∀ c ∈ cs, ¬ c < 0 ∧ ¬ (255 : Int32) < c) (hi : i < cs.length) (hu : cs.getD i 0 = u) :
    Ct l Z EL1 [] [] (⟨"com/example/kredential/kredential/ResourceToStringPinLaw", "at", "(Ljava/lang/String;IC)Z"⟩ : MethodName) method_4_code 3 (some .boolean) ({ frames := 4, cells := 0, slots := 0, locals := 53 } : Room) #[(.ref s), (.int (Int32.ofNat i)), (.int u)] h0 (fun v h => v = some (.int 1) ∧ h0 = h) := by
  refine Ct.of_seg (a0 := a0) (plainFor_of_name pn_com_example_kredential_kredential_ResourceToStringPinLaw) G.2.1 (ef_ct_at s cs i u) ?_
  have f1 := F.exa
  have f7 : cs.length ≤ 4000 := by obtain ⟨_, _, _, _, _, _, _, _, _, _, _, q⟩ := F; exact q
  refine Seg.iloadN d53_0 rfl (pc' := 1) rfl ?_
  refine Seg.ifN d53_1 (XT.i0_lt_f (n32nn (by omega))) (pc' := 4) rfl ?_
  refine Seg.iloadN d53_4 rfl (pc' := 5) rfl ?_
  refine Seg.aloadN d53_5 rfl rfl (pc' := 6) rfl ?_
  refine Seg.callV (y' := (⟨"java/lang/String", "length", "()I"⟩ : MethodName)) (z := (⟨"java/lang/String", "length", "()I"⟩ : MethodName)) (a := s) (wd G 272 rfl) (wd G 79 rfl) (nf_sel (wd G 81 rfl)) (wd G 81 rfl) (wd G 80 rfl) ⟨by decide, by decide⟩ f1 (pays_len (W := 1) G h0 F (by decide) (by decide)) (argsL := []) (rest := [(.int (Int32.ofNat i))]) rfl (lenOf pd_0 rfl) rfl (Nat.le_of_eq rfl) rfl d53_6 (pc' := 9) rfl (k' := 0) (n' := 0) rfl rfl (by decide) (by decide) ?_
  intro v_1 h_4 sz_2 q_3
  obtain ⟨rfl, rfl⟩ := q_3
  refine Seg.icN d53_9 (XT.ii_ge_f (n32lt hi (by omega))) (pc' := 12) rfl ?_
  refine Seg.aloadN d53_12 rfl rfl (pc' := 13) rfl ?_
  refine Seg.iloadN d53_13 rfl (pc' := 14) rfl ?_
  refine Seg.callV (y' := (⟨"java/lang/String", "charAt", "(I)C"⟩ : MethodName)) (z := (⟨"java/lang/String", "charAt", "(I)C"⟩ : MethodName)) (a := s) (wd G 276 rfl) (wd G 93 rfl) (nf_sel (wd G 95 rfl)) (wd G 95 rfl) (wd G 94 rfl) ⟨by decide, by decide⟩ f1 (pays_chr (W := 0) G h0 i F (fun c q => (hc c q).2) hi rfl (by decide) (by decide)) (argsL := [(.int (Int32.ofNat i))]) (rest := []) rfl (lenOf pd_1 rfl) rfl (Nat.le_of_eq rfl) rfl d53_14 (pc' := 17) rfl (k' := 0) (n' := 0) rfl rfl (by decide) (by decide) ?_
  intro v_5 h_8 sz_6 q_7
  obtain ⟨rfl, rfl⟩ := q_7
  refine Seg.iloadN d53_17 rfl (pc' := 18) rfl ?_
  refine Seg.icN d53_18 (XT.ii_ne_f hu) (pc' := 21) rfl ?_
  refine Seg.iconst (v := 1) d53_21 (by decide) (pc' := 22) rfl ?_
  refine Seg.goto (pc' := 26) d53_22 (by decide) (by decide) ?_
  exact Seg.retN (t := .boolean) (w := (1 : Int32)) rfl (by decide) (by decide) d53_26 (by decide) (by decide) ⟨rfl, rfl⟩
theorem pd_28 : parseMethodDescriptor "(Ljava/lang/String;IC)Z" = some ⟨[(.object "java/lang/String"), .int, .char], some .boolean⟩ := by decide +kernel
set_option maxRecDepth 65536 in
set_option maxHeartbeats 4000000 in
theorem sgt111 {l : Launch} {Z : State} {a0 : Array Value} (G : Env1 Z a0) (p1 : Int32) (p2 : Int32) (p3 : Int32) (p4 : Int32) (t1 : Int32) (t2 : Int32) (i1 : Int32) (i2 : Int32) (o1 : Int32) (o2 : Int32) (s1 : Addr) (s2 : Addr) (s3 : Addr) (rx : Addr) (z : Addr) (h : Heap) (F : Str Z h z [82, 101, 115, 111, 117, 114, 99, 101, 91, t1, 47, i1, 44, 32, 111, 119, 110, 101, 114, 32, o1, 93]) (rt1 : ¬ t1 < 0 ∧ ¬ (255 : Int32) < t1) (rt2 : ¬ t2 < 0 ∧ ¬ (255 : Int32) < t2) (ri1 : ¬ i1 < 0 ∧ ¬ (255 : Int32) < i1) (ri2 : ¬ i2 < 0 ∧ ¬ (255 : Int32) < i2) (ro1 : ¬ o1 < 0 ∧ ¬ (255 : Int32) < o1) (ro2 : ¬ o2 < 0 ∧ ¬ (255 : Int32) < o2) :
    Seg l Z a0 EL1 x code maxLocals ret room_1 (fun v h => v = some (.int 1)) h 50 6000 [] 176 #[.val (.int p1), .val (.int p2), .val (.int p3), .val (.int p4), .val (.int (1 : Int32)), .val (.int (1 : Int32)), .val (.int (1 : Int32)), .val (.int t1), .val (.int t2), .val (.int i1), .val (.int i2), .val (.int o1), .val (.int o2), .val (.ref s1), .val (.ref s2), .val (.ref s3), .val (.ref rx), .unset, .unset, .unset] [(.ref z)] := by
  have f1 := F.exa
  have hall : ∀ c ∈ [82, 101, 115, 111, 117, 114, 99, 101, 91, t1, 47, i1, 44, 32, 111, 119, 110, 101, 114, 32, o1, 93], ¬ c < 0 ∧ ¬ (255 : Int32) < c := by
    intro c hc
    simp only [List.mem_cons, List.not_mem_nil, or_false] at hc
    rcases hc with rfl | rfl | rfl | rfl | rfl | rfl | rfl | rfl | rfl | rfl | rfl | rfl | rfl | rfl | rfl | rfl | rfl | rfl | rfl | rfl | rfl | rfl <;> first | assumption | decide
  refine Seg.astore (L' := #[.val (.int p1), .val (.int p2), .val (.int p3), .val (.int p4), .val (.int (1 : Int32)), .val (.int (1 : Int32)), .val (.int (1 : Int32)), .val (.int t1), .val (.int t2), .val (.int i1), .val (.int i2), .val (.int o1), .val (.int o2), .val (.ref s1), .val (.ref s2), .val (.ref s3), .val (.ref rx), .val (.ref z), .unset, .unset]) at_176 rfl rfl (pc' := 178) rfl ?_
  refine Seg.aload at_178 rfl rfl (pc' := 180) rfl ?_
  refine Seg.callV (y' := (⟨"java/lang/String", "length", "()I"⟩ : MethodName)) (z := (⟨"java/lang/String", "length", "()I"⟩ : MethodName)) (a := z) (wd G 272 rfl) (wd G 79 rfl) (nf_sel (wd G 81 rfl)) (wd G 81 rfl) (wd G 80 rfl) ⟨by decide, by decide⟩ f1 ((pays_len (W := 0) G h F (by decide) (by decide)).post (Q' := fun v h' => v = some (.int 22) ∧ h = h') fun v h' q => ⟨q.1, q.2⟩) (argsL := []) (rest := []) rfl (lenOf pd_0 rfl) rfl (Nat.le_of_eq rfl) rfl at_180 (pc' := 183) rfl (k' := 50) (n' := 6000) rfl rfl (by decide) (by decide) ?_
  intro v_1 h_4 sz_2 q_3
  obtain ⟨rfl, rfl⟩ := q_3
  refine Seg.bipush (v := 19) at_183 (by decide) (pc' := 185) rfl ?_
  refine Seg.iload at_185 rfl (pc' := 187) rfl ?_
  refine Seg.iadd (v := (20 : Int32)) at_187 (by decide) (pc' := 188) rfl ?_
  refine Seg.iload at_188 rfl (pc' := 190) rfl ?_
  refine Seg.iadd (v := (21 : Int32)) at_190 (by decide) (pc' := 191) rfl ?_
  refine Seg.iload at_191 rfl (pc' := 193) rfl ?_
  refine Seg.iadd (v := (22 : Int32)) at_193 (by decide) (pc' := 194) rfl ?_
  refine Seg.icN at_194 (by decide) (pc' := 197) rfl ?_
  refine Seg.iconst (v := 1) at_197 (by decide) (pc' := 198) rfl ?_
  refine Seg.goto (pc' := 202) at_198 (by decide) (by decide) ?_
  refine Seg.istore (L' := #[.val (.int p1), .val (.int p2), .val (.int p3), .val (.int p4), .val (.int (1 : Int32)), .val (.int (1 : Int32)), .val (.int (1 : Int32)), .val (.int t1), .val (.int t2), .val (.int i1), .val (.int i2), .val (.int o1), .val (.int o2), .val (.ref s1), .val (.ref s2), .val (.ref s3), .val (.ref rx), .val (.ref z), .val (.int (1 : Int32)), .unset]) at_202 rfl (pc' := 204) rfl ?_
  refine Seg.iload at_204 rfl (pc' := 206) rfl ?_
  refine Seg.ifN at_206 (by decide) (pc' := 209) rfl ?_
  refine Seg.aload at_209 rfl rfl (pc' := 211) rfl ?_
  refine Seg.iconst (v := 0) at_211 (by decide) (pc' := 212) rfl ?_
  refine Seg.bipush (v := 82) at_212 (by decide) (pc' := 214) rfl ?_
  refine Seg.callS (y' := (⟨"com/example/kredential/kredential/ResourceToStringPinLaw", "at", "(Ljava/lang/String;IC)Z"⟩ : MethodName)) (wd G 273 rfl) (wd G 274 rfl) (wd G 3 rfl) (wd G 275 rfl) ⟨by decide, by decide⟩ (Pays.of_ct (W := 0) (ct_at G z [82, 101, 115, 111, 117, 114, 99, 101, 91, t1, 47, i1, 44, 32, 111, 119, 110, 101, 114, 32, o1, 93] 0 (82 : Int32) h F hall (by decide : 0 < 22) rfl) all0 (wd G 275 rfl) (wd G 3 rfl) (by decide) (by decide) rfl rfl) (argsL := [(.ref z), (.int (0 : Int32)), (.int (82 : Int32))]) (rest := []) rfl (lenOf pd_28 rfl) rfl (Nat.le_of_eq rfl) rfl at_214 (pc' := 217) rfl (k' := 50) (n' := 6000) rfl rfl (by decide) (by decide) ?_
  intro v_5 h_8 sz_6 q_7
  obtain ⟨rfl, rfl⟩ := q_7
  refine Seg.ifN at_217 (by decide) (pc' := 220) rfl ?_
  refine Seg.aload at_220 rfl rfl (pc' := 222) rfl ?_
  refine Seg.iconst (v := 1) at_222 (by decide) (pc' := 223) rfl ?_
  refine Seg.bipush (v := 101) at_223 (by decide) (pc' := 225) rfl ?_
  refine Seg.callS (y' := (⟨"com/example/kredential/kredential/ResourceToStringPinLaw", "at", "(Ljava/lang/String;IC)Z"⟩ : MethodName)) (wd G 273 rfl) (wd G 274 rfl) (wd G 3 rfl) (wd G 275 rfl) ⟨by decide, by decide⟩ (Pays.of_ct (W := 0) (ct_at G z [82, 101, 115, 111, 117, 114, 99, 101, 91, t1, 47, i1, 44, 32, 111, 119, 110, 101, 114, 32, o1, 93] 1 (101 : Int32) h F hall (by decide : 1 < 22) rfl) all0 (wd G 275 rfl) (wd G 3 rfl) (by decide) (by decide) rfl rfl) (argsL := [(.ref z), (.int (1 : Int32)), (.int (101 : Int32))]) (rest := []) rfl (lenOf pd_28 rfl) rfl (Nat.le_of_eq rfl) rfl at_225 (pc' := 228) rfl (k' := 50) (n' := 6000) rfl rfl (by decide) (by decide) ?_
  intro v_9 h_12 sz_10 q_11
  obtain ⟨rfl, rfl⟩ := q_11
  refine Seg.ifN at_228 (by decide) (pc' := 231) rfl ?_
  refine Seg.aload at_231 rfl rfl (pc' := 233) rfl ?_
  refine Seg.iconst (v := 2) at_233 (by decide) (pc' := 234) rfl ?_
  refine Seg.bipush (v := 115) at_234 (by decide) (pc' := 236) rfl ?_
  refine Seg.callS (y' := (⟨"com/example/kredential/kredential/ResourceToStringPinLaw", "at", "(Ljava/lang/String;IC)Z"⟩ : MethodName)) (wd G 273 rfl) (wd G 274 rfl) (wd G 3 rfl) (wd G 275 rfl) ⟨by decide, by decide⟩ (Pays.of_ct (W := 0) (ct_at G z [82, 101, 115, 111, 117, 114, 99, 101, 91, t1, 47, i1, 44, 32, 111, 119, 110, 101, 114, 32, o1, 93] 2 (115 : Int32) h F hall (by decide : 2 < 22) rfl) all0 (wd G 275 rfl) (wd G 3 rfl) (by decide) (by decide) rfl rfl) (argsL := [(.ref z), (.int (2 : Int32)), (.int (115 : Int32))]) (rest := []) rfl (lenOf pd_28 rfl) rfl (Nat.le_of_eq rfl) rfl at_236 (pc' := 239) rfl (k' := 50) (n' := 6000) rfl rfl (by decide) (by decide) ?_
  intro v_13 h_16 sz_14 q_15
  obtain ⟨rfl, rfl⟩ := q_15
  refine Seg.ifN at_239 (by decide) (pc' := 242) rfl ?_
  refine Seg.aload at_242 rfl rfl (pc' := 244) rfl ?_
  refine Seg.iconst (v := 3) at_244 (by decide) (pc' := 245) rfl ?_
  refine Seg.bipush (v := 111) at_245 (by decide) (pc' := 247) rfl ?_
  refine Seg.callS (y' := (⟨"com/example/kredential/kredential/ResourceToStringPinLaw", "at", "(Ljava/lang/String;IC)Z"⟩ : MethodName)) (wd G 273 rfl) (wd G 274 rfl) (wd G 3 rfl) (wd G 275 rfl) ⟨by decide, by decide⟩ (Pays.of_ct (W := 0) (ct_at G z [82, 101, 115, 111, 117, 114, 99, 101, 91, t1, 47, i1, 44, 32, 111, 119, 110, 101, 114, 32, o1, 93] 3 (111 : Int32) h F hall (by decide : 3 < 22) rfl) all0 (wd G 275 rfl) (wd G 3 rfl) (by decide) (by decide) rfl rfl) (argsL := [(.ref z), (.int (3 : Int32)), (.int (111 : Int32))]) (rest := []) rfl (lenOf pd_28 rfl) rfl (Nat.le_of_eq rfl) rfl at_247 (pc' := 250) rfl (k' := 50) (n' := 6000) rfl rfl (by decide) (by decide) ?_
  intro v_17 h_20 sz_18 q_19
  obtain ⟨rfl, rfl⟩ := q_19
  refine Seg.ifN at_250 (by decide) (pc' := 253) rfl ?_
  refine Seg.aload at_253 rfl rfl (pc' := 255) rfl ?_
  refine Seg.iconst (v := 4) at_255 (by decide) (pc' := 256) rfl ?_
  refine Seg.bipush (v := 117) at_256 (by decide) (pc' := 258) rfl ?_
  refine Seg.callS (y' := (⟨"com/example/kredential/kredential/ResourceToStringPinLaw", "at", "(Ljava/lang/String;IC)Z"⟩ : MethodName)) (wd G 273 rfl) (wd G 274 rfl) (wd G 3 rfl) (wd G 275 rfl) ⟨by decide, by decide⟩ (Pays.of_ct (W := 0) (ct_at G z [82, 101, 115, 111, 117, 114, 99, 101, 91, t1, 47, i1, 44, 32, 111, 119, 110, 101, 114, 32, o1, 93] 4 (117 : Int32) h F hall (by decide : 4 < 22) rfl) all0 (wd G 275 rfl) (wd G 3 rfl) (by decide) (by decide) rfl rfl) (argsL := [(.ref z), (.int (4 : Int32)), (.int (117 : Int32))]) (rest := []) rfl (lenOf pd_28 rfl) rfl (Nat.le_of_eq rfl) rfl at_258 (pc' := 261) rfl (k' := 50) (n' := 6000) rfl rfl (by decide) (by decide) ?_
  intro v_21 h_24 sz_22 q_23
  obtain ⟨rfl, rfl⟩ := q_23
  refine Seg.ifN at_261 (by decide) (pc' := 264) rfl ?_
  refine Seg.aload at_264 rfl rfl (pc' := 266) rfl ?_
  refine Seg.iconst (v := 5) at_266 (by decide) (pc' := 267) rfl ?_
  refine Seg.bipush (v := 114) at_267 (by decide) (pc' := 269) rfl ?_
  refine Seg.callS (y' := (⟨"com/example/kredential/kredential/ResourceToStringPinLaw", "at", "(Ljava/lang/String;IC)Z"⟩ : MethodName)) (wd G 273 rfl) (wd G 274 rfl) (wd G 3 rfl) (wd G 275 rfl) ⟨by decide, by decide⟩ (Pays.of_ct (W := 0) (ct_at G z [82, 101, 115, 111, 117, 114, 99, 101, 91, t1, 47, i1, 44, 32, 111, 119, 110, 101, 114, 32, o1, 93] 5 (114 : Int32) h F hall (by decide : 5 < 22) rfl) all0 (wd G 275 rfl) (wd G 3 rfl) (by decide) (by decide) rfl rfl) (argsL := [(.ref z), (.int (5 : Int32)), (.int (114 : Int32))]) (rest := []) rfl (lenOf pd_28 rfl) rfl (Nat.le_of_eq rfl) rfl at_269 (pc' := 272) rfl (k' := 50) (n' := 6000) rfl rfl (by decide) (by decide) ?_
  intro v_25 h_28 sz_26 q_27
  obtain ⟨rfl, rfl⟩ := q_27
  refine Seg.ifN at_272 (by decide) (pc' := 275) rfl ?_
  refine Seg.aload at_275 rfl rfl (pc' := 277) rfl ?_
  refine Seg.bipush (v := 6) at_277 (by decide) (pc' := 279) rfl ?_
  refine Seg.bipush (v := 99) at_279 (by decide) (pc' := 281) rfl ?_
  refine Seg.callS (y' := (⟨"com/example/kredential/kredential/ResourceToStringPinLaw", "at", "(Ljava/lang/String;IC)Z"⟩ : MethodName)) (wd G 273 rfl) (wd G 274 rfl) (wd G 3 rfl) (wd G 275 rfl) ⟨by decide, by decide⟩ (Pays.of_ct (W := 0) (ct_at G z [82, 101, 115, 111, 117, 114, 99, 101, 91, t1, 47, i1, 44, 32, 111, 119, 110, 101, 114, 32, o1, 93] 6 (99 : Int32) h F hall (by decide : 6 < 22) rfl) all0 (wd G 275 rfl) (wd G 3 rfl) (by decide) (by decide) rfl rfl) (argsL := [(.ref z), (.int (6 : Int32)), (.int (99 : Int32))]) (rest := []) rfl (lenOf pd_28 rfl) rfl (Nat.le_of_eq rfl) rfl at_281 (pc' := 284) rfl (k' := 50) (n' := 6000) rfl rfl (by decide) (by decide) ?_
  intro v_29 h_32 sz_30 q_31
  obtain ⟨rfl, rfl⟩ := q_31
  refine Seg.ifN at_284 (by decide) (pc' := 287) rfl ?_
  refine Seg.aload at_287 rfl rfl (pc' := 289) rfl ?_
  refine Seg.bipush (v := 7) at_289 (by decide) (pc' := 291) rfl ?_
  refine Seg.bipush (v := 101) at_291 (by decide) (pc' := 293) rfl ?_
  refine Seg.callS (y' := (⟨"com/example/kredential/kredential/ResourceToStringPinLaw", "at", "(Ljava/lang/String;IC)Z"⟩ : MethodName)) (wd G 273 rfl) (wd G 274 rfl) (wd G 3 rfl) (wd G 275 rfl) ⟨by decide, by decide⟩ (Pays.of_ct (W := 0) (ct_at G z [82, 101, 115, 111, 117, 114, 99, 101, 91, t1, 47, i1, 44, 32, 111, 119, 110, 101, 114, 32, o1, 93] 7 (101 : Int32) h F hall (by decide : 7 < 22) rfl) all0 (wd G 275 rfl) (wd G 3 rfl) (by decide) (by decide) rfl rfl) (argsL := [(.ref z), (.int (7 : Int32)), (.int (101 : Int32))]) (rest := []) rfl (lenOf pd_28 rfl) rfl (Nat.le_of_eq rfl) rfl at_293 (pc' := 296) rfl (k' := 50) (n' := 6000) rfl rfl (by decide) (by decide) ?_
  intro v_33 h_36 sz_34 q_35
  obtain ⟨rfl, rfl⟩ := q_35
  refine Seg.ifN at_296 (by decide) (pc' := 299) rfl ?_
  refine Seg.aload at_299 rfl rfl (pc' := 301) rfl ?_
  refine Seg.bipush (v := 8) at_301 (by decide) (pc' := 303) rfl ?_
  refine Seg.bipush (v := 91) at_303 (by decide) (pc' := 305) rfl ?_
  refine Seg.callS (y' := (⟨"com/example/kredential/kredential/ResourceToStringPinLaw", "at", "(Ljava/lang/String;IC)Z"⟩ : MethodName)) (wd G 273 rfl) (wd G 274 rfl) (wd G 3 rfl) (wd G 275 rfl) ⟨by decide, by decide⟩ (Pays.of_ct (W := 0) (ct_at G z [82, 101, 115, 111, 117, 114, 99, 101, 91, t1, 47, i1, 44, 32, 111, 119, 110, 101, 114, 32, o1, 93] 8 (91 : Int32) h F hall (by decide : 8 < 22) rfl) all0 (wd G 275 rfl) (wd G 3 rfl) (by decide) (by decide) rfl rfl) (argsL := [(.ref z), (.int (8 : Int32)), (.int (91 : Int32))]) (rest := []) rfl (lenOf pd_28 rfl) rfl (Nat.le_of_eq rfl) rfl at_305 (pc' := 308) rfl (k' := 50) (n' := 6000) rfl rfl (by decide) (by decide) ?_
  intro v_37 h_40 sz_38 q_39
  obtain ⟨rfl, rfl⟩ := q_39
  refine Seg.ifN at_308 (by decide) (pc' := 311) rfl ?_
  refine Seg.iconst (v := 1) at_311 (by decide) (pc' := 312) rfl ?_
  refine Seg.goto (pc' := 316) at_312 (by decide) (by decide) ?_
  refine Seg.istore (L' := #[.val (.int p1), .val (.int p2), .val (.int p3), .val (.int p4), .val (.int (1 : Int32)), .val (.int (1 : Int32)), .val (.int (1 : Int32)), .val (.int t1), .val (.int t2), .val (.int i1), .val (.int i2), .val (.int o1), .val (.int o2), .val (.ref s1), .val (.ref s2), .val (.ref s3), .val (.ref rx), .val (.ref z), .val (.int (1 : Int32)), .unset]) at_316 rfl (pc' := 318) rfl ?_
  refine Seg.bipush (v := 9) at_318 (by decide) (pc' := 320) rfl ?_
  refine Seg.istore (L' := #[.val (.int p1), .val (.int p2), .val (.int p3), .val (.int p4), .val (.int (1 : Int32)), .val (.int (1 : Int32)), .val (.int (1 : Int32)), .val (.int t1), .val (.int t2), .val (.int i1), .val (.int i2), .val (.int o1), .val (.int o2), .val (.ref s1), .val (.ref s2), .val (.ref s3), .val (.ref rx), .val (.ref z), .val (.int (1 : Int32)), .val (.int (9 : Int32))]) at_320 rfl (pc' := 322) rfl ?_
  refine Seg.iload at_322 rfl (pc' := 324) rfl ?_
  refine Seg.ifN at_324 (by decide) (pc' := 327) rfl ?_
  refine Seg.aload at_327 rfl rfl (pc' := 329) rfl ?_
  refine Seg.iload at_329 rfl (pc' := 331) rfl ?_
  refine Seg.iload at_331 rfl (pc' := 333) rfl ?_
  refine Seg.callS (y' := (⟨"com/example/kredential/kredential/ResourceToStringPinLaw", "at", "(Ljava/lang/String;IC)Z"⟩ : MethodName)) (wd G 273 rfl) (wd G 274 rfl) (wd G 3 rfl) (wd G 275 rfl) ⟨by decide, by decide⟩ (Pays.of_ct (W := 0) (ct_at G z [82, 101, 115, 111, 117, 114, 99, 101, 91, t1, 47, i1, 44, 32, 111, 119, 110, 101, 114, 32, o1, 93] 9 t1 h F hall (by decide : 9 < 22) rfl) all0 (wd G 275 rfl) (wd G 3 rfl) (by decide) (by decide) rfl rfl) (argsL := [(.ref z), (.int (9 : Int32)), (.int t1)]) (rest := []) rfl (lenOf pd_28 rfl) rfl (Nat.le_of_eq rfl) rfl at_333 (pc' := 336) rfl (k' := 50) (n' := 6000) rfl rfl (by decide) (by decide) ?_
  intro v_41 h_44 sz_42 q_43
  obtain ⟨rfl, rfl⟩ := q_43
  refine Seg.ifN at_336 (by decide) (pc' := 339) rfl ?_
  refine Seg.iconst (v := 1) at_339 (by decide) (pc' := 340) rfl ?_
  refine Seg.goto (pc' := 344) at_340 (by decide) (by decide) ?_
  refine Seg.istore (L' := #[.val (.int p1), .val (.int p2), .val (.int p3), .val (.int p4), .val (.int (1 : Int32)), .val (.int (1 : Int32)), .val (.int (1 : Int32)), .val (.int t1), .val (.int t2), .val (.int i1), .val (.int i2), .val (.int o1), .val (.int o2), .val (.ref s1), .val (.ref s2), .val (.ref s3), .val (.ref rx), .val (.ref z), .val (.int (1 : Int32)), .val (.int (9 : Int32))]) at_344 rfl (pc' := 346) rfl ?_
  refine Seg.iload at_346 rfl (pc' := 348) rfl ?_
  refine Seg.iconst (v := 2) at_348 (by decide) (pc' := 349) rfl ?_
  refine Seg.icY (pc' := 378) at_349 (by decide) (by decide) (by decide) ?_
  refine Seg.iload at_378 rfl (pc' := 380) rfl ?_
  refine Seg.iload at_380 rfl (pc' := 382) rfl ?_
  refine Seg.iadd (v := (10 : Int32)) at_382 (by decide) (pc' := 383) rfl ?_
  refine Seg.istore (L' := #[.val (.int p1), .val (.int p2), .val (.int p3), .val (.int p4), .val (.int (1 : Int32)), .val (.int (1 : Int32)), .val (.int (1 : Int32)), .val (.int t1), .val (.int t2), .val (.int i1), .val (.int i2), .val (.int o1), .val (.int o2), .val (.ref s1), .val (.ref s2), .val (.ref s3), .val (.ref rx), .val (.ref z), .val (.int (1 : Int32)), .val (.int (10 : Int32))]) at_383 rfl (pc' := 385) rfl ?_
  refine Seg.iload at_385 rfl (pc' := 387) rfl ?_
  refine Seg.ifN at_387 (by decide) (pc' := 390) rfl ?_
  refine Seg.aload at_390 rfl rfl (pc' := 392) rfl ?_
  refine Seg.iload at_392 rfl (pc' := 394) rfl ?_
  refine Seg.bipush (v := 47) at_394 (by decide) (pc' := 396) rfl ?_
  refine Seg.callS (y' := (⟨"com/example/kredential/kredential/ResourceToStringPinLaw", "at", "(Ljava/lang/String;IC)Z"⟩ : MethodName)) (wd G 273 rfl) (wd G 274 rfl) (wd G 3 rfl) (wd G 275 rfl) ⟨by decide, by decide⟩ (Pays.of_ct (W := 0) (ct_at G z [82, 101, 115, 111, 117, 114, 99, 101, 91, t1, 47, i1, 44, 32, 111, 119, 110, 101, 114, 32, o1, 93] 10 (47 : Int32) h F hall (by decide : 10 < 22) rfl) all0 (wd G 275 rfl) (wd G 3 rfl) (by decide) (by decide) rfl rfl) (argsL := [(.ref z), (.int (10 : Int32)), (.int (47 : Int32))]) (rest := []) rfl (lenOf pd_28 rfl) rfl (Nat.le_of_eq rfl) rfl at_396 (pc' := 399) rfl (k' := 50) (n' := 6000) rfl rfl (by decide) (by decide) ?_
  intro v_45 h_48 sz_46 q_47
  obtain ⟨rfl, rfl⟩ := q_47
  refine Seg.ifN at_399 (by decide) (pc' := 402) rfl ?_
  refine Seg.iconst (v := 1) at_402 (by decide) (pc' := 403) rfl ?_
  refine Seg.goto (pc' := 407) at_403 (by decide) (by decide) ?_
  refine Seg.istore (L' := #[.val (.int p1), .val (.int p2), .val (.int p3), .val (.int p4), .val (.int (1 : Int32)), .val (.int (1 : Int32)), .val (.int (1 : Int32)), .val (.int t1), .val (.int t2), .val (.int i1), .val (.int i2), .val (.int o1), .val (.int o2), .val (.ref s1), .val (.ref s2), .val (.ref s3), .val (.ref rx), .val (.ref z), .val (.int (1 : Int32)), .val (.int (10 : Int32))]) at_407 rfl (pc' := 409) rfl ?_
  refine Seg.iload at_409 rfl (pc' := 411) rfl ?_
  refine Seg.iconst (v := 1) at_411 (by decide) (pc' := 412) rfl ?_
  refine Seg.iadd (v := (11 : Int32)) at_412 (by decide) (pc' := 413) rfl ?_
  refine Seg.istore (L' := #[.val (.int p1), .val (.int p2), .val (.int p3), .val (.int p4), .val (.int (1 : Int32)), .val (.int (1 : Int32)), .val (.int (1 : Int32)), .val (.int t1), .val (.int t2), .val (.int i1), .val (.int i2), .val (.int o1), .val (.int o2), .val (.ref s1), .val (.ref s2), .val (.ref s3), .val (.ref rx), .val (.ref z), .val (.int (1 : Int32)), .val (.int (11 : Int32))]) at_413 rfl (pc' := 415) rfl ?_
  refine Seg.iload at_415 rfl (pc' := 417) rfl ?_
  refine Seg.ifN at_417 (by decide) (pc' := 420) rfl ?_
  refine Seg.aload at_420 rfl rfl (pc' := 422) rfl ?_
  refine Seg.iload at_422 rfl (pc' := 424) rfl ?_
  refine Seg.iload at_424 rfl (pc' := 426) rfl ?_
  refine Seg.callS (y' := (⟨"com/example/kredential/kredential/ResourceToStringPinLaw", "at", "(Ljava/lang/String;IC)Z"⟩ : MethodName)) (wd G 273 rfl) (wd G 274 rfl) (wd G 3 rfl) (wd G 275 rfl) ⟨by decide, by decide⟩ (Pays.of_ct (W := 0) (ct_at G z [82, 101, 115, 111, 117, 114, 99, 101, 91, t1, 47, i1, 44, 32, 111, 119, 110, 101, 114, 32, o1, 93] 11 i1 h F hall (by decide : 11 < 22) rfl) all0 (wd G 275 rfl) (wd G 3 rfl) (by decide) (by decide) rfl rfl) (argsL := [(.ref z), (.int (11 : Int32)), (.int i1)]) (rest := []) rfl (lenOf pd_28 rfl) rfl (Nat.le_of_eq rfl) rfl at_426 (pc' := 429) rfl (k' := 50) (n' := 6000) rfl rfl (by decide) (by decide) ?_
  intro v_49 h_52 sz_50 q_51
  obtain ⟨rfl, rfl⟩ := q_51
  refine Seg.ifN at_429 (by decide) (pc' := 432) rfl ?_
  refine Seg.iconst (v := 1) at_432 (by decide) (pc' := 433) rfl ?_
  refine Seg.goto (pc' := 437) at_433 (by decide) (by decide) ?_
  refine Seg.istore (L' := #[.val (.int p1), .val (.int p2), .val (.int p3), .val (.int p4), .val (.int (1 : Int32)), .val (.int (1 : Int32)), .val (.int (1 : Int32)), .val (.int t1), .val (.int t2), .val (.int i1), .val (.int i2), .val (.int o1), .val (.int o2), .val (.ref s1), .val (.ref s2), .val (.ref s3), .val (.ref rx), .val (.ref z), .val (.int (1 : Int32)), .val (.int (11 : Int32))]) at_437 rfl (pc' := 439) rfl ?_
  refine Seg.iload at_439 rfl (pc' := 441) rfl ?_
  refine Seg.iconst (v := 2) at_441 (by decide) (pc' := 442) rfl ?_
  refine Seg.icY (pc' := 471) at_442 (by decide) (by decide) (by decide) ?_
  refine Seg.iload at_471 rfl (pc' := 473) rfl ?_
  refine Seg.iload at_473 rfl (pc' := 475) rfl ?_
  refine Seg.iadd (v := (12 : Int32)) at_475 (by decide) (pc' := 476) rfl ?_
  refine Seg.istore (L' := #[.val (.int p1), .val (.int p2), .val (.int p3), .val (.int p4), .val (.int (1 : Int32)), .val (.int (1 : Int32)), .val (.int (1 : Int32)), .val (.int t1), .val (.int t2), .val (.int i1), .val (.int i2), .val (.int o1), .val (.int o2), .val (.ref s1), .val (.ref s2), .val (.ref s3), .val (.ref rx), .val (.ref z), .val (.int (1 : Int32)), .val (.int (12 : Int32))]) at_476 rfl (pc' := 478) rfl ?_
  refine Seg.iload at_478 rfl (pc' := 480) rfl ?_
  refine Seg.ifN at_480 (by decide) (pc' := 483) rfl ?_
  refine Seg.aload at_483 rfl rfl (pc' := 485) rfl ?_
  refine Seg.iload at_485 rfl (pc' := 487) rfl ?_
  refine Seg.bipush (v := 44) at_487 (by decide) (pc' := 489) rfl ?_
  refine Seg.callS (y' := (⟨"com/example/kredential/kredential/ResourceToStringPinLaw", "at", "(Ljava/lang/String;IC)Z"⟩ : MethodName)) (wd G 273 rfl) (wd G 274 rfl) (wd G 3 rfl) (wd G 275 rfl) ⟨by decide, by decide⟩ (Pays.of_ct (W := 0) (ct_at G z [82, 101, 115, 111, 117, 114, 99, 101, 91, t1, 47, i1, 44, 32, 111, 119, 110, 101, 114, 32, o1, 93] 12 (44 : Int32) h F hall (by decide : 12 < 22) rfl) all0 (wd G 275 rfl) (wd G 3 rfl) (by decide) (by decide) rfl rfl) (argsL := [(.ref z), (.int (12 : Int32)), (.int (44 : Int32))]) (rest := []) rfl (lenOf pd_28 rfl) rfl (Nat.le_of_eq rfl) rfl at_489 (pc' := 492) rfl (k' := 50) (n' := 6000) rfl rfl (by decide) (by decide) ?_
  intro v_53 h_56 sz_54 q_55
  obtain ⟨rfl, rfl⟩ := q_55
  refine Seg.ifN at_492 (by decide) (pc' := 495) rfl ?_
  refine Seg.aload at_495 rfl rfl (pc' := 497) rfl ?_
  refine Seg.iload at_497 rfl (pc' := 499) rfl ?_
  refine Seg.iconst (v := 1) at_499 (by decide) (pc' := 500) rfl ?_
  refine Seg.iadd (v := (13 : Int32)) at_500 (by decide) (pc' := 501) rfl ?_
  refine Seg.bipush (v := 32) at_501 (by decide) (pc' := 503) rfl ?_
  refine Seg.callS (y' := (⟨"com/example/kredential/kredential/ResourceToStringPinLaw", "at", "(Ljava/lang/String;IC)Z"⟩ : MethodName)) (wd G 273 rfl) (wd G 274 rfl) (wd G 3 rfl) (wd G 275 rfl) ⟨by decide, by decide⟩ (Pays.of_ct (W := 0) (ct_at G z [82, 101, 115, 111, 117, 114, 99, 101, 91, t1, 47, i1, 44, 32, 111, 119, 110, 101, 114, 32, o1, 93] 13 (32 : Int32) h F hall (by decide : 13 < 22) rfl) all0 (wd G 275 rfl) (wd G 3 rfl) (by decide) (by decide) rfl rfl) (argsL := [(.ref z), (.int (13 : Int32)), (.int (32 : Int32))]) (rest := []) rfl (lenOf pd_28 rfl) rfl (Nat.le_of_eq rfl) rfl at_503 (pc' := 506) rfl (k' := 50) (n' := 6000) rfl rfl (by decide) (by decide) ?_
  intro v_57 h_60 sz_58 q_59
  obtain ⟨rfl, rfl⟩ := q_59
  refine Seg.ifN at_506 (by decide) (pc' := 509) rfl ?_
  refine Seg.aload at_509 rfl rfl (pc' := 511) rfl ?_
  refine Seg.iload at_511 rfl (pc' := 513) rfl ?_
  refine Seg.iconst (v := 2) at_513 (by decide) (pc' := 514) rfl ?_
  refine Seg.iadd (v := (14 : Int32)) at_514 (by decide) (pc' := 515) rfl ?_
  refine Seg.bipush (v := 111) at_515 (by decide) (pc' := 517) rfl ?_
  refine Seg.callS (y' := (⟨"com/example/kredential/kredential/ResourceToStringPinLaw", "at", "(Ljava/lang/String;IC)Z"⟩ : MethodName)) (wd G 273 rfl) (wd G 274 rfl) (wd G 3 rfl) (wd G 275 rfl) ⟨by decide, by decide⟩ (Pays.of_ct (W := 0) (ct_at G z [82, 101, 115, 111, 117, 114, 99, 101, 91, t1, 47, i1, 44, 32, 111, 119, 110, 101, 114, 32, o1, 93] 14 (111 : Int32) h F hall (by decide : 14 < 22) rfl) all0 (wd G 275 rfl) (wd G 3 rfl) (by decide) (by decide) rfl rfl) (argsL := [(.ref z), (.int (14 : Int32)), (.int (111 : Int32))]) (rest := []) rfl (lenOf pd_28 rfl) rfl (Nat.le_of_eq rfl) rfl at_517 (pc' := 520) rfl (k' := 50) (n' := 6000) rfl rfl (by decide) (by decide) ?_
  intro v_61 h_64 sz_62 q_63
  obtain ⟨rfl, rfl⟩ := q_63
  refine Seg.ifN at_520 (by decide) (pc' := 523) rfl ?_
  refine Seg.aload at_523 rfl rfl (pc' := 525) rfl ?_
  refine Seg.iload at_525 rfl (pc' := 527) rfl ?_
  refine Seg.iconst (v := 3) at_527 (by decide) (pc' := 528) rfl ?_
  refine Seg.iadd (v := (15 : Int32)) at_528 (by decide) (pc' := 529) rfl ?_
  refine Seg.bipush (v := 119) at_529 (by decide) (pc' := 531) rfl ?_
  refine Seg.callS (y' := (⟨"com/example/kredential/kredential/ResourceToStringPinLaw", "at", "(Ljava/lang/String;IC)Z"⟩ : MethodName)) (wd G 273 rfl) (wd G 274 rfl) (wd G 3 rfl) (wd G 275 rfl) ⟨by decide, by decide⟩ (Pays.of_ct (W := 0) (ct_at G z [82, 101, 115, 111, 117, 114, 99, 101, 91, t1, 47, i1, 44, 32, 111, 119, 110, 101, 114, 32, o1, 93] 15 (119 : Int32) h F hall (by decide : 15 < 22) rfl) all0 (wd G 275 rfl) (wd G 3 rfl) (by decide) (by decide) rfl rfl) (argsL := [(.ref z), (.int (15 : Int32)), (.int (119 : Int32))]) (rest := []) rfl (lenOf pd_28 rfl) rfl (Nat.le_of_eq rfl) rfl at_531 (pc' := 534) rfl (k' := 50) (n' := 6000) rfl rfl (by decide) (by decide) ?_
  intro v_65 h_68 sz_66 q_67
  obtain ⟨rfl, rfl⟩ := q_67
  refine Seg.ifN at_534 (by decide) (pc' := 537) rfl ?_
  refine Seg.aload at_537 rfl rfl (pc' := 539) rfl ?_
  refine Seg.iload at_539 rfl (pc' := 541) rfl ?_
  refine Seg.iconst (v := 4) at_541 (by decide) (pc' := 542) rfl ?_
  refine Seg.iadd (v := (16 : Int32)) at_542 (by decide) (pc' := 543) rfl ?_
  refine Seg.bipush (v := 110) at_543 (by decide) (pc' := 545) rfl ?_
  refine Seg.callS (y' := (⟨"com/example/kredential/kredential/ResourceToStringPinLaw", "at", "(Ljava/lang/String;IC)Z"⟩ : MethodName)) (wd G 273 rfl) (wd G 274 rfl) (wd G 3 rfl) (wd G 275 rfl) ⟨by decide, by decide⟩ (Pays.of_ct (W := 0) (ct_at G z [82, 101, 115, 111, 117, 114, 99, 101, 91, t1, 47, i1, 44, 32, 111, 119, 110, 101, 114, 32, o1, 93] 16 (110 : Int32) h F hall (by decide : 16 < 22) rfl) all0 (wd G 275 rfl) (wd G 3 rfl) (by decide) (by decide) rfl rfl) (argsL := [(.ref z), (.int (16 : Int32)), (.int (110 : Int32))]) (rest := []) rfl (lenOf pd_28 rfl) rfl (Nat.le_of_eq rfl) rfl at_545 (pc' := 548) rfl (k' := 50) (n' := 6000) rfl rfl (by decide) (by decide) ?_
  intro v_69 h_72 sz_70 q_71
  obtain ⟨rfl, rfl⟩ := q_71
  refine Seg.ifN at_548 (by decide) (pc' := 551) rfl ?_
  refine Seg.aload at_551 rfl rfl (pc' := 553) rfl ?_
  refine Seg.iload at_553 rfl (pc' := 555) rfl ?_
  refine Seg.iconst (v := 5) at_555 (by decide) (pc' := 556) rfl ?_
  refine Seg.iadd (v := (17 : Int32)) at_556 (by decide) (pc' := 557) rfl ?_
  refine Seg.bipush (v := 101) at_557 (by decide) (pc' := 559) rfl ?_
  refine Seg.callS (y' := (⟨"com/example/kredential/kredential/ResourceToStringPinLaw", "at", "(Ljava/lang/String;IC)Z"⟩ : MethodName)) (wd G 273 rfl) (wd G 274 rfl) (wd G 3 rfl) (wd G 275 rfl) ⟨by decide, by decide⟩ (Pays.of_ct (W := 0) (ct_at G z [82, 101, 115, 111, 117, 114, 99, 101, 91, t1, 47, i1, 44, 32, 111, 119, 110, 101, 114, 32, o1, 93] 17 (101 : Int32) h F hall (by decide : 17 < 22) rfl) all0 (wd G 275 rfl) (wd G 3 rfl) (by decide) (by decide) rfl rfl) (argsL := [(.ref z), (.int (17 : Int32)), (.int (101 : Int32))]) (rest := []) rfl (lenOf pd_28 rfl) rfl (Nat.le_of_eq rfl) rfl at_559 (pc' := 562) rfl (k' := 50) (n' := 6000) rfl rfl (by decide) (by decide) ?_
  intro v_73 h_76 sz_74 q_75
  obtain ⟨rfl, rfl⟩ := q_75
  refine Seg.ifN at_562 (by decide) (pc' := 565) rfl ?_
  refine Seg.aload at_565 rfl rfl (pc' := 567) rfl ?_
  refine Seg.iload at_567 rfl (pc' := 569) rfl ?_
  refine Seg.bipush (v := 6) at_569 (by decide) (pc' := 571) rfl ?_
  refine Seg.iadd (v := (18 : Int32)) at_571 (by decide) (pc' := 572) rfl ?_
  refine Seg.bipush (v := 114) at_572 (by decide) (pc' := 574) rfl ?_
  refine Seg.callS (y' := (⟨"com/example/kredential/kredential/ResourceToStringPinLaw", "at", "(Ljava/lang/String;IC)Z"⟩ : MethodName)) (wd G 273 rfl) (wd G 274 rfl) (wd G 3 rfl) (wd G 275 rfl) ⟨by decide, by decide⟩ (Pays.of_ct (W := 0) (ct_at G z [82, 101, 115, 111, 117, 114, 99, 101, 91, t1, 47, i1, 44, 32, 111, 119, 110, 101, 114, 32, o1, 93] 18 (114 : Int32) h F hall (by decide : 18 < 22) rfl) all0 (wd G 275 rfl) (wd G 3 rfl) (by decide) (by decide) rfl rfl) (argsL := [(.ref z), (.int (18 : Int32)), (.int (114 : Int32))]) (rest := []) rfl (lenOf pd_28 rfl) rfl (Nat.le_of_eq rfl) rfl at_574 (pc' := 577) rfl (k' := 50) (n' := 6000) rfl rfl (by decide) (by decide) ?_
  intro v_77 h_80 sz_78 q_79
  obtain ⟨rfl, rfl⟩ := q_79
  refine Seg.ifN at_577 (by decide) (pc' := 580) rfl ?_
  refine Seg.aload at_580 rfl rfl (pc' := 582) rfl ?_
  refine Seg.iload at_582 rfl (pc' := 584) rfl ?_
  refine Seg.bipush (v := 7) at_584 (by decide) (pc' := 586) rfl ?_
  refine Seg.iadd (v := (19 : Int32)) at_586 (by decide) (pc' := 587) rfl ?_
  refine Seg.bipush (v := 32) at_587 (by decide) (pc' := 589) rfl ?_
  refine Seg.callS (y' := (⟨"com/example/kredential/kredential/ResourceToStringPinLaw", "at", "(Ljava/lang/String;IC)Z"⟩ : MethodName)) (wd G 273 rfl) (wd G 274 rfl) (wd G 3 rfl) (wd G 275 rfl) ⟨by decide, by decide⟩ (Pays.of_ct (W := 0) (ct_at G z [82, 101, 115, 111, 117, 114, 99, 101, 91, t1, 47, i1, 44, 32, 111, 119, 110, 101, 114, 32, o1, 93] 19 (32 : Int32) h F hall (by decide : 19 < 22) rfl) all0 (wd G 275 rfl) (wd G 3 rfl) (by decide) (by decide) rfl rfl) (argsL := [(.ref z), (.int (19 : Int32)), (.int (32 : Int32))]) (rest := []) rfl (lenOf pd_28 rfl) rfl (Nat.le_of_eq rfl) rfl at_589 (pc' := 592) rfl (k' := 50) (n' := 6000) rfl rfl (by decide) (by decide) ?_
  intro v_81 h_84 sz_82 q_83
  obtain ⟨rfl, rfl⟩ := q_83
  refine Seg.ifN at_592 (by decide) (pc' := 595) rfl ?_
  refine Seg.iconst (v := 1) at_595 (by decide) (pc' := 596) rfl ?_
  refine Seg.goto (pc' := 600) at_596 (by decide) (by decide) ?_
  refine Seg.istore (L' := #[.val (.int p1), .val (.int p2), .val (.int p3), .val (.int p4), .val (.int (1 : Int32)), .val (.int (1 : Int32)), .val (.int (1 : Int32)), .val (.int t1), .val (.int t2), .val (.int i1), .val (.int i2), .val (.int o1), .val (.int o2), .val (.ref s1), .val (.ref s2), .val (.ref s3), .val (.ref rx), .val (.ref z), .val (.int (1 : Int32)), .val (.int (12 : Int32))]) at_600 rfl (pc' := 602) rfl ?_
  refine Seg.iload at_602 rfl (pc' := 604) rfl ?_
  refine Seg.bipush (v := 8) at_604 (by decide) (pc' := 606) rfl ?_
  refine Seg.iadd (v := (20 : Int32)) at_606 (by decide) (pc' := 607) rfl ?_
  refine Seg.istore (L' := #[.val (.int p1), .val (.int p2), .val (.int p3), .val (.int p4), .val (.int (1 : Int32)), .val (.int (1 : Int32)), .val (.int (1 : Int32)), .val (.int t1), .val (.int t2), .val (.int i1), .val (.int i2), .val (.int o1), .val (.int o2), .val (.ref s1), .val (.ref s2), .val (.ref s3), .val (.ref rx), .val (.ref z), .val (.int (1 : Int32)), .val (.int (20 : Int32))]) at_607 rfl (pc' := 609) rfl ?_
  refine Seg.iload at_609 rfl (pc' := 611) rfl ?_
  refine Seg.ifN at_611 (by decide) (pc' := 614) rfl ?_
  refine Seg.aload at_614 rfl rfl (pc' := 616) rfl ?_
  refine Seg.iload at_616 rfl (pc' := 618) rfl ?_
  refine Seg.iload at_618 rfl (pc' := 620) rfl ?_
  refine Seg.callS (y' := (⟨"com/example/kredential/kredential/ResourceToStringPinLaw", "at", "(Ljava/lang/String;IC)Z"⟩ : MethodName)) (wd G 273 rfl) (wd G 274 rfl) (wd G 3 rfl) (wd G 275 rfl) ⟨by decide, by decide⟩ (Pays.of_ct (W := 0) (ct_at G z [82, 101, 115, 111, 117, 114, 99, 101, 91, t1, 47, i1, 44, 32, 111, 119, 110, 101, 114, 32, o1, 93] 20 o1 h F hall (by decide : 20 < 22) rfl) all0 (wd G 275 rfl) (wd G 3 rfl) (by decide) (by decide) rfl rfl) (argsL := [(.ref z), (.int (20 : Int32)), (.int o1)]) (rest := []) rfl (lenOf pd_28 rfl) rfl (Nat.le_of_eq rfl) rfl at_620 (pc' := 623) rfl (k' := 50) (n' := 6000) rfl rfl (by decide) (by decide) ?_
  intro v_85 h_88 sz_86 q_87
  obtain ⟨rfl, rfl⟩ := q_87
  refine Seg.ifN at_623 (by decide) (pc' := 626) rfl ?_
  refine Seg.iconst (v := 1) at_626 (by decide) (pc' := 627) rfl ?_
  refine Seg.goto (pc' := 631) at_627 (by decide) (by decide) ?_
  refine Seg.istore (L' := #[.val (.int p1), .val (.int p2), .val (.int p3), .val (.int p4), .val (.int (1 : Int32)), .val (.int (1 : Int32)), .val (.int (1 : Int32)), .val (.int t1), .val (.int t2), .val (.int i1), .val (.int i2), .val (.int o1), .val (.int o2), .val (.ref s1), .val (.ref s2), .val (.ref s3), .val (.ref rx), .val (.ref z), .val (.int (1 : Int32)), .val (.int (20 : Int32))]) at_631 rfl (pc' := 633) rfl ?_
  refine Seg.iload at_633 rfl (pc' := 635) rfl ?_
  refine Seg.iconst (v := 2) at_635 (by decide) (pc' := 636) rfl ?_
  refine Seg.icY (pc' := 665) at_636 (by decide) (by decide) (by decide) ?_
  refine Seg.iload at_665 rfl (pc' := 667) rfl ?_
  refine Seg.iload at_667 rfl (pc' := 669) rfl ?_
  refine Seg.iadd (v := (21 : Int32)) at_669 (by decide) (pc' := 670) rfl ?_
  refine Seg.istore (L' := #[.val (.int p1), .val (.int p2), .val (.int p3), .val (.int p4), .val (.int (1 : Int32)), .val (.int (1 : Int32)), .val (.int (1 : Int32)), .val (.int t1), .val (.int t2), .val (.int i1), .val (.int i2), .val (.int o1), .val (.int o2), .val (.ref s1), .val (.ref s2), .val (.ref s3), .val (.ref rx), .val (.ref z), .val (.int (1 : Int32)), .val (.int (21 : Int32))]) at_670 rfl (pc' := 672) rfl ?_
  refine Seg.iload at_672 rfl (pc' := 674) rfl ?_
  refine Seg.ifN at_674 (by decide) (pc' := 677) rfl ?_
  refine Seg.aload at_677 rfl rfl (pc' := 679) rfl ?_
  refine Seg.iload at_679 rfl (pc' := 681) rfl ?_
  refine Seg.bipush (v := 93) at_681 (by decide) (pc' := 683) rfl ?_
  refine Seg.callS (y' := (⟨"com/example/kredential/kredential/ResourceToStringPinLaw", "at", "(Ljava/lang/String;IC)Z"⟩ : MethodName)) (wd G 273 rfl) (wd G 274 rfl) (wd G 3 rfl) (wd G 275 rfl) ⟨by decide, by decide⟩ (Pays.of_ct (W := 0) (ct_at G z [82, 101, 115, 111, 117, 114, 99, 101, 91, t1, 47, i1, 44, 32, 111, 119, 110, 101, 114, 32, o1, 93] 21 (93 : Int32) h F hall (by decide : 21 < 22) rfl) all0 (wd G 275 rfl) (wd G 3 rfl) (by decide) (by decide) rfl rfl) (argsL := [(.ref z), (.int (21 : Int32)), (.int (93 : Int32))]) (rest := []) rfl (lenOf pd_28 rfl) rfl (Nat.le_of_eq rfl) rfl at_683 (pc' := 686) rfl (k' := 50) (n' := 6000) rfl rfl (by decide) (by decide) ?_
  intro v_89 h_92 sz_90 q_91
  obtain ⟨rfl, rfl⟩ := q_91
  refine Seg.ifN at_686 (by decide) (pc' := 689) rfl ?_
  refine Seg.iconst (v := 1) at_689 (by decide) (pc' := 690) rfl ?_
  refine Seg.goto (pc' := 694) at_690 (by decide) (by decide) ?_
  refine Seg.istore (L' := #[.val (.int p1), .val (.int p2), .val (.int p3), .val (.int p4), .val (.int (1 : Int32)), .val (.int (1 : Int32)), .val (.int (1 : Int32)), .val (.int t1), .val (.int t2), .val (.int i1), .val (.int i2), .val (.int o1), .val (.int o2), .val (.ref s1), .val (.ref s2), .val (.ref s3), .val (.ref rx), .val (.ref z), .val (.int (1 : Int32)), .val (.int (21 : Int32))]) at_694 rfl (pc' := 696) rfl ?_
  refine Seg.iload at_696 rfl (pc' := 698) rfl ?_
  exact Seg.retN (t := .boolean) (w := (1 : Int32)) rfl (by decide) (by decide) at_698 (by decide) (by decide) rfl
theorem pd_29 : parseMethodDescriptor "(ICC)Ljava/lang/String;" = some ⟨[.int, .char, .char], some (.object "java/lang/String")⟩ := by decide +kernel
theorem pd_30 : parseMethodDescriptor "(Ljava/lang/String;Ljava/lang/String;Ljava/lang/String;)V" = some ⟨[(.object "java/lang/String"), (.object "java/lang/String"), (.object "java/lang/String")], none⟩ := by decide +kernel
set_option maxRecDepth 65536 in
set_option maxHeartbeats 4000000 in
theorem sgm111 {l : Launch} {Z : State} {a0 : Array Value} (G : Env1 Z a0) (p1 : Int32) (p2 : Int32) (p3 : Int32) (p4 : Int32) (t1 : Int32) (t2 : Int32) (i1 : Int32) (i2 : Int32) (o1 : Int32) (o2 : Int32) (h : Heap) (kt1 : okT t1) (kt2 : okT t2) (ki1 : okI i1) (ki2 : okI i2) (ko1 : okI o1) (ko2 : okI o2) (hI : ¬ (i1 = 46 ∧ ((1 : Int32) = 1 ∨ i2 = 46))) (hO : ¬ (o1 = 46 ∧ ((1 : Int32) = 1 ∨ o2 = 46))) :
    Seg l Z a0 EL1 x code maxLocals ret room_1 (fun v h => v = some (.int 1)) h 0 0 [] 123 #[.val (.int p1), .val (.int p2), .val (.int p3), .val (.int p4), .val (.int (1 : Int32)), .val (.int (1 : Int32)), .val (.int (1 : Int32)), .val (.int t1), .val (.int t2), .val (.int i1), .val (.int i2), .val (.int o1), .val (.int o2), .unset, .unset, .unset, .unset, .unset, .unset, .unset] [] := by
  have rt1 := (okI_r (okT_I kt1)).1
  have rt2 := (okI_r (okT_I kt2)).1
  have ri1 := (okI_r ki1).1
  have ri2 := (okI_r ki2).1
  have ro1 := (okI_r ko1).1
  have ro2 := (okI_r ko2).1
  refine Seg.iload at_123 rfl (pc' := 125) rfl ?_
  refine Seg.iload at_125 rfl (pc' := 127) rfl ?_
  refine Seg.iload at_127 rfl (pc' := 129) rfl ?_
  refine Seg.callS (y' := (⟨"com/example/kredential/kredential/ResourceToStringPinLaw", "make", "(ICC)Ljava/lang/String;"⟩ : MethodName)) (wd G 8 rfl) (wd G 9 rfl) (wd G 3 rfl) (wd G 10 rfl) ⟨by decide, by decide⟩ (Pays.of_ct (W := 0) (ct_mk1 G t1 t2 h rt1 rt2) all0 (wd G 10 rfl) (wd G 3 rfl) (by decide) (by decide) rfl rfl) (argsL := [(.int (1 : Int32)), (.int t1), (.int t2)]) (rest := []) rfl (lenOf pd_29 rfl) rfl (Nat.le_of_eq rfl) rfl at_129 (pc' := 132) rfl (k' := 2) (n' := 5) rfl rfl (by decide) (by decide) ?_
  intro v_1 h_4 sz_2 q_3
  obtain ⟨s1, rfl, E1, T1⟩ := q_3
  refine Seg.astore (L' := #[.val (.int p1), .val (.int p2), .val (.int p3), .val (.int p4), .val (.int (1 : Int32)), .val (.int (1 : Int32)), .val (.int (1 : Int32)), .val (.int t1), .val (.int t2), .val (.int i1), .val (.int i2), .val (.int o1), .val (.int o2), .val (.ref s1), .unset, .unset, .unset, .unset, .unset, .unset]) at_132 rfl rfl (pc' := 134) rfl ?_
  refine Seg.iload at_134 rfl (pc' := 136) rfl ?_
  refine Seg.iload at_136 rfl (pc' := 138) rfl ?_
  refine Seg.iload at_138 rfl (pc' := 140) rfl ?_
  refine Seg.callS (y' := (⟨"com/example/kredential/kredential/ResourceToStringPinLaw", "make", "(ICC)Ljava/lang/String;"⟩ : MethodName)) (wd G 8 rfl) (wd G 9 rfl) (wd G 3 rfl) (wd G 10 rfl) ⟨by decide, by decide⟩ (Pays.of_ct (W := 0) (ct_mk1 G i1 i2 h_4 ri1 ri2) all0 (wd G 10 rfl) (wd G 3 rfl) (by decide) (by decide) rfl rfl) (argsL := [(.int (1 : Int32)), (.int i1), (.int i2)]) (rest := []) rfl (lenOf pd_29 rfl) rfl (Nat.le_of_eq rfl) rfl at_140 (pc' := 143) rfl (k' := 4) (n' := 10) rfl rfl (by decide) (by decide) ?_
  intro v_5 h_8 sz_6 q_7
  obtain ⟨s2, rfl, E2, T2⟩ := q_7
  refine Seg.astore (L' := #[.val (.int p1), .val (.int p2), .val (.int p3), .val (.int p4), .val (.int (1 : Int32)), .val (.int (1 : Int32)), .val (.int (1 : Int32)), .val (.int t1), .val (.int t2), .val (.int i1), .val (.int i2), .val (.int o1), .val (.int o2), .val (.ref s1), .val (.ref s2), .unset, .unset, .unset, .unset, .unset]) at_143 rfl rfl (pc' := 145) rfl ?_
  refine Seg.iload at_145 rfl (pc' := 147) rfl ?_
  refine Seg.iload at_147 rfl (pc' := 149) rfl ?_
  refine Seg.iload at_149 rfl (pc' := 151) rfl ?_
  refine Seg.callS (y' := (⟨"com/example/kredential/kredential/ResourceToStringPinLaw", "make", "(ICC)Ljava/lang/String;"⟩ : MethodName)) (wd G 8 rfl) (wd G 9 rfl) (wd G 3 rfl) (wd G 10 rfl) ⟨by decide, by decide⟩ (Pays.of_ct (W := 0) (ct_mk1 G o1 o2 h_8 ro1 ro2) all0 (wd G 10 rfl) (wd G 3 rfl) (by decide) (by decide) rfl rfl) (argsL := [(.int (1 : Int32)), (.int o1), (.int o2)]) (rest := []) rfl (lenOf pd_29 rfl) rfl (Nat.le_of_eq rfl) rfl at_151 (pc' := 154) rfl (k' := 6) (n' := 15) rfl rfl (by decide) (by decide) ?_
  intro v_9 h_12 sz_10 q_11
  obtain ⟨s3, rfl, E3, T3⟩ := q_11
  refine Seg.astore (L' := #[.val (.int p1), .val (.int p2), .val (.int p3), .val (.int p4), .val (.int (1 : Int32)), .val (.int (1 : Int32)), .val (.int (1 : Int32)), .val (.int t1), .val (.int t2), .val (.int i1), .val (.int i2), .val (.int o1), .val (.int o2), .val (.ref s1), .val (.ref s2), .val (.ref s3), .unset, .unset, .unset, .unset]) at_154 rfl rfl (pc' := 156) rfl ?_
  refine Seg.newO (wd G 55 rfl) (wd G 56 rfl) (wd G 57 rfl) at_156 (pc' := 159) rfl (k' := 7) (n' := 18) rfl rfl (by decide) (by decide) ?_
  intro b_13 h_15 E_14 e_b_13 l_b_13 A_b_13 D_b_13
  have F_type_b_13 : Fld Z h_15 b_13 "com/example/kredential/kredential/Resource" "type" "Ljava/lang/String;" Value.null := D_b_13 (Or.inr (wd G 140 rfl)) (ty := (.object "java/lang/String")) (by decide)
  have F_id_b_13 : Fld Z h_15 b_13 "com/example/kredential/kredential/Resource" "id" "Ljava/lang/String;" Value.null := D_b_13 (Or.inr (wd G 142 rfl)) (ty := (.object "java/lang/String")) (by decide)
  have F_owner_b_13 : Fld Z h_15 b_13 "com/example/kredential/kredential/Resource" "owner" "Ljava/lang/String;" Value.null := D_b_13 (Or.inr (wd G 144 rfl)) (ty := (.object "java/lang/String")) (by decide)
  refine Seg.dup at_159 rfl (pc' := 160) rfl ?_
  refine Seg.aload at_160 rfl rfl (pc' := 162) rfl ?_
  refine Seg.aload at_162 rfl rfl (pc' := 164) rfl ?_
  refine Seg.aload at_164 rfl rfl (pc' := 166) rfl ?_
  have E_16 : Ext h_4 h_12 := ext_tr E2 E3
  have E_17 : Ext h_4 h_15 := ext_tr E_16 E_14
  have F_18 := T1.ext E_17
  have E_19 : Ext h_8 h_15 := ext_tr E3 E_14
  have F_20 := T2.ext E_19
  have F_21 := T3.ext E_14
  refine Seg.callN (y' := (⟨"com/example/kredential/kredential/Resource", "<init>", "(Ljava/lang/String;Ljava/lang/String;Ljava/lang/String;)V"⟩ : MethodName)) (a := b_13) rfl (wd G 58 rfl) (wd G 59 rfl) (wd G 60 rfl) ⟨by decide, by decide⟩ (Pays.of_ct (W := 1) (ct_rinit G b_13 s1 s2 s3 [t1] [i1] [o1] .null .null .null h_15 A_b_13 F_type_b_13 F_id_b_13 F_owner_b_13 F_18 F_20 F_21 ⟨(fun c hc => by simp only [List.mem_cons, List.not_mem_nil, or_false] at hc; rcases hc with rfl <;> assumption), (by decide : 0 < 1), (by decide : 1 ≤ 2)⟩ ⟨⟨(fun c hc => by simp only [List.mem_cons, List.not_mem_nil, or_false] at hc; rcases hc with rfl <;> assumption), (by decide : 0 < 1), (by decide : 1 ≤ 2)⟩, (fun q => hI ⟨(List.cons.inj q).1, Or.inl rfl⟩), (fun q => nomatch (List.cons.inj q).2)⟩ ⟨⟨(fun c hc => by simp only [List.mem_cons, List.not_mem_nil, or_false] at hc; rcases hc with rfl <;> assumption), (by decide : 0 < 1), (by decide : 1 ≤ 2)⟩, (fun q => hO ⟨(List.cons.inj q).1, Or.inl rfl⟩), (fun q => nomatch (List.cons.inj q).2)⟩) (allS (List.mem_of_getElem? (i := 0) rfl) all0) (wd G 60 rfl) (wd G 57 rfl) (by decide) (by decide) rfl rfl) (argsL := [(.ref s1), (.ref s2), (.ref s3)]) (rest := [(.ref b_13)]) rfl (lenOf pd_30 rfl) rfl (Nat.le_of_eq rfl) rfl at_166 (pc' := 169) rfl (k' := 19) (n' := 78) rfl rfl (by decide) (by decide) ?_
  intro v_22 h_25 sz_23 q_24
  obtain ⟨rfl, K1, G0, G1, G2⟩ := q_24
  refine Seg.astore (L' := #[.val (.int p1), .val (.int p2), .val (.int p3), .val (.int p4), .val (.int (1 : Int32)), .val (.int (1 : Int32)), .val (.int (1 : Int32)), .val (.int t1), .val (.int t2), .val (.int i1), .val (.int i2), .val (.int o1), .val (.int o2), .val (.ref s1), .val (.ref s2), .val (.ref s3), .val (.ref b_13), .unset, .unset, .unset]) at_169 rfl rfl (pc' := 171) rfl ?_
  refine Seg.aload at_171 rfl rfl (pc' := 173) rfl ?_
  have F_26 := (A_b_13.keep K1)
  have E_27 : Ext h_4 h_25 := ext_kp E_17 K1 (allS (Nat.le_trans E_16.1 (Nat.le_of_eq e_b_13)) all0)
  have F_28 := T1.ext E_27
  have E_29 : Ext h_8 h_25 := ext_kp E_19 K1 (allS (Nat.le_trans E3.1 (Nat.le_of_eq e_b_13)) all0)
  have F_30 := T2.ext E_29
  have E_31 : Ext h_12 h_25 := ext_kp E_14 K1 (allS (Nat.le_trans (ext_rfl _).1 (Nat.le_of_eq e_b_13)) all0)
  have F_32 := T3.ext E_31
  refine Seg.callV (y' := (⟨"com/example/kredential/kredential/Resource", "toString", "()Ljava/lang/String;"⟩ : MethodName)) (z := (⟨"com/example/kredential/kredential/Resource", "toString", "()Ljava/lang/String;"⟩ : MethodName)) (a := b_13) (wd G 145 rfl) (wd G 146 rfl) (nf_sel (wd G 148 rfl)) (wd G 148 rfl) (wd G 147 rfl) ⟨by decide, by decide⟩ F_26 (Pays.of_ct (W := 0) (ct_rts G b_13 s1 s2 s3 [t1] [i1] [o1] h_25 F_26 G0 G1 G2 F_28 F_30 F_32 (fun c hc => by simp only [List.mem_cons, List.not_mem_nil, or_false] at hc; rcases hc with rfl <;> assumption) (fun c hc => by simp only [List.mem_cons, List.not_mem_nil, or_false] at hc; rcases hc with rfl <;> assumption) (fun c hc => by simp only [List.mem_cons, List.not_mem_nil, or_false] at hc; rcases hc with rfl <;> assumption) (by decide : 1 ≤ 2) (by decide : 1 ≤ 2) (by decide : 1 ≤ 2)) all0 (wd G 149 rfl) (wd G 57 rfl) (by decide) (by decide) rfl rfl) (argsL := []) (rest := []) rfl (lenOf pd_22 rfl) rfl (Nat.le_of_eq rfl) rfl at_173 (pc' := 176) rfl (k' := 32) (n' := 328) rfl rfl (by decide) (by decide) ?_
  intro v_33 h_36 sz_34 q_35
  obtain ⟨z, rfl, E9, F9⟩ := q_35
  exact (sgt111 G p1 p2 p3 p4 t1 t2 i1 i2 o1 o2 s1 s2 s3 b_13 z h_36 F9 rt1 rt2 ri1 ri2 ro1 ro2).mono (by decide) (by decide) all0
set_option maxRecDepth 65536 in
set_option maxHeartbeats 4000000 in
theorem sgt112 {l : Launch} {Z : State} {a0 : Array Value} (G : Env1 Z a0) (p1 : Int32) (p2 : Int32) (p3 : Int32) (p4 : Int32) (t1 : Int32) (t2 : Int32) (i1 : Int32) (i2 : Int32) (o1 : Int32) (o2 : Int32) (s1 : Addr) (s2 : Addr) (s3 : Addr) (rx : Addr) (z : Addr) (h : Heap) (F : Str Z h z [82, 101, 115, 111, 117, 114, 99, 101, 91, t1, 47, i1, 44, 32, 111, 119, 110, 101, 114, 32, o1, o2, 93]) (rt1 : ¬ t1 < 0 ∧ ¬ (255 : Int32) < t1) (rt2 : ¬ t2 < 0 ∧ ¬ (255 : Int32) < t2) (ri1 : ¬ i1 < 0 ∧ ¬ (255 : Int32) < i1) (ri2 : ¬ i2 < 0 ∧ ¬ (255 : Int32) < i2) (ro1 : ¬ o1 < 0 ∧ ¬ (255 : Int32) < o1) (ro2 : ¬ o2 < 0 ∧ ¬ (255 : Int32) < o2) :
    Seg l Z a0 EL1 x code maxLocals ret room_1 (fun v h => v = some (.int 1)) h 50 6000 [] 176 #[.val (.int p1), .val (.int p2), .val (.int p3), .val (.int p4), .val (.int (1 : Int32)), .val (.int (1 : Int32)), .val (.int (2 : Int32)), .val (.int t1), .val (.int t2), .val (.int i1), .val (.int i2), .val (.int o1), .val (.int o2), .val (.ref s1), .val (.ref s2), .val (.ref s3), .val (.ref rx), .unset, .unset, .unset] [(.ref z)] := by
  have f1 := F.exa
  have hall : ∀ c ∈ [82, 101, 115, 111, 117, 114, 99, 101, 91, t1, 47, i1, 44, 32, 111, 119, 110, 101, 114, 32, o1, o2, 93], ¬ c < 0 ∧ ¬ (255 : Int32) < c := by
    intro c hc
    simp only [List.mem_cons, List.not_mem_nil, or_false] at hc
    rcases hc with rfl | rfl | rfl | rfl | rfl | rfl | rfl | rfl | rfl | rfl | rfl | rfl | rfl | rfl | rfl | rfl | rfl | rfl | rfl | rfl | rfl | rfl | rfl <;> first | assumption | decide
  refine Seg.astore (L' := #[.val (.int p1), .val (.int p2), .val (.int p3), .val (.int p4), .val (.int (1 : Int32)), .val (.int (1 : Int32)), .val (.int (2 : Int32)), .val (.int t1), .val (.int t2), .val (.int i1), .val (.int i2), .val (.int o1), .val (.int o2), .val (.ref s1), .val (.ref s2), .val (.ref s3), .val (.ref rx), .val (.ref z), .unset, .unset]) at_176 rfl rfl (pc' := 178) rfl ?_
  refine Seg.aload at_178 rfl rfl (pc' := 180) rfl ?_
  refine Seg.callV (y' := (⟨"java/lang/String", "length", "()I"⟩ : MethodName)) (z := (⟨"java/lang/String", "length", "()I"⟩ : MethodName)) (a := z) (wd G 272 rfl) (wd G 79 rfl) (nf_sel (wd G 81 rfl)) (wd G 81 rfl) (wd G 80 rfl) ⟨by decide, by decide⟩ f1 ((pays_len (W := 0) G h F (by decide) (by decide)).post (Q' := fun v h' => v = some (.int 23) ∧ h = h') fun v h' q => ⟨q.1, q.2⟩) (argsL := []) (rest := []) rfl (lenOf pd_0 rfl) rfl (Nat.le_of_eq rfl) rfl at_180 (pc' := 183) rfl (k' := 50) (n' := 6000) rfl rfl (by decide) (by decide) ?_
  intro v_1 h_4 sz_2 q_3
  obtain ⟨rfl, rfl⟩ := q_3
  refine Seg.bipush (v := 19) at_183 (by decide) (pc' := 185) rfl ?_
  refine Seg.iload at_185 rfl (pc' := 187) rfl ?_
  refine Seg.iadd (v := (20 : Int32)) at_187 (by decide) (pc' := 188) rfl ?_
  refine Seg.iload at_188 rfl (pc' := 190) rfl ?_
  refine Seg.iadd (v := (21 : Int32)) at_190 (by decide) (pc' := 191) rfl ?_
  refine Seg.iload at_191 rfl (pc' := 193) rfl ?_
  refine Seg.iadd (v := (23 : Int32)) at_193 (by decide) (pc' := 194) rfl ?_
  refine Seg.icN at_194 (by decide) (pc' := 197) rfl ?_
  refine Seg.iconst (v := 1) at_197 (by decide) (pc' := 198) rfl ?_
  refine Seg.goto (pc' := 202) at_198 (by decide) (by decide) ?_
  refine Seg.istore (L' := #[.val (.int p1), .val (.int p2), .val (.int p3), .val (.int p4), .val (.int (1 : Int32)), .val (.int (1 : Int32)), .val (.int (2 : Int32)), .val (.int t1), .val (.int t2), .val (.int i1), .val (.int i2), .val (.int o1), .val (.int o2), .val (.ref s1), .val (.ref s2), .val (.ref s3), .val (.ref rx), .val (.ref z), .val (.int (1 : Int32)), .unset]) at_202 rfl (pc' := 204) rfl ?_
  refine Seg.iload at_204 rfl (pc' := 206) rfl ?_
  refine Seg.ifN at_206 (by decide) (pc' := 209) rfl ?_
  refine Seg.aload at_209 rfl rfl (pc' := 211) rfl ?_
  refine Seg.iconst (v := 0) at_211 (by decide) (pc' := 212) rfl ?_
  refine Seg.bipush (v := 82) at_212 (by decide) (pc' := 214) rfl ?_
  refine Seg.callS (y' := (⟨"com/example/kredential/kredential/ResourceToStringPinLaw", "at", "(Ljava/lang/String;IC)Z"⟩ : MethodName)) (wd G 273 rfl) (wd G 274 rfl) (wd G 3 rfl) (wd G 275 rfl) ⟨by decide, by decide⟩ (Pays.of_ct (W := 0) (ct_at G z [82, 101, 115, 111, 117, 114, 99, 101, 91, t1, 47, i1, 44, 32, 111, 119, 110, 101, 114, 32, o1, o2, 93] 0 (82 : Int32) h F hall (by decide : 0 < 23) rfl) all0 (wd G 275 rfl) (wd G 3 rfl) (by decide) (by decide) rfl rfl) (argsL := [(.ref z), (.int (0 : Int32)), (.int (82 : Int32))]) (rest := []) rfl (lenOf pd_28 rfl) rfl (Nat.le_of_eq rfl) rfl at_214 (pc' := 217) rfl (k' := 50) (n' := 6000) rfl rfl (by decide) (by decide) ?_
  intro v_5 h_8 sz_6 q_7
  obtain ⟨rfl, rfl⟩ := q_7
  refine Seg.ifN at_217 (by decide) (pc' := 220) rfl ?_
  refine Seg.aload at_220 rfl rfl (pc' := 222) rfl ?_
  refine Seg.iconst (v := 1) at_222 (by decide) (pc' := 223) rfl ?_
  refine Seg.bipush (v := 101) at_223 (by decide) (pc' := 225) rfl ?_
  refine Seg.callS (y' := (⟨"com/example/kredential/kredential/ResourceToStringPinLaw", "at", "(Ljava/lang/String;IC)Z"⟩ : MethodName)) (wd G 273 rfl) (wd G 274 rfl) (wd G 3 rfl) (wd G 275 rfl) ⟨by decide, by decide⟩ (Pays.of_ct (W := 0) (ct_at G z [82, 101, 115, 111, 117, 114, 99, 101, 91, t1, 47, i1, 44, 32, 111, 119, 110, 101, 114, 32, o1, o2, 93] 1 (101 : Int32) h F hall (by decide : 1 < 23) rfl) all0 (wd G 275 rfl) (wd G 3 rfl) (by decide) (by decide) rfl rfl) (argsL := [(.ref z), (.int (1 : Int32)), (.int (101 : Int32))]) (rest := []) rfl (lenOf pd_28 rfl) rfl (Nat.le_of_eq rfl) rfl at_225 (pc' := 228) rfl (k' := 50) (n' := 6000) rfl rfl (by decide) (by decide) ?_
  intro v_9 h_12 sz_10 q_11
  obtain ⟨rfl, rfl⟩ := q_11
  refine Seg.ifN at_228 (by decide) (pc' := 231) rfl ?_
  refine Seg.aload at_231 rfl rfl (pc' := 233) rfl ?_
  refine Seg.iconst (v := 2) at_233 (by decide) (pc' := 234) rfl ?_
  refine Seg.bipush (v := 115) at_234 (by decide) (pc' := 236) rfl ?_
  refine Seg.callS (y' := (⟨"com/example/kredential/kredential/ResourceToStringPinLaw", "at", "(Ljava/lang/String;IC)Z"⟩ : MethodName)) (wd G 273 rfl) (wd G 274 rfl) (wd G 3 rfl) (wd G 275 rfl) ⟨by decide, by decide⟩ (Pays.of_ct (W := 0) (ct_at G z [82, 101, 115, 111, 117, 114, 99, 101, 91, t1, 47, i1, 44, 32, 111, 119, 110, 101, 114, 32, o1, o2, 93] 2 (115 : Int32) h F hall (by decide : 2 < 23) rfl) all0 (wd G 275 rfl) (wd G 3 rfl) (by decide) (by decide) rfl rfl) (argsL := [(.ref z), (.int (2 : Int32)), (.int (115 : Int32))]) (rest := []) rfl (lenOf pd_28 rfl) rfl (Nat.le_of_eq rfl) rfl at_236 (pc' := 239) rfl (k' := 50) (n' := 6000) rfl rfl (by decide) (by decide) ?_
  intro v_13 h_16 sz_14 q_15
  obtain ⟨rfl, rfl⟩ := q_15
  refine Seg.ifN at_239 (by decide) (pc' := 242) rfl ?_
  refine Seg.aload at_242 rfl rfl (pc' := 244) rfl ?_
  refine Seg.iconst (v := 3) at_244 (by decide) (pc' := 245) rfl ?_
  refine Seg.bipush (v := 111) at_245 (by decide) (pc' := 247) rfl ?_
  refine Seg.callS (y' := (⟨"com/example/kredential/kredential/ResourceToStringPinLaw", "at", "(Ljava/lang/String;IC)Z"⟩ : MethodName)) (wd G 273 rfl) (wd G 274 rfl) (wd G 3 rfl) (wd G 275 rfl) ⟨by decide, by decide⟩ (Pays.of_ct (W := 0) (ct_at G z [82, 101, 115, 111, 117, 114, 99, 101, 91, t1, 47, i1, 44, 32, 111, 119, 110, 101, 114, 32, o1, o2, 93] 3 (111 : Int32) h F hall (by decide : 3 < 23) rfl) all0 (wd G 275 rfl) (wd G 3 rfl) (by decide) (by decide) rfl rfl) (argsL := [(.ref z), (.int (3 : Int32)), (.int (111 : Int32))]) (rest := []) rfl (lenOf pd_28 rfl) rfl (Nat.le_of_eq rfl) rfl at_247 (pc' := 250) rfl (k' := 50) (n' := 6000) rfl rfl (by decide) (by decide) ?_
  intro v_17 h_20 sz_18 q_19
  obtain ⟨rfl, rfl⟩ := q_19
  refine Seg.ifN at_250 (by decide) (pc' := 253) rfl ?_
  refine Seg.aload at_253 rfl rfl (pc' := 255) rfl ?_
  refine Seg.iconst (v := 4) at_255 (by decide) (pc' := 256) rfl ?_
  refine Seg.bipush (v := 117) at_256 (by decide) (pc' := 258) rfl ?_
  refine Seg.callS (y' := (⟨"com/example/kredential/kredential/ResourceToStringPinLaw", "at", "(Ljava/lang/String;IC)Z"⟩ : MethodName)) (wd G 273 rfl) (wd G 274 rfl) (wd G 3 rfl) (wd G 275 rfl) ⟨by decide, by decide⟩ (Pays.of_ct (W := 0) (ct_at G z [82, 101, 115, 111, 117, 114, 99, 101, 91, t1, 47, i1, 44, 32, 111, 119, 110, 101, 114, 32, o1, o2, 93] 4 (117 : Int32) h F hall (by decide : 4 < 23) rfl) all0 (wd G 275 rfl) (wd G 3 rfl) (by decide) (by decide) rfl rfl) (argsL := [(.ref z), (.int (4 : Int32)), (.int (117 : Int32))]) (rest := []) rfl (lenOf pd_28 rfl) rfl (Nat.le_of_eq rfl) rfl at_258 (pc' := 261) rfl (k' := 50) (n' := 6000) rfl rfl (by decide) (by decide) ?_
  intro v_21 h_24 sz_22 q_23
  obtain ⟨rfl, rfl⟩ := q_23
  refine Seg.ifN at_261 (by decide) (pc' := 264) rfl ?_
  refine Seg.aload at_264 rfl rfl (pc' := 266) rfl ?_
  refine Seg.iconst (v := 5) at_266 (by decide) (pc' := 267) rfl ?_
  refine Seg.bipush (v := 114) at_267 (by decide) (pc' := 269) rfl ?_
  refine Seg.callS (y' := (⟨"com/example/kredential/kredential/ResourceToStringPinLaw", "at", "(Ljava/lang/String;IC)Z"⟩ : MethodName)) (wd G 273 rfl) (wd G 274 rfl) (wd G 3 rfl) (wd G 275 rfl) ⟨by decide, by decide⟩ (Pays.of_ct (W := 0) (ct_at G z [82, 101, 115, 111, 117, 114, 99, 101, 91, t1, 47, i1, 44, 32, 111, 119, 110, 101, 114, 32, o1, o2, 93] 5 (114 : Int32) h F hall (by decide : 5 < 23) rfl) all0 (wd G 275 rfl) (wd G 3 rfl) (by decide) (by decide) rfl rfl) (argsL := [(.ref z), (.int (5 : Int32)), (.int (114 : Int32))]) (rest := []) rfl (lenOf pd_28 rfl) rfl (Nat.le_of_eq rfl) rfl at_269 (pc' := 272) rfl (k' := 50) (n' := 6000) rfl rfl (by decide) (by decide) ?_
  intro v_25 h_28 sz_26 q_27
  obtain ⟨rfl, rfl⟩ := q_27
  refine Seg.ifN at_272 (by decide) (pc' := 275) rfl ?_
  refine Seg.aload at_275 rfl rfl (pc' := 277) rfl ?_
  refine Seg.bipush (v := 6) at_277 (by decide) (pc' := 279) rfl ?_
  refine Seg.bipush (v := 99) at_279 (by decide) (pc' := 281) rfl ?_
  refine Seg.callS (y' := (⟨"com/example/kredential/kredential/ResourceToStringPinLaw", "at", "(Ljava/lang/String;IC)Z"⟩ : MethodName)) (wd G 273 rfl) (wd G 274 rfl) (wd G 3 rfl) (wd G 275 rfl) ⟨by decide, by decide⟩ (Pays.of_ct (W := 0) (ct_at G z [82, 101, 115, 111, 117, 114, 99, 101, 91, t1, 47, i1, 44, 32, 111, 119, 110, 101, 114, 32, o1, o2, 93] 6 (99 : Int32) h F hall (by decide : 6 < 23) rfl) all0 (wd G 275 rfl) (wd G 3 rfl) (by decide) (by decide) rfl rfl) (argsL := [(.ref z), (.int (6 : Int32)), (.int (99 : Int32))]) (rest := []) rfl (lenOf pd_28 rfl) rfl (Nat.le_of_eq rfl) rfl at_281 (pc' := 284) rfl (k' := 50) (n' := 6000) rfl rfl (by decide) (by decide) ?_
  intro v_29 h_32 sz_30 q_31
  obtain ⟨rfl, rfl⟩ := q_31
  refine Seg.ifN at_284 (by decide) (pc' := 287) rfl ?_
  refine Seg.aload at_287 rfl rfl (pc' := 289) rfl ?_
  refine Seg.bipush (v := 7) at_289 (by decide) (pc' := 291) rfl ?_
  refine Seg.bipush (v := 101) at_291 (by decide) (pc' := 293) rfl ?_
  refine Seg.callS (y' := (⟨"com/example/kredential/kredential/ResourceToStringPinLaw", "at", "(Ljava/lang/String;IC)Z"⟩ : MethodName)) (wd G 273 rfl) (wd G 274 rfl) (wd G 3 rfl) (wd G 275 rfl) ⟨by decide, by decide⟩ (Pays.of_ct (W := 0) (ct_at G z [82, 101, 115, 111, 117, 114, 99, 101, 91, t1, 47, i1, 44, 32, 111, 119, 110, 101, 114, 32, o1, o2, 93] 7 (101 : Int32) h F hall (by decide : 7 < 23) rfl) all0 (wd G 275 rfl) (wd G 3 rfl) (by decide) (by decide) rfl rfl) (argsL := [(.ref z), (.int (7 : Int32)), (.int (101 : Int32))]) (rest := []) rfl (lenOf pd_28 rfl) rfl (Nat.le_of_eq rfl) rfl at_293 (pc' := 296) rfl (k' := 50) (n' := 6000) rfl rfl (by decide) (by decide) ?_
  intro v_33 h_36 sz_34 q_35
  obtain ⟨rfl, rfl⟩ := q_35
  refine Seg.ifN at_296 (by decide) (pc' := 299) rfl ?_
  refine Seg.aload at_299 rfl rfl (pc' := 301) rfl ?_
  refine Seg.bipush (v := 8) at_301 (by decide) (pc' := 303) rfl ?_
  refine Seg.bipush (v := 91) at_303 (by decide) (pc' := 305) rfl ?_
  refine Seg.callS (y' := (⟨"com/example/kredential/kredential/ResourceToStringPinLaw", "at", "(Ljava/lang/String;IC)Z"⟩ : MethodName)) (wd G 273 rfl) (wd G 274 rfl) (wd G 3 rfl) (wd G 275 rfl) ⟨by decide, by decide⟩ (Pays.of_ct (W := 0) (ct_at G z [82, 101, 115, 111, 117, 114, 99, 101, 91, t1, 47, i1, 44, 32, 111, 119, 110, 101, 114, 32, o1, o2, 93] 8 (91 : Int32) h F hall (by decide : 8 < 23) rfl) all0 (wd G 275 rfl) (wd G 3 rfl) (by decide) (by decide) rfl rfl) (argsL := [(.ref z), (.int (8 : Int32)), (.int (91 : Int32))]) (rest := []) rfl (lenOf pd_28 rfl) rfl (Nat.le_of_eq rfl) rfl at_305 (pc' := 308) rfl (k' := 50) (n' := 6000) rfl rfl (by decide) (by decide) ?_
  intro v_37 h_40 sz_38 q_39
  obtain ⟨rfl, rfl⟩ := q_39
  refine Seg.ifN at_308 (by decide) (pc' := 311) rfl ?_
  refine Seg.iconst (v := 1) at_311 (by decide) (pc' := 312) rfl ?_
  refine Seg.goto (pc' := 316) at_312 (by decide) (by decide) ?_
  refine Seg.istore (L' := #[.val (.int p1), .val (.int p2), .val (.int p3), .val (.int p4), .val (.int (1 : Int32)), .val (.int (1 : Int32)), .val (.int (2 : Int32)), .val (.int t1), .val (.int t2), .val (.int i1), .val (.int i2), .val (.int o1), .val (.int o2), .val (.ref s1), .val (.ref s2), .val (.ref s3), .val (.ref rx), .val (.ref z), .val (.int (1 : Int32)), .unset]) at_316 rfl (pc' := 318) rfl ?_
  refine Seg.bipush (v := 9) at_318 (by decide) (pc' := 320) rfl ?_
  refine Seg.istore (L' := #[.val (.int p1), .val (.int p2), .val (.int p3), .val (.int p4), .val (.int (1 : Int32)), .val (.int (1 : Int32)), .val (.int (2 : Int32)), .val (.int t1), .val (.int t2), .val (.int i1), .val (.int i2), .val (.int o1), .val (.int o2), .val (.ref s1), .val (.ref s2), .val (.ref s3), .val (.ref rx), .val (.ref z), .val (.int (1 : Int32)), .val (.int (9 : Int32))]) at_320 rfl (pc' := 322) rfl ?_
  refine Seg.iload at_322 rfl (pc' := 324) rfl ?_
  refine Seg.ifN at_324 (by decide) (pc' := 327) rfl ?_
  refine Seg.aload at_327 rfl rfl (pc' := 329) rfl ?_
  refine Seg.iload at_329 rfl (pc' := 331) rfl ?_
  refine Seg.iload at_331 rfl (pc' := 333) rfl ?_
  refine Seg.callS (y' := (⟨"com/example/kredential/kredential/ResourceToStringPinLaw", "at", "(Ljava/lang/String;IC)Z"⟩ : MethodName)) (wd G 273 rfl) (wd G 274 rfl) (wd G 3 rfl) (wd G 275 rfl) ⟨by decide, by decide⟩ (Pays.of_ct (W := 0) (ct_at G z [82, 101, 115, 111, 117, 114, 99, 101, 91, t1, 47, i1, 44, 32, 111, 119, 110, 101, 114, 32, o1, o2, 93] 9 t1 h F hall (by decide : 9 < 23) rfl) all0 (wd G 275 rfl) (wd G 3 rfl) (by decide) (by decide) rfl rfl) (argsL := [(.ref z), (.int (9 : Int32)), (.int t1)]) (rest := []) rfl (lenOf pd_28 rfl) rfl (Nat.le_of_eq rfl) rfl at_333 (pc' := 336) rfl (k' := 50) (n' := 6000) rfl rfl (by decide) (by decide) ?_
  intro v_41 h_44 sz_42 q_43
  obtain ⟨rfl, rfl⟩ := q_43
  refine Seg.ifN at_336 (by decide) (pc' := 339) rfl ?_
  refine Seg.iconst (v := 1) at_339 (by decide) (pc' := 340) rfl ?_
  refine Seg.goto (pc' := 344) at_340 (by decide) (by decide) ?_
  refine Seg.istore (L' := #[.val (.int p1), .val (.int p2), .val (.int p3), .val (.int p4), .val (.int (1 : Int32)), .val (.int (1 : Int32)), .val (.int (2 : Int32)), .val (.int t1), .val (.int t2), .val (.int i1), .val (.int i2), .val (.int o1), .val (.int o2), .val (.ref s1), .val (.ref s2), .val (.ref s3), .val (.ref rx), .val (.ref z), .val (.int (1 : Int32)), .val (.int (9 : Int32))]) at_344 rfl (pc' := 346) rfl ?_
  refine Seg.iload at_346 rfl (pc' := 348) rfl ?_
  refine Seg.iconst (v := 2) at_348 (by decide) (pc' := 349) rfl ?_
  refine Seg.icY (pc' := 378) at_349 (by decide) (by decide) (by decide) ?_
  refine Seg.iload at_378 rfl (pc' := 380) rfl ?_
  refine Seg.iload at_380 rfl (pc' := 382) rfl ?_
  refine Seg.iadd (v := (10 : Int32)) at_382 (by decide) (pc' := 383) rfl ?_
  refine Seg.istore (L' := #[.val (.int p1), .val (.int p2), .val (.int p3), .val (.int p4), .val (.int (1 : Int32)), .val (.int (1 : Int32)), .val (.int (2 : Int32)), .val (.int t1), .val (.int t2), .val (.int i1), .val (.int i2), .val (.int o1), .val (.int o2), .val (.ref s1), .val (.ref s2), .val (.ref s3), .val (.ref rx), .val (.ref z), .val (.int (1 : Int32)), .val (.int (10 : Int32))]) at_383 rfl (pc' := 385) rfl ?_
  refine Seg.iload at_385 rfl (pc' := 387) rfl ?_
  refine Seg.ifN at_387 (by decide) (pc' := 390) rfl ?_
  refine Seg.aload at_390 rfl rfl (pc' := 392) rfl ?_
  refine Seg.iload at_392 rfl (pc' := 394) rfl ?_
  refine Seg.bipush (v := 47) at_394 (by decide) (pc' := 396) rfl ?_
  refine Seg.callS (y' := (⟨"com/example/kredential/kredential/ResourceToStringPinLaw", "at", "(Ljava/lang/String;IC)Z"⟩ : MethodName)) (wd G 273 rfl) (wd G 274 rfl) (wd G 3 rfl) (wd G 275 rfl) ⟨by decide, by decide⟩ (Pays.of_ct (W := 0) (ct_at G z [82, 101, 115, 111, 117, 114, 99, 101, 91, t1, 47, i1, 44, 32, 111, 119, 110, 101, 114, 32, o1, o2, 93] 10 (47 : Int32) h F hall (by decide : 10 < 23) rfl) all0 (wd G 275 rfl) (wd G 3 rfl) (by decide) (by decide) rfl rfl) (argsL := [(.ref z), (.int (10 : Int32)), (.int (47 : Int32))]) (rest := []) rfl (lenOf pd_28 rfl) rfl (Nat.le_of_eq rfl) rfl at_396 (pc' := 399) rfl (k' := 50) (n' := 6000) rfl rfl (by decide) (by decide) ?_
  intro v_45 h_48 sz_46 q_47
  obtain ⟨rfl, rfl⟩ := q_47
  refine Seg.ifN at_399 (by decide) (pc' := 402) rfl ?_
  refine Seg.iconst (v := 1) at_402 (by decide) (pc' := 403) rfl ?_
  refine Seg.goto (pc' := 407) at_403 (by decide) (by decide) ?_
  refine Seg.istore (L' := #[.val (.int p1), .val (.int p2), .val (.int p3), .val (.int p4), .val (.int (1 : Int32)), .val (.int (1 : Int32)), .val (.int (2 : Int32)), .val (.int t1), .val (.int t2), .val (.int i1), .val (.int i2), .val (.int o1), .val (.int o2), .val (.ref s1), .val (.ref s2), .val (.ref s3), .val (.ref rx), .val (.ref z), .val (.int (1 : Int32)), .val (.int (10 : Int32))]) at_407 rfl (pc' := 409) rfl ?_
  refine Seg.iload at_409 rfl (pc' := 411) rfl ?_
  refine Seg.iconst (v := 1) at_411 (by decide) (pc' := 412) rfl ?_
  refine Seg.iadd (v := (11 : Int32)) at_412 (by decide) (pc' := 413) rfl ?_
  refine Seg.istore (L' := #[.val (.int p1), .val (.int p2), .val (.int p3), .val (.int p4), .val (.int (1 : Int32)), .val (.int (1 : Int32)), .val (.int (2 : Int32)), .val (.int t1), .val (.int t2), .val (.int i1), .val (.int i2), .val (.int o1), .val (.int o2), .val (.ref s1), .val (.ref s2), .val (.ref s3), .val (.ref rx), .val (.ref z), .val (.int (1 : Int32)), .val (.int (11 : Int32))]) at_413 rfl (pc' := 415) rfl ?_
  refine Seg.iload at_415 rfl (pc' := 417) rfl ?_
  refine Seg.ifN at_417 (by decide) (pc' := 420) rfl ?_
  refine Seg.aload at_420 rfl rfl (pc' := 422) rfl ?_
  refine Seg.iload at_422 rfl (pc' := 424) rfl ?_
  refine Seg.iload at_424 rfl (pc' := 426) rfl ?_
  refine Seg.callS (y' := (⟨"com/example/kredential/kredential/ResourceToStringPinLaw", "at", "(Ljava/lang/String;IC)Z"⟩ : MethodName)) (wd G 273 rfl) (wd G 274 rfl) (wd G 3 rfl) (wd G 275 rfl) ⟨by decide, by decide⟩ (Pays.of_ct (W := 0) (ct_at G z [82, 101, 115, 111, 117, 114, 99, 101, 91, t1, 47, i1, 44, 32, 111, 119, 110, 101, 114, 32, o1, o2, 93] 11 i1 h F hall (by decide : 11 < 23) rfl) all0 (wd G 275 rfl) (wd G 3 rfl) (by decide) (by decide) rfl rfl) (argsL := [(.ref z), (.int (11 : Int32)), (.int i1)]) (rest := []) rfl (lenOf pd_28 rfl) rfl (Nat.le_of_eq rfl) rfl at_426 (pc' := 429) rfl (k' := 50) (n' := 6000) rfl rfl (by decide) (by decide) ?_
  intro v_49 h_52 sz_50 q_51
  obtain ⟨rfl, rfl⟩ := q_51
  refine Seg.ifN at_429 (by decide) (pc' := 432) rfl ?_
  refine Seg.iconst (v := 1) at_432 (by decide) (pc' := 433) rfl ?_
  refine Seg.goto (pc' := 437) at_433 (by decide) (by decide) ?_
  refine Seg.istore (L' := #[.val (.int p1), .val (.int p2), .val (.int p3), .val (.int p4), .val (.int (1 : Int32)), .val (.int (1 : Int32)), .val (.int (2 : Int32)), .val (.int t1), .val (.int t2), .val (.int i1), .val (.int i2), .val (.int o1), .val (.int o2), .val (.ref s1), .val (.ref s2), .val (.ref s3), .val (.ref rx), .val (.ref z), .val (.int (1 : Int32)), .val (.int (11 : Int32))]) at_437 rfl (pc' := 439) rfl ?_
  refine Seg.iload at_439 rfl (pc' := 441) rfl ?_
  refine Seg.iconst (v := 2) at_441 (by decide) (pc' := 442) rfl ?_
  refine Seg.icY (pc' := 471) at_442 (by decide) (by decide) (by decide) ?_
  refine Seg.iload at_471 rfl (pc' := 473) rfl ?_
  refine Seg.iload at_473 rfl (pc' := 475) rfl ?_
  refine Seg.iadd (v := (12 : Int32)) at_475 (by decide) (pc' := 476) rfl ?_
  refine Seg.istore (L' := #[.val (.int p1), .val (.int p2), .val (.int p3), .val (.int p4), .val (.int (1 : Int32)), .val (.int (1 : Int32)), .val (.int (2 : Int32)), .val (.int t1), .val (.int t2), .val (.int i1), .val (.int i2), .val (.int o1), .val (.int o2), .val (.ref s1), .val (.ref s2), .val (.ref s3), .val (.ref rx), .val (.ref z), .val (.int (1 : Int32)), .val (.int (12 : Int32))]) at_476 rfl (pc' := 478) rfl ?_
  refine Seg.iload at_478 rfl (pc' := 480) rfl ?_
  refine Seg.ifN at_480 (by decide) (pc' := 483) rfl ?_
  refine Seg.aload at_483 rfl rfl (pc' := 485) rfl ?_
  refine Seg.iload at_485 rfl (pc' := 487) rfl ?_
  refine Seg.bipush (v := 44) at_487 (by decide) (pc' := 489) rfl ?_
  refine Seg.callS (y' := (⟨"com/example/kredential/kredential/ResourceToStringPinLaw", "at", "(Ljava/lang/String;IC)Z"⟩ : MethodName)) (wd G 273 rfl) (wd G 274 rfl) (wd G 3 rfl) (wd G 275 rfl) ⟨by decide, by decide⟩ (Pays.of_ct (W := 0) (ct_at G z [82, 101, 115, 111, 117, 114, 99, 101, 91, t1, 47, i1, 44, 32, 111, 119, 110, 101, 114, 32, o1, o2, 93] 12 (44 : Int32) h F hall (by decide : 12 < 23) rfl) all0 (wd G 275 rfl) (wd G 3 rfl) (by decide) (by decide) rfl rfl) (argsL := [(.ref z), (.int (12 : Int32)), (.int (44 : Int32))]) (rest := []) rfl (lenOf pd_28 rfl) rfl (Nat.le_of_eq rfl) rfl at_489 (pc' := 492) rfl (k' := 50) (n' := 6000) rfl rfl (by decide) (by decide) ?_
  intro v_53 h_56 sz_54 q_55
  obtain ⟨rfl, rfl⟩ := q_55
  refine Seg.ifN at_492 (by decide) (pc' := 495) rfl ?_
  refine Seg.aload at_495 rfl rfl (pc' := 497) rfl ?_
  refine Seg.iload at_497 rfl (pc' := 499) rfl ?_
  refine Seg.iconst (v := 1) at_499 (by decide) (pc' := 500) rfl ?_
  refine Seg.iadd (v := (13 : Int32)) at_500 (by decide) (pc' := 501) rfl ?_
  refine Seg.bipush (v := 32) at_501 (by decide) (pc' := 503) rfl ?_
  refine Seg.callS (y' := (⟨"com/example/kredential/kredential/ResourceToStringPinLaw", "at", "(Ljava/lang/String;IC)Z"⟩ : MethodName)) (wd G 273 rfl) (wd G 274 rfl) (wd G 3 rfl) (wd G 275 rfl) ⟨by decide, by decide⟩ (Pays.of_ct (W := 0) (ct_at G z [82, 101, 115, 111, 117, 114, 99, 101, 91, t1, 47, i1, 44, 32, 111, 119, 110, 101, 114, 32, o1, o2, 93] 13 (32 : Int32) h F hall (by decide : 13 < 23) rfl) all0 (wd G 275 rfl) (wd G 3 rfl) (by decide) (by decide) rfl rfl) (argsL := [(.ref z), (.int (13 : Int32)), (.int (32 : Int32))]) (rest := []) rfl (lenOf pd_28 rfl) rfl (Nat.le_of_eq rfl) rfl at_503 (pc' := 506) rfl (k' := 50) (n' := 6000) rfl rfl (by decide) (by decide) ?_
  intro v_57 h_60 sz_58 q_59
  obtain ⟨rfl, rfl⟩ := q_59
  refine Seg.ifN at_506 (by decide) (pc' := 509) rfl ?_
  refine Seg.aload at_509 rfl rfl (pc' := 511) rfl ?_
  refine Seg.iload at_511 rfl (pc' := 513) rfl ?_
  refine Seg.iconst (v := 2) at_513 (by decide) (pc' := 514) rfl ?_
  refine Seg.iadd (v := (14 : Int32)) at_514 (by decide) (pc' := 515) rfl ?_
  refine Seg.bipush (v := 111) at_515 (by decide) (pc' := 517) rfl ?_
  refine Seg.callS (y' := (⟨"com/example/kredential/kredential/ResourceToStringPinLaw", "at", "(Ljava/lang/String;IC)Z"⟩ : MethodName)) (wd G 273 rfl) (wd G 274 rfl) (wd G 3 rfl) (wd G 275 rfl) ⟨by decide, by decide⟩ (Pays.of_ct (W := 0) (ct_at G z [82, 101, 115, 111, 117, 114, 99, 101, 91, t1, 47, i1, 44, 32, 111, 119, 110, 101, 114, 32, o1, o2, 93] 14 (111 : Int32) h F hall (by decide : 14 < 23) rfl) all0 (wd G 275 rfl) (wd G 3 rfl) (by decide) (by decide) rfl rfl) (argsL := [(.ref z), (.int (14 : Int32)), (.int (111 : Int32))]) (rest := []) rfl (lenOf pd_28 rfl) rfl (Nat.le_of_eq rfl) rfl at_517 (pc' := 520) rfl (k' := 50) (n' := 6000) rfl rfl (by decide) (by decide) ?_
  intro v_61 h_64 sz_62 q_63
  obtain ⟨rfl, rfl⟩ := q_63
  refine Seg.ifN at_520 (by decide) (pc' := 523) rfl ?_
  refine Seg.aload at_523 rfl rfl (pc' := 525) rfl ?_
  refine Seg.iload at_525 rfl (pc' := 527) rfl ?_
  refine Seg.iconst (v := 3) at_527 (by decide) (pc' := 528) rfl ?_
  refine Seg.iadd (v := (15 : Int32)) at_528 (by decide) (pc' := 529) rfl ?_
  refine Seg.bipush (v := 119) at_529 (by decide) (pc' := 531) rfl ?_
  refine Seg.callS (y' := (⟨"com/example/kredential/kredential/ResourceToStringPinLaw", "at", "(Ljava/lang/String;IC)Z"⟩ : MethodName)) (wd G 273 rfl) (wd G 274 rfl) (wd G 3 rfl) (wd G 275 rfl) ⟨by decide, by decide⟩ (Pays.of_ct (W := 0) (ct_at G z [82, 101, 115, 111, 117, 114, 99, 101, 91, t1, 47, i1, 44, 32, 111, 119, 110, 101, 114, 32, o1, o2, 93] 15 (119 : Int32) h F hall (by decide : 15 < 23) rfl) all0 (wd G 275 rfl) (wd G 3 rfl) (by decide) (by decide) rfl rfl) (argsL := [(.ref z), (.int (15 : Int32)), (.int (119 : Int32))]) (rest := []) rfl (lenOf pd_28 rfl) rfl (Nat.le_of_eq rfl) rfl at_531 (pc' := 534) rfl (k' := 50) (n' := 6000) rfl rfl (by decide) (by decide) ?_
  intro v_65 h_68 sz_66 q_67
  obtain ⟨rfl, rfl⟩ := q_67
  refine Seg.ifN at_534 (by decide) (pc' := 537) rfl ?_
  refine Seg.aload at_537 rfl rfl (pc' := 539) rfl ?_
  refine Seg.iload at_539 rfl (pc' := 541) rfl ?_
  refine Seg.iconst (v := 4) at_541 (by decide) (pc' := 542) rfl ?_
  refine Seg.iadd (v := (16 : Int32)) at_542 (by decide) (pc' := 543) rfl ?_
  refine Seg.bipush (v := 110) at_543 (by decide) (pc' := 545) rfl ?_
  refine Seg.callS (y' := (⟨"com/example/kredential/kredential/ResourceToStringPinLaw", "at", "(Ljava/lang/String;IC)Z"⟩ : MethodName)) (wd G 273 rfl) (wd G 274 rfl) (wd G 3 rfl) (wd G 275 rfl) ⟨by decide, by decide⟩ (Pays.of_ct (W := 0) (ct_at G z [82, 101, 115, 111, 117, 114, 99, 101, 91, t1, 47, i1, 44, 32, 111, 119, 110, 101, 114, 32, o1, o2, 93] 16 (110 : Int32) h F hall (by decide : 16 < 23) rfl) all0 (wd G 275 rfl) (wd G 3 rfl) (by decide) (by decide) rfl rfl) (argsL := [(.ref z), (.int (16 : Int32)), (.int (110 : Int32))]) (rest := []) rfl (lenOf pd_28 rfl) rfl (Nat.le_of_eq rfl) rfl at_545 (pc' := 548) rfl (k' := 50) (n' := 6000) rfl rfl (by decide) (by decide) ?_
  intro v_69 h_72 sz_70 q_71
  obtain ⟨rfl, rfl⟩ := q_71
  refine Seg.ifN at_548 (by decide) (pc' := 551) rfl ?_
  refine Seg.aload at_551 rfl rfl (pc' := 553) rfl ?_
  refine Seg.iload at_553 rfl (pc' := 555) rfl ?_
  refine Seg.iconst (v := 5) at_555 (by decide) (pc' := 556) rfl ?_
  refine Seg.iadd (v := (17 : Int32)) at_556 (by decide) (pc' := 557) rfl ?_
  refine Seg.bipush (v := 101) at_557 (by decide) (pc' := 559) rfl ?_
  refine Seg.callS (y' := (⟨"com/example/kredential/kredential/ResourceToStringPinLaw", "at", "(Ljava/lang/String;IC)Z"⟩ : MethodName)) (wd G 273 rfl) (wd G 274 rfl) (wd G 3 rfl) (wd G 275 rfl) ⟨by decide, by decide⟩ (Pays.of_ct (W := 0) (ct_at G z [82, 101, 115, 111, 117, 114, 99, 101, 91, t1, 47, i1, 44, 32, 111, 119, 110, 101, 114, 32, o1, o2, 93] 17 (101 : Int32) h F hall (by decide : 17 < 23) rfl) all0 (wd G 275 rfl) (wd G 3 rfl) (by decide) (by decide) rfl rfl) (argsL := [(.ref z), (.int (17 : Int32)), (.int (101 : Int32))]) (rest := []) rfl (lenOf pd_28 rfl) rfl (Nat.le_of_eq rfl) rfl at_559 (pc' := 562) rfl (k' := 50) (n' := 6000) rfl rfl (by decide) (by decide) ?_
  intro v_73 h_76 sz_74 q_75
  obtain ⟨rfl, rfl⟩ := q_75
  refine Seg.ifN at_562 (by decide) (pc' := 565) rfl ?_
  refine Seg.aload at_565 rfl rfl (pc' := 567) rfl ?_
  refine Seg.iload at_567 rfl (pc' := 569) rfl ?_
  refine Seg.bipush (v := 6) at_569 (by decide) (pc' := 571) rfl ?_
  refine Seg.iadd (v := (18 : Int32)) at_571 (by decide) (pc' := 572) rfl ?_
  refine Seg.bipush (v := 114) at_572 (by decide) (pc' := 574) rfl ?_
  refine Seg.callS (y' := (⟨"com/example/kredential/kredential/ResourceToStringPinLaw", "at", "(Ljava/lang/String;IC)Z"⟩ : MethodName)) (wd G 273 rfl) (wd G 274 rfl) (wd G 3 rfl) (wd G 275 rfl) ⟨by decide, by decide⟩ (Pays.of_ct (W := 0) (ct_at G z [82, 101, 115, 111, 117, 114, 99, 101, 91, t1, 47, i1, 44, 32, 111, 119, 110, 101, 114, 32, o1, o2, 93] 18 (114 : Int32) h F hall (by decide : 18 < 23) rfl) all0 (wd G 275 rfl) (wd G 3 rfl) (by decide) (by decide) rfl rfl) (argsL := [(.ref z), (.int (18 : Int32)), (.int (114 : Int32))]) (rest := []) rfl (lenOf pd_28 rfl) rfl (Nat.le_of_eq rfl) rfl at_574 (pc' := 577) rfl (k' := 50) (n' := 6000) rfl rfl (by decide) (by decide) ?_
  intro v_77 h_80 sz_78 q_79
  obtain ⟨rfl, rfl⟩ := q_79
  refine Seg.ifN at_577 (by decide) (pc' := 580) rfl ?_
  refine Seg.aload at_580 rfl rfl (pc' := 582) rfl ?_
  refine Seg.iload at_582 rfl (pc' := 584) rfl ?_
  refine Seg.bipush (v := 7) at_584 (by decide) (pc' := 586) rfl ?_
  refine Seg.iadd (v := (19 : Int32)) at_586 (by decide) (pc' := 587) rfl ?_
  refine Seg.bipush (v := 32) at_587 (by decide) (pc' := 589) rfl ?_
  refine Seg.callS (y' := (⟨"com/example/kredential/kredential/ResourceToStringPinLaw", "at", "(Ljava/lang/String;IC)Z"⟩ : MethodName)) (wd G 273 rfl) (wd G 274 rfl) (wd G 3 rfl) (wd G 275 rfl) ⟨by decide, by decide⟩ (Pays.of_ct (W := 0) (ct_at G z [82, 101, 115, 111, 117, 114, 99, 101, 91, t1, 47, i1, 44, 32, 111, 119, 110, 101, 114, 32, o1, o2, 93] 19 (32 : Int32) h F hall (by decide : 19 < 23) rfl) all0 (wd G 275 rfl) (wd G 3 rfl) (by decide) (by decide) rfl rfl) (argsL := [(.ref z), (.int (19 : Int32)), (.int (32 : Int32))]) (rest := []) rfl (lenOf pd_28 rfl) rfl (Nat.le_of_eq rfl) rfl at_589 (pc' := 592) rfl (k' := 50) (n' := 6000) rfl rfl (by decide) (by decide) ?_
  intro v_81 h_84 sz_82 q_83
  obtain ⟨rfl, rfl⟩ := q_83
  refine Seg.ifN at_592 (by decide) (pc' := 595) rfl ?_
  refine Seg.iconst (v := 1) at_595 (by decide) (pc' := 596) rfl ?_
  refine Seg.goto (pc' := 600) at_596 (by decide) (by decide) ?_
  refine Seg.istore (L' := #[.val (.int p1), .val (.int p2), .val (.int p3), .val (.int p4), .val (.int (1 : Int32)), .val (.int (1 : Int32)), .val (.int (2 : Int32)), .val (.int t1), .val (.int t2), .val (.int i1), .val (.int i2), .val (.int o1), .val (.int o2), .val (.ref s1), .val (.ref s2), .val (.ref s3), .val (.ref rx), .val (.ref z), .val (.int (1 : Int32)), .val (.int (12 : Int32))]) at_600 rfl (pc' := 602) rfl ?_
  refine Seg.iload at_602 rfl (pc' := 604) rfl ?_
  refine Seg.bipush (v := 8) at_604 (by decide) (pc' := 606) rfl ?_
  refine Seg.iadd (v := (20 : Int32)) at_606 (by decide) (pc' := 607) rfl ?_
  refine Seg.istore (L' := #[.val (.int p1), .val (.int p2), .val (.int p3), .val (.int p4), .val (.int (1 : Int32)), .val (.int (1 : Int32)), .val (.int (2 : Int32)), .val (.int t1), .val (.int t2), .val (.int i1), .val (.int i2), .val (.int o1), .val (.int o2), .val (.ref s1), .val (.ref s2), .val (.ref s3), .val (.ref rx), .val (.ref z), .val (.int (1 : Int32)), .val (.int (20 : Int32))]) at_607 rfl (pc' := 609) rfl ?_
  refine Seg.iload at_609 rfl (pc' := 611) rfl ?_
  refine Seg.ifN at_611 (by decide) (pc' := 614) rfl ?_
  refine Seg.aload at_614 rfl rfl (pc' := 616) rfl ?_
  refine Seg.iload at_616 rfl (pc' := 618) rfl ?_
  refine Seg.iload at_618 rfl (pc' := 620) rfl ?_
  refine Seg.callS (y' := (⟨"com/example/kredential/kredential/ResourceToStringPinLaw", "at", "(Ljava/lang/String;IC)Z"⟩ : MethodName)) (wd G 273 rfl) (wd G 274 rfl) (wd G 3 rfl) (wd G 275 rfl) ⟨by decide, by decide⟩ (Pays.of_ct (W := 0) (ct_at G z [82, 101, 115, 111, 117, 114, 99, 101, 91, t1, 47, i1, 44, 32, 111, 119, 110, 101, 114, 32, o1, o2, 93] 20 o1 h F hall (by decide : 20 < 23) rfl) all0 (wd G 275 rfl) (wd G 3 rfl) (by decide) (by decide) rfl rfl) (argsL := [(.ref z), (.int (20 : Int32)), (.int o1)]) (rest := []) rfl (lenOf pd_28 rfl) rfl (Nat.le_of_eq rfl) rfl at_620 (pc' := 623) rfl (k' := 50) (n' := 6000) rfl rfl (by decide) (by decide) ?_
  intro v_85 h_88 sz_86 q_87
  obtain ⟨rfl, rfl⟩ := q_87
  refine Seg.ifN at_623 (by decide) (pc' := 626) rfl ?_
  refine Seg.iconst (v := 1) at_626 (by decide) (pc' := 627) rfl ?_
  refine Seg.goto (pc' := 631) at_627 (by decide) (by decide) ?_
  refine Seg.istore (L' := #[.val (.int p1), .val (.int p2), .val (.int p3), .val (.int p4), .val (.int (1 : Int32)), .val (.int (1 : Int32)), .val (.int (2 : Int32)), .val (.int t1), .val (.int t2), .val (.int i1), .val (.int i2), .val (.int o1), .val (.int o2), .val (.ref s1), .val (.ref s2), .val (.ref s3), .val (.ref rx), .val (.ref z), .val (.int (1 : Int32)), .val (.int (20 : Int32))]) at_631 rfl (pc' := 633) rfl ?_
  refine Seg.iload at_633 rfl (pc' := 635) rfl ?_
  refine Seg.iconst (v := 2) at_635 (by decide) (pc' := 636) rfl ?_
  refine Seg.icN at_636 (by decide) (pc' := 639) rfl ?_
  refine Seg.iload at_639 rfl (pc' := 641) rfl ?_
  refine Seg.ifN at_641 (by decide) (pc' := 644) rfl ?_
  refine Seg.aload at_644 rfl rfl (pc' := 646) rfl ?_
  refine Seg.iload at_646 rfl (pc' := 648) rfl ?_
  refine Seg.iconst (v := 1) at_648 (by decide) (pc' := 649) rfl ?_
  refine Seg.iadd (v := (21 : Int32)) at_649 (by decide) (pc' := 650) rfl ?_
  refine Seg.iload at_650 rfl (pc' := 652) rfl ?_
  refine Seg.callS (y' := (⟨"com/example/kredential/kredential/ResourceToStringPinLaw", "at", "(Ljava/lang/String;IC)Z"⟩ : MethodName)) (wd G 273 rfl) (wd G 274 rfl) (wd G 3 rfl) (wd G 275 rfl) ⟨by decide, by decide⟩ (Pays.of_ct (W := 0) (ct_at G z [82, 101, 115, 111, 117, 114, 99, 101, 91, t1, 47, i1, 44, 32, 111, 119, 110, 101, 114, 32, o1, o2, 93] 21 o2 h F hall (by decide : 21 < 23) rfl) all0 (wd G 275 rfl) (wd G 3 rfl) (by decide) (by decide) rfl rfl) (argsL := [(.ref z), (.int (21 : Int32)), (.int o2)]) (rest := []) rfl (lenOf pd_28 rfl) rfl (Nat.le_of_eq rfl) rfl at_652 (pc' := 655) rfl (k' := 50) (n' := 6000) rfl rfl (by decide) (by decide) ?_
  intro v_89 h_92 sz_90 q_91
  obtain ⟨rfl, rfl⟩ := q_91
  refine Seg.ifN at_655 (by decide) (pc' := 658) rfl ?_
  refine Seg.iconst (v := 1) at_658 (by decide) (pc' := 659) rfl ?_
  refine Seg.goto (pc' := 663) at_659 (by decide) (by decide) ?_
  refine Seg.istore (L' := #[.val (.int p1), .val (.int p2), .val (.int p3), .val (.int p4), .val (.int (1 : Int32)), .val (.int (1 : Int32)), .val (.int (2 : Int32)), .val (.int t1), .val (.int t2), .val (.int i1), .val (.int i2), .val (.int o1), .val (.int o2), .val (.ref s1), .val (.ref s2), .val (.ref s3), .val (.ref rx), .val (.ref z), .val (.int (1 : Int32)), .val (.int (20 : Int32))]) at_663 rfl (pc' := 665) rfl ?_
  refine Seg.iload at_665 rfl (pc' := 667) rfl ?_
  refine Seg.iload at_667 rfl (pc' := 669) rfl ?_
  refine Seg.iadd (v := (22 : Int32)) at_669 (by decide) (pc' := 670) rfl ?_
  refine Seg.istore (L' := #[.val (.int p1), .val (.int p2), .val (.int p3), .val (.int p4), .val (.int (1 : Int32)), .val (.int (1 : Int32)), .val (.int (2 : Int32)), .val (.int t1), .val (.int t2), .val (.int i1), .val (.int i2), .val (.int o1), .val (.int o2), .val (.ref s1), .val (.ref s2), .val (.ref s3), .val (.ref rx), .val (.ref z), .val (.int (1 : Int32)), .val (.int (22 : Int32))]) at_670 rfl (pc' := 672) rfl ?_
  refine Seg.iload at_672 rfl (pc' := 674) rfl ?_
  refine Seg.ifN at_674 (by decide) (pc' := 677) rfl ?_
  refine Seg.aload at_677 rfl rfl (pc' := 679) rfl ?_
  refine Seg.iload at_679 rfl (pc' := 681) rfl ?_
  refine Seg.bipush (v := 93) at_681 (by decide) (pc' := 683) rfl ?_
  refine Seg.callS (y' := (⟨"com/example/kredential/kredential/ResourceToStringPinLaw", "at", "(Ljava/lang/String;IC)Z"⟩ : MethodName)) (wd G 273 rfl) (wd G 274 rfl) (wd G 3 rfl) (wd G 275 rfl) ⟨by decide, by decide⟩ (Pays.of_ct (W := 0) (ct_at G z [82, 101, 115, 111, 117, 114, 99, 101, 91, t1, 47, i1, 44, 32, 111, 119, 110, 101, 114, 32, o1, o2, 93] 22 (93 : Int32) h F hall (by decide : 22 < 23) rfl) all0 (wd G 275 rfl) (wd G 3 rfl) (by decide) (by decide) rfl rfl) (argsL := [(.ref z), (.int (22 : Int32)), (.int (93 : Int32))]) (rest := []) rfl (lenOf pd_28 rfl) rfl (Nat.le_of_eq rfl) rfl at_683 (pc' := 686) rfl (k' := 50) (n' := 6000) rfl rfl (by decide) (by decide) ?_
  intro v_93 h_96 sz_94 q_95
  obtain ⟨rfl, rfl⟩ := q_95
  refine Seg.ifN at_686 (by decide) (pc' := 689) rfl ?_
  refine Seg.iconst (v := 1) at_689 (by decide) (pc' := 690) rfl ?_
  refine Seg.goto (pc' := 694) at_690 (by decide) (by decide) ?_
  refine Seg.istore (L' := #[.val (.int p1), .val (.int p2), .val (.int p3), .val (.int p4), .val (.int (1 : Int32)), .val (.int (1 : Int32)), .val (.int (2 : Int32)), .val (.int t1), .val (.int t2), .val (.int i1), .val (.int i2), .val (.int o1), .val (.int o2), .val (.ref s1), .val (.ref s2), .val (.ref s3), .val (.ref rx), .val (.ref z), .val (.int (1 : Int32)), .val (.int (22 : Int32))]) at_694 rfl (pc' := 696) rfl ?_
  refine Seg.iload at_696 rfl (pc' := 698) rfl ?_
  exact Seg.retN (t := .boolean) (w := (1 : Int32)) rfl (by decide) (by decide) at_698 (by decide) (by decide) rfl
set_option maxRecDepth 65536 in
set_option maxHeartbeats 4000000 in
theorem sgm112 {l : Launch} {Z : State} {a0 : Array Value} (G : Env1 Z a0) (p1 : Int32) (p2 : Int32) (p3 : Int32) (p4 : Int32) (t1 : Int32) (t2 : Int32) (i1 : Int32) (i2 : Int32) (o1 : Int32) (o2 : Int32) (h : Heap) (kt1 : okT t1) (kt2 : okT t2) (ki1 : okI i1) (ki2 : okI i2) (ko1 : okI o1) (ko2 : okI o2) (hI : ¬ (i1 = 46 ∧ ((1 : Int32) = 1 ∨ i2 = 46))) (hO : ¬ (o1 = 46 ∧ ((2 : Int32) = 1 ∨ o2 = 46))) :
    Seg l Z a0 EL1 x code maxLocals ret room_1 (fun v h => v = some (.int 1)) h 0 0 [] 123 #[.val (.int p1), .val (.int p2), .val (.int p3), .val (.int p4), .val (.int (1 : Int32)), .val (.int (1 : Int32)), .val (.int (2 : Int32)), .val (.int t1), .val (.int t2), .val (.int i1), .val (.int i2), .val (.int o1), .val (.int o2), .unset, .unset, .unset, .unset, .unset, .unset, .unset] [] := by
  have rt1 := (okI_r (okT_I kt1)).1
  have rt2 := (okI_r (okT_I kt2)).1
  have ri1 := (okI_r ki1).1
  have ri2 := (okI_r ki2).1
  have ro1 := (okI_r ko1).1
  have ro2 := (okI_r ko2).1
  refine Seg.iload at_123 rfl (pc' := 125) rfl ?_
  refine Seg.iload at_125 rfl (pc' := 127) rfl ?_
  refine Seg.iload at_127 rfl (pc' := 129) rfl ?_
  refine Seg.callS (y' := (⟨"com/example/kredential/kredential/ResourceToStringPinLaw", "make", "(ICC)Ljava/lang/String;"⟩ : MethodName)) (wd G 8 rfl) (wd G 9 rfl) (wd G 3 rfl) (wd G 10 rfl) ⟨by decide, by decide⟩ (Pays.of_ct (W := 0) (ct_mk1 G t1 t2 h rt1 rt2) all0 (wd G 10 rfl) (wd G 3 rfl) (by decide) (by decide) rfl rfl) (argsL := [(.int (1 : Int32)), (.int t1), (.int t2)]) (rest := []) rfl (lenOf pd_29 rfl) rfl (Nat.le_of_eq rfl) rfl at_129 (pc' := 132) rfl (k' := 2) (n' := 5) rfl rfl (by decide) (by decide) ?_
  intro v_1 h_4 sz_2 q_3
  obtain ⟨s1, rfl, E1, T1⟩ := q_3
  refine Seg.astore (L' := #[.val (.int p1), .val (.int p2), .val (.int p3), .val (.int p4), .val (.int (1 : Int32)), .val (.int (1 : Int32)), .val (.int (2 : Int32)), .val (.int t1), .val (.int t2), .val (.int i1), .val (.int i2), .val (.int o1), .val (.int o2), .val (.ref s1), .unset, .unset, .unset, .unset, .unset, .unset]) at_132 rfl rfl (pc' := 134) rfl ?_
  refine Seg.iload at_134 rfl (pc' := 136) rfl ?_
  refine Seg.iload at_136 rfl (pc' := 138) rfl ?_
  refine Seg.iload at_138 rfl (pc' := 140) rfl ?_
  refine Seg.callS (y' := (⟨"com/example/kredential/kredential/ResourceToStringPinLaw", "make", "(ICC)Ljava/lang/String;"⟩ : MethodName)) (wd G 8 rfl) (wd G 9 rfl) (wd G 3 rfl) (wd G 10 rfl) ⟨by decide, by decide⟩ (Pays.of_ct (W := 0) (ct_mk1 G i1 i2 h_4 ri1 ri2) all0 (wd G 10 rfl) (wd G 3 rfl) (by decide) (by decide) rfl rfl) (argsL := [(.int (1 : Int32)), (.int i1), (.int i2)]) (rest := []) rfl (lenOf pd_29 rfl) rfl (Nat.le_of_eq rfl) rfl at_140 (pc' := 143) rfl (k' := 4) (n' := 10) rfl rfl (by decide) (by decide) ?_
  intro v_5 h_8 sz_6 q_7
  obtain ⟨s2, rfl, E2, T2⟩ := q_7
  refine Seg.astore (L' := #[.val (.int p1), .val (.int p2), .val (.int p3), .val (.int p4), .val (.int (1 : Int32)), .val (.int (1 : Int32)), .val (.int (2 : Int32)), .val (.int t1), .val (.int t2), .val (.int i1), .val (.int i2), .val (.int o1), .val (.int o2), .val (.ref s1), .val (.ref s2), .unset, .unset, .unset, .unset, .unset]) at_143 rfl rfl (pc' := 145) rfl ?_
  refine Seg.iload at_145 rfl (pc' := 147) rfl ?_
  refine Seg.iload at_147 rfl (pc' := 149) rfl ?_
  refine Seg.iload at_149 rfl (pc' := 151) rfl ?_
  refine Seg.callS (y' := (⟨"com/example/kredential/kredential/ResourceToStringPinLaw", "make", "(ICC)Ljava/lang/String;"⟩ : MethodName)) (wd G 8 rfl) (wd G 9 rfl) (wd G 3 rfl) (wd G 10 rfl) ⟨by decide, by decide⟩ (Pays.of_ct (W := 0) (ct_mk2 G o1 o2 h_8 ro1 ro2) all0 (wd G 10 rfl) (wd G 3 rfl) (by decide) (by decide) rfl rfl) (argsL := [(.int (2 : Int32)), (.int o1), (.int o2)]) (rest := []) rfl (lenOf pd_29 rfl) rfl (Nat.le_of_eq rfl) rfl at_151 (pc' := 154) rfl (k' := 7) (n' := 18) rfl rfl (by decide) (by decide) ?_
  intro v_9 h_12 sz_10 q_11
  obtain ⟨s3, rfl, E3, T3⟩ := q_11
  refine Seg.astore (L' := #[.val (.int p1), .val (.int p2), .val (.int p3), .val (.int p4), .val (.int (1 : Int32)), .val (.int (1 : Int32)), .val (.int (2 : Int32)), .val (.int t1), .val (.int t2), .val (.int i1), .val (.int i2), .val (.int o1), .val (.int o2), .val (.ref s1), .val (.ref s2), .val (.ref s3), .unset, .unset, .unset, .unset]) at_154 rfl rfl (pc' := 156) rfl ?_
  refine Seg.newO (wd G 55 rfl) (wd G 56 rfl) (wd G 57 rfl) at_156 (pc' := 159) rfl (k' := 8) (n' := 21) rfl rfl (by decide) (by decide) ?_
  intro b_13 h_15 E_14 e_b_13 l_b_13 A_b_13 D_b_13
  have F_type_b_13 : Fld Z h_15 b_13 "com/example/kredential/kredential/Resource" "type" "Ljava/lang/String;" Value.null := D_b_13 (Or.inr (wd G 140 rfl)) (ty := (.object "java/lang/String")) (by decide)
  have F_id_b_13 : Fld Z h_15 b_13 "com/example/kredential/kredential/Resource" "id" "Ljava/lang/String;" Value.null := D_b_13 (Or.inr (wd G 142 rfl)) (ty := (.object "java/lang/String")) (by decide)
  have F_owner_b_13 : Fld Z h_15 b_13 "com/example/kredential/kredential/Resource" "owner" "Ljava/lang/String;" Value.null := D_b_13 (Or.inr (wd G 144 rfl)) (ty := (.object "java/lang/String")) (by decide)
  refine Seg.dup at_159 rfl (pc' := 160) rfl ?_
  refine Seg.aload at_160 rfl rfl (pc' := 162) rfl ?_
  refine Seg.aload at_162 rfl rfl (pc' := 164) rfl ?_
  refine Seg.aload at_164 rfl rfl (pc' := 166) rfl ?_
  have E_16 : Ext h_4 h_12 := ext_tr E2 E3
  have E_17 : Ext h_4 h_15 := ext_tr E_16 E_14
  have F_18 := T1.ext E_17
  have E_19 : Ext h_8 h_15 := ext_tr E3 E_14
  have F_20 := T2.ext E_19
  have F_21 := T3.ext E_14
  refine Seg.callN (y' := (⟨"com/example/kredential/kredential/Resource", "<init>", "(Ljava/lang/String;Ljava/lang/String;Ljava/lang/String;)V"⟩ : MethodName)) (a := b_13) rfl (wd G 58 rfl) (wd G 59 rfl) (wd G 60 rfl) ⟨by decide, by decide⟩ (Pays.of_ct (W := 1) (ct_rinit G b_13 s1 s2 s3 [t1] [i1] [o1, o2] .null .null .null h_15 A_b_13 F_type_b_13 F_id_b_13 F_owner_b_13 F_18 F_20 F_21 ⟨(fun c hc => by simp only [List.mem_cons, List.not_mem_nil, or_false] at hc; rcases hc with rfl <;> assumption), (by decide : 0 < 1), (by decide : 1 ≤ 2)⟩ ⟨⟨(fun c hc => by simp only [List.mem_cons, List.not_mem_nil, or_false] at hc; rcases hc with rfl <;> assumption), (by decide : 0 < 1), (by decide : 1 ≤ 2)⟩, (fun q => hI ⟨(List.cons.inj q).1, Or.inl rfl⟩), (fun q => nomatch (List.cons.inj q).2)⟩ ⟨⟨(fun c hc => by simp only [List.mem_cons, List.not_mem_nil, or_false] at hc; rcases hc with rfl | rfl <;> assumption), (by decide : 0 < 2), (by decide : 2 ≤ 2)⟩, (fun q => nomatch (List.cons.inj q).2), (fun q => hO ⟨(List.cons.inj q).1, Or.inr (List.cons.inj (List.cons.inj q).2).1⟩)⟩) (allS (List.mem_of_getElem? (i := 0) rfl) all0) (wd G 60 rfl) (wd G 57 rfl) (by decide) (by decide) rfl rfl) (argsL := [(.ref s1), (.ref s2), (.ref s3)]) (rest := [(.ref b_13)]) rfl (lenOf pd_30 rfl) rfl (Nat.le_of_eq rfl) rfl at_166 (pc' := 169) rfl (k' := 20) (n' := 81) rfl rfl (by decide) (by decide) ?_
  intro v_22 h_25 sz_23 q_24
  obtain ⟨rfl, K1, G0, G1, G2⟩ := q_24
  refine Seg.astore (L' := #[.val (.int p1), .val (.int p2), .val (.int p3), .val (.int p4), .val (.int (1 : Int32)), .val (.int (1 : Int32)), .val (.int (2 : Int32)), .val (.int t1), .val (.int t2), .val (.int i1), .val (.int i2), .val (.int o1), .val (.int o2), .val (.ref s1), .val (.ref s2), .val (.ref s3), .val (.ref b_13), .unset, .unset, .unset]) at_169 rfl rfl (pc' := 171) rfl ?_
  refine Seg.aload at_171 rfl rfl (pc' := 173) rfl ?_
  have F_26 := (A_b_13.keep K1)
  have E_27 : Ext h_4 h_25 := ext_kp E_17 K1 (allS (Nat.le_trans E_16.1 (Nat.le_of_eq e_b_13)) all0)
  have F_28 := T1.ext E_27
  have E_29 : Ext h_8 h_25 := ext_kp E_19 K1 (allS (Nat.le_trans E3.1 (Nat.le_of_eq e_b_13)) all0)
  have F_30 := T2.ext E_29
  have E_31 : Ext h_12 h_25 := ext_kp E_14 K1 (allS (Nat.le_trans (ext_rfl _).1 (Nat.le_of_eq e_b_13)) all0)
  have F_32 := T3.ext E_31
  refine Seg.callV (y' := (⟨"com/example/kredential/kredential/Resource", "toString", "()Ljava/lang/String;"⟩ : MethodName)) (z := (⟨"com/example/kredential/kredential/Resource", "toString", "()Ljava/lang/String;"⟩ : MethodName)) (a := b_13) (wd G 145 rfl) (wd G 146 rfl) (nf_sel (wd G 148 rfl)) (wd G 148 rfl) (wd G 147 rfl) ⟨by decide, by decide⟩ F_26 (Pays.of_ct (W := 0) (ct_rts G b_13 s1 s2 s3 [t1] [i1] [o1, o2] h_25 F_26 G0 G1 G2 F_28 F_30 F_32 (fun c hc => by simp only [List.mem_cons, List.not_mem_nil, or_false] at hc; rcases hc with rfl <;> assumption) (fun c hc => by simp only [List.mem_cons, List.not_mem_nil, or_false] at hc; rcases hc with rfl <;> assumption) (fun c hc => by simp only [List.mem_cons, List.not_mem_nil, or_false] at hc; rcases hc with rfl | rfl <;> assumption) (by decide : 1 ≤ 2) (by decide : 1 ≤ 2) (by decide : 2 ≤ 2)) all0 (wd G 149 rfl) (wd G 57 rfl) (by decide) (by decide) rfl rfl) (argsL := []) (rest := []) rfl (lenOf pd_22 rfl) rfl (Nat.le_of_eq rfl) rfl at_173 (pc' := 176) rfl (k' := 33) (n' := 331) rfl rfl (by decide) (by decide) ?_
  intro v_33 h_36 sz_34 q_35
  obtain ⟨z, rfl, E9, F9⟩ := q_35
  exact (sgt112 G p1 p2 p3 p4 t1 t2 i1 i2 o1 o2 s1 s2 s3 b_13 z h_36 F9 rt1 rt2 ri1 ri2 ro1 ro2).mono (by decide) (by decide) all0
set_option maxRecDepth 65536 in
set_option maxHeartbeats 4000000 in
theorem sgt121 {l : Launch} {Z : State} {a0 : Array Value} (G : Env1 Z a0) (p1 : Int32) (p2 : Int32) (p3 : Int32) (p4 : Int32) (t1 : Int32) (t2 : Int32) (i1 : Int32) (i2 : Int32) (o1 : Int32) (o2 : Int32) (s1 : Addr) (s2 : Addr) (s3 : Addr) (rx : Addr) (z : Addr) (h : Heap) (F : Str Z h z [82, 101, 115, 111, 117, 114, 99, 101, 91, t1, 47, i1, i2, 44, 32, 111, 119, 110, 101, 114, 32, o1, 93]) (rt1 : ¬ t1 < 0 ∧ ¬ (255 : Int32) < t1) (rt2 : ¬ t2 < 0 ∧ ¬ (255 : Int32) < t2) (ri1 : ¬ i1 < 0 ∧ ¬ (255 : Int32) < i1) (ri2 : ¬ i2 < 0 ∧ ¬ (255 : Int32) < i2) (ro1 : ¬ o1 < 0 ∧ ¬ (255 : Int32) < o1) (ro2 : ¬ o2 < 0 ∧ ¬ (255 : Int32) < o2) :
    Seg l Z a0 EL1 x code maxLocals ret room_1 (fun v h => v = some (.int 1)) h 50 6000 [] 176 #[.val (.int p1), .val (.int p2), .val (.int p3), .val (.int p4), .val (.int (1 : Int32)), .val (.int (2 : Int32)), .val (.int (1 : Int32)), .val (.int t1), .val (.int t2), .val (.int i1), .val (.int i2), .val (.int o1), .val (.int o2), .val (.ref s1), .val (.ref s2), .val (.ref s3), .val (.ref rx), .unset, .unset, .unset] [(.ref z)] := by
  have f1 := F.exa
  have hall : ∀ c ∈ [82, 101, 115, 111, 117, 114, 99, 101, 91, t1, 47, i1, i2, 44, 32, 111, 119, 110, 101, 114, 32, o1, 93], ¬ c < 0 ∧ ¬ (255 : Int32) < c := by
    intro c hc
    simp only [List.mem_cons, List.not_mem_nil, or_false] at hc
    rcases hc with rfl | rfl | rfl | rfl | rfl | rfl | rfl | rfl | rfl | rfl | rfl | rfl | rfl | rfl | rfl | rfl | rfl | rfl | rfl | rfl | rfl | rfl | rfl <;> first | assumption | decide
  refine Seg.astore (L' := #[.val (.int p1), .val (.int p2), .val (.int p3), .val (.int p4), .val (.int (1 : Int32)), .val (.int (2 : Int32)), .val (.int (1 : Int32)), .val (.int t1), .val (.int t2), .val (.int i1), .val (.int i2), .val (.int o1), .val (.int o2), .val (.ref s1), .val (.ref s2), .val (.ref s3), .val (.ref rx), .val (.ref z), .unset, .unset]) at_176 rfl rfl (pc' := 178) rfl ?_
  refine Seg.aload at_178 rfl rfl (pc' := 180) rfl ?_
  refine Seg.callV (y' := (⟨"java/lang/String", "length", "()I"⟩ : MethodName)) (z := (⟨"java/lang/String", "length", "()I"⟩ : MethodName)) (a := z) (wd G 272 rfl) (wd G 79 rfl) (nf_sel (wd G 81 rfl)) (wd G 81 rfl) (wd G 80 rfl) ⟨by decide, by decide⟩ f1 ((pays_len (W := 0) G h F (by decide) (by decide)).post (Q' := fun v h' => v = some (.int 23) ∧ h = h') fun v h' q => ⟨q.1, q.2⟩) (argsL := []) (rest := []) rfl (lenOf pd_0 rfl) rfl (Nat.le_of_eq rfl) rfl at_180 (pc' := 183) rfl (k' := 50) (n' := 6000) rfl rfl (by decide) (by decide) ?_
  intro v_1 h_4 sz_2 q_3
  obtain ⟨rfl, rfl⟩ := q_3
  refine Seg.bipush (v := 19) at_183 (by decide) (pc' := 185) rfl ?_
  refine Seg.iload at_185 rfl (pc' := 187) rfl ?_
  refine Seg.iadd (v := (20 : Int32)) at_187 (by decide) (pc' := 188) rfl ?_
  refine Seg.iload at_188 rfl (pc' := 190) rfl ?_
  refine Seg.iadd (v := (22 : Int32)) at_190 (by decide) (pc' := 191) rfl ?_
  refine Seg.iload at_191 rfl (pc' := 193) rfl ?_
  refine Seg.iadd (v := (23 : Int32)) at_193 (by decide) (pc' := 194) rfl ?_
  refine Seg.icN at_194 (by decide) (pc' := 197) rfl ?_
  refine Seg.iconst (v := 1) at_197 (by decide) (pc' := 198) rfl ?_
  refine Seg.goto (pc' := 202) at_198 (by decide) (by decide) ?_
  refine Seg.istore (L' := #[.val (.int p1), .val (.int p2), .val (.int p3), .val (.int p4), .val (.int (1 : Int32)), .val (.int (2 : Int32)), .val (.int (1 : Int32)), .val (.int t1), .val (.int t2), .val (.int i1), .val (.int i2), .val (.int o1), .val (.int o2), .val (.ref s1), .val (.ref s2), .val (.ref s3), .val (.ref rx), .val (.ref z), .val (.int (1 : Int32)), .unset]) at_202 rfl (pc' := 204) rfl ?_
  refine Seg.iload at_204 rfl (pc' := 206) rfl ?_
  refine Seg.ifN at_206 (by decide) (pc' := 209) rfl ?_
  refine Seg.aload at_209 rfl rfl (pc' := 211) rfl ?_
  refine Seg.iconst (v := 0) at_211 (by decide) (pc' := 212) rfl ?_
  refine Seg.bipush (v := 82) at_212 (by decide) (pc' := 214) rfl ?_
  refine Seg.callS (y' := (⟨"com/example/kredential/kredential/ResourceToStringPinLaw", "at", "(Ljava/lang/String;IC)Z"⟩ : MethodName)) (wd G 273 rfl) (wd G 274 rfl) (wd G 3 rfl) (wd G 275 rfl) ⟨by decide, by decide⟩ (Pays.of_ct (W := 0) (ct_at G z [82, 101, 115, 111, 117, 114, 99, 101, 91, t1, 47, i1, i2, 44, 32, 111, 119, 110, 101, 114, 32, o1, 93] 0 (82 : Int32) h F hall (by decide : 0 < 23) rfl) all0 (wd G 275 rfl) (wd G 3 rfl) (by decide) (by decide) rfl rfl) (argsL := [(.ref z), (.int (0 : Int32)), (.int (82 : Int32))]) (rest := []) rfl (lenOf pd_28 rfl) rfl (Nat.le_of_eq rfl) rfl at_214 (pc' := 217) rfl (k' := 50) (n' := 6000) rfl rfl (by decide) (by decide) ?_
  intro v_5 h_8 sz_6 q_7
  obtain ⟨rfl, rfl⟩ := q_7
  refine Seg.ifN at_217 (by decide) (pc' := 220) rfl ?_
  refine Seg.aload at_220 rfl rfl (pc' := 222) rfl ?_
  refine Seg.iconst (v := 1) at_222 (by decide) (pc' := 223) rfl ?_
  refine Seg.bipush (v := 101) at_223 (by decide) (pc' := 225) rfl ?_
  refine Seg.callS (y' := (⟨"com/example/kredential/kredential/ResourceToStringPinLaw", "at", "(Ljava/lang/String;IC)Z"⟩ : MethodName)) (wd G 273 rfl) (wd G 274 rfl) (wd G 3 rfl) (wd G 275 rfl) ⟨by decide, by decide⟩ (Pays.of_ct (W := 0) (ct_at G z [82, 101, 115, 111, 117, 114, 99, 101, 91, t1, 47, i1, i2, 44, 32, 111, 119, 110, 101, 114, 32, o1, 93] 1 (101 : Int32) h F hall (by decide : 1 < 23) rfl) all0 (wd G 275 rfl) (wd G 3 rfl) (by decide) (by decide) rfl rfl) (argsL := [(.ref z), (.int (1 : Int32)), (.int (101 : Int32))]) (rest := []) rfl (lenOf pd_28 rfl) rfl (Nat.le_of_eq rfl) rfl at_225 (pc' := 228) rfl (k' := 50) (n' := 6000) rfl rfl (by decide) (by decide) ?_
  intro v_9 h_12 sz_10 q_11
  obtain ⟨rfl, rfl⟩ := q_11
  refine Seg.ifN at_228 (by decide) (pc' := 231) rfl ?_
  refine Seg.aload at_231 rfl rfl (pc' := 233) rfl ?_
  refine Seg.iconst (v := 2) at_233 (by decide) (pc' := 234) rfl ?_
  refine Seg.bipush (v := 115) at_234 (by decide) (pc' := 236) rfl ?_
  refine Seg.callS (y' := (⟨"com/example/kredential/kredential/ResourceToStringPinLaw", "at", "(Ljava/lang/String;IC)Z"⟩ : MethodName)) (wd G 273 rfl) (wd G 274 rfl) (wd G 3 rfl) (wd G 275 rfl) ⟨by decide, by decide⟩ (Pays.of_ct (W := 0) (ct_at G z [82, 101, 115, 111, 117, 114, 99, 101, 91, t1, 47, i1, i2, 44, 32, 111, 119, 110, 101, 114, 32, o1, 93] 2 (115 : Int32) h F hall (by decide : 2 < 23) rfl) all0 (wd G 275 rfl) (wd G 3 rfl) (by decide) (by decide) rfl rfl) (argsL := [(.ref z), (.int (2 : Int32)), (.int (115 : Int32))]) (rest := []) rfl (lenOf pd_28 rfl) rfl (Nat.le_of_eq rfl) rfl at_236 (pc' := 239) rfl (k' := 50) (n' := 6000) rfl rfl (by decide) (by decide) ?_
  intro v_13 h_16 sz_14 q_15
  obtain ⟨rfl, rfl⟩ := q_15
  refine Seg.ifN at_239 (by decide) (pc' := 242) rfl ?_
  refine Seg.aload at_242 rfl rfl (pc' := 244) rfl ?_
  refine Seg.iconst (v := 3) at_244 (by decide) (pc' := 245) rfl ?_
  refine Seg.bipush (v := 111) at_245 (by decide) (pc' := 247) rfl ?_
  refine Seg.callS (y' := (⟨"com/example/kredential/kredential/ResourceToStringPinLaw", "at", "(Ljava/lang/String;IC)Z"⟩ : MethodName)) (wd G 273 rfl) (wd G 274 rfl) (wd G 3 rfl) (wd G 275 rfl) ⟨by decide, by decide⟩ (Pays.of_ct (W := 0) (ct_at G z [82, 101, 115, 111, 117, 114, 99, 101, 91, t1, 47, i1, i2, 44, 32, 111, 119, 110, 101, 114, 32, o1, 93] 3 (111 : Int32) h F hall (by decide : 3 < 23) rfl) all0 (wd G 275 rfl) (wd G 3 rfl) (by decide) (by decide) rfl rfl) (argsL := [(.ref z), (.int (3 : Int32)), (.int (111 : Int32))]) (rest := []) rfl (lenOf pd_28 rfl) rfl (Nat.le_of_eq rfl) rfl at_247 (pc' := 250) rfl (k' := 50) (n' := 6000) rfl rfl (by decide) (by decide) ?_
  intro v_17 h_20 sz_18 q_19
  obtain ⟨rfl, rfl⟩ := q_19
  refine Seg.ifN at_250 (by decide) (pc' := 253) rfl ?_
  refine Seg.aload at_253 rfl rfl (pc' := 255) rfl ?_
  refine Seg.iconst (v := 4) at_255 (by decide) (pc' := 256) rfl ?_
  refine Seg.bipush (v := 117) at_256 (by decide) (pc' := 258) rfl ?_
  refine Seg.callS (y' := (⟨"com/example/kredential/kredential/ResourceToStringPinLaw", "at", "(Ljava/lang/String;IC)Z"⟩ : MethodName)) (wd G 273 rfl) (wd G 274 rfl) (wd G 3 rfl) (wd G 275 rfl) ⟨by decide, by decide⟩ (Pays.of_ct (W := 0) (ct_at G z [82, 101, 115, 111, 117, 114, 99, 101, 91, t1, 47, i1, i2, 44, 32, 111, 119, 110, 101, 114, 32, o1, 93] 4 (117 : Int32) h F hall (by decide : 4 < 23) rfl) all0 (wd G 275 rfl) (wd G 3 rfl) (by decide) (by decide) rfl rfl) (argsL := [(.ref z), (.int (4 : Int32)), (.int (117 : Int32))]) (rest := []) rfl (lenOf pd_28 rfl) rfl (Nat.le_of_eq rfl) rfl at_258 (pc' := 261) rfl (k' := 50) (n' := 6000) rfl rfl (by decide) (by decide) ?_
  intro v_21 h_24 sz_22 q_23
  obtain ⟨rfl, rfl⟩ := q_23
  refine Seg.ifN at_261 (by decide) (pc' := 264) rfl ?_
  refine Seg.aload at_264 rfl rfl (pc' := 266) rfl ?_
  refine Seg.iconst (v := 5) at_266 (by decide) (pc' := 267) rfl ?_
  refine Seg.bipush (v := 114) at_267 (by decide) (pc' := 269) rfl ?_
  refine Seg.callS (y' := (⟨"com/example/kredential/kredential/ResourceToStringPinLaw", "at", "(Ljava/lang/String;IC)Z"⟩ : MethodName)) (wd G 273 rfl) (wd G 274 rfl) (wd G 3 rfl) (wd G 275 rfl) ⟨by decide, by decide⟩ (Pays.of_ct (W := 0) (ct_at G z [82, 101, 115, 111, 117, 114, 99, 101, 91, t1, 47, i1, i2, 44, 32, 111, 119, 110, 101, 114, 32, o1, 93] 5 (114 : Int32) h F hall (by decide : 5 < 23) rfl) all0 (wd G 275 rfl) (wd G 3 rfl) (by decide) (by decide) rfl rfl) (argsL := [(.ref z), (.int (5 : Int32)), (.int (114 : Int32))]) (rest := []) rfl (lenOf pd_28 rfl) rfl (Nat.le_of_eq rfl) rfl at_269 (pc' := 272) rfl (k' := 50) (n' := 6000) rfl rfl (by decide) (by decide) ?_
  intro v_25 h_28 sz_26 q_27
  obtain ⟨rfl, rfl⟩ := q_27
  refine Seg.ifN at_272 (by decide) (pc' := 275) rfl ?_
  refine Seg.aload at_275 rfl rfl (pc' := 277) rfl ?_
  refine Seg.bipush (v := 6) at_277 (by decide) (pc' := 279) rfl ?_
  refine Seg.bipush (v := 99) at_279 (by decide) (pc' := 281) rfl ?_
  refine Seg.callS (y' := (⟨"com/example/kredential/kredential/ResourceToStringPinLaw", "at", "(Ljava/lang/String;IC)Z"⟩ : MethodName)) (wd G 273 rfl) (wd G 274 rfl) (wd G 3 rfl) (wd G 275 rfl) ⟨by decide, by decide⟩ (Pays.of_ct (W := 0) (ct_at G z [82, 101, 115, 111, 117, 114, 99, 101, 91, t1, 47, i1, i2, 44, 32, 111, 119, 110, 101, 114, 32, o1, 93] 6 (99 : Int32) h F hall (by decide : 6 < 23) rfl) all0 (wd G 275 rfl) (wd G 3 rfl) (by decide) (by decide) rfl rfl) (argsL := [(.ref z), (.int (6 : Int32)), (.int (99 : Int32))]) (rest := []) rfl (lenOf pd_28 rfl) rfl (Nat.le_of_eq rfl) rfl at_281 (pc' := 284) rfl (k' := 50) (n' := 6000) rfl rfl (by decide) (by decide) ?_
  intro v_29 h_32 sz_30 q_31
  obtain ⟨rfl, rfl⟩ := q_31
  refine Seg.ifN at_284 (by decide) (pc' := 287) rfl ?_
  refine Seg.aload at_287 rfl rfl (pc' := 289) rfl ?_
  refine Seg.bipush (v := 7) at_289 (by decide) (pc' := 291) rfl ?_
  refine Seg.bipush (v := 101) at_291 (by decide) (pc' := 293) rfl ?_
  refine Seg.callS (y' := (⟨"com/example/kredential/kredential/ResourceToStringPinLaw", "at", "(Ljava/lang/String;IC)Z"⟩ : MethodName)) (wd G 273 rfl) (wd G 274 rfl) (wd G 3 rfl) (wd G 275 rfl) ⟨by decide, by decide⟩ (Pays.of_ct (W := 0) (ct_at G z [82, 101, 115, 111, 117, 114, 99, 101, 91, t1, 47, i1, i2, 44, 32, 111, 119, 110, 101, 114, 32, o1, 93] 7 (101 : Int32) h F hall (by decide : 7 < 23) rfl) all0 (wd G 275 rfl) (wd G 3 rfl) (by decide) (by decide) rfl rfl) (argsL := [(.ref z), (.int (7 : Int32)), (.int (101 : Int32))]) (rest := []) rfl (lenOf pd_28 rfl) rfl (Nat.le_of_eq rfl) rfl at_293 (pc' := 296) rfl (k' := 50) (n' := 6000) rfl rfl (by decide) (by decide) ?_
  intro v_33 h_36 sz_34 q_35
  obtain ⟨rfl, rfl⟩ := q_35
  refine Seg.ifN at_296 (by decide) (pc' := 299) rfl ?_
  refine Seg.aload at_299 rfl rfl (pc' := 301) rfl ?_
  refine Seg.bipush (v := 8) at_301 (by decide) (pc' := 303) rfl ?_
  refine Seg.bipush (v := 91) at_303 (by decide) (pc' := 305) rfl ?_
  refine Seg.callS (y' := (⟨"com/example/kredential/kredential/ResourceToStringPinLaw", "at", "(Ljava/lang/String;IC)Z"⟩ : MethodName)) (wd G 273 rfl) (wd G 274 rfl) (wd G 3 rfl) (wd G 275 rfl) ⟨by decide, by decide⟩ (Pays.of_ct (W := 0) (ct_at G z [82, 101, 115, 111, 117, 114, 99, 101, 91, t1, 47, i1, i2, 44, 32, 111, 119, 110, 101, 114, 32, o1, 93] 8 (91 : Int32) h F hall (by decide : 8 < 23) rfl) all0 (wd G 275 rfl) (wd G 3 rfl) (by decide) (by decide) rfl rfl) (argsL := [(.ref z), (.int (8 : Int32)), (.int (91 : Int32))]) (rest := []) rfl (lenOf pd_28 rfl) rfl (Nat.le_of_eq rfl) rfl at_305 (pc' := 308) rfl (k' := 50) (n' := 6000) rfl rfl (by decide) (by decide) ?_
  intro v_37 h_40 sz_38 q_39
  obtain ⟨rfl, rfl⟩ := q_39
  refine Seg.ifN at_308 (by decide) (pc' := 311) rfl ?_
  refine Seg.iconst (v := 1) at_311 (by decide) (pc' := 312) rfl ?_
  refine Seg.goto (pc' := 316) at_312 (by decide) (by decide) ?_
  refine Seg.istore (L' := #[.val (.int p1), .val (.int p2), .val (.int p3), .val (.int p4), .val (.int (1 : Int32)), .val (.int (2 : Int32)), .val (.int (1 : Int32)), .val (.int t1), .val (.int t2), .val (.int i1), .val (.int i2), .val (.int o1), .val (.int o2), .val (.ref s1), .val (.ref s2), .val (.ref s3), .val (.ref rx), .val (.ref z), .val (.int (1 : Int32)), .unset]) at_316 rfl (pc' := 318) rfl ?_
  refine Seg.bipush (v := 9) at_318 (by decide) (pc' := 320) rfl ?_
  refine Seg.istore (L' := #[.val (.int p1), .val (.int p2), .val (.int p3), .val (.int p4), .val (.int (1 : Int32)), .val (.int (2 : Int32)), .val (.int (1 : Int32)), .val (.int t1), .val (.int t2), .val (.int i1), .val (.int i2), .val (.int o1), .val (.int o2), .val (.ref s1), .val (.ref s2), .val (.ref s3), .val (.ref rx), .val (.ref z), .val (.int (1 : Int32)), .val (.int (9 : Int32))]) at_320 rfl (pc' := 322) rfl ?_
  refine Seg.iload at_322 rfl (pc' := 324) rfl ?_
  refine Seg.ifN at_324 (by decide) (pc' := 327) rfl ?_
  refine Seg.aload at_327 rfl rfl (pc' := 329) rfl ?_
  refine Seg.iload at_329 rfl (pc' := 331) rfl ?_
  refine Seg.iload at_331 rfl (pc' := 333) rfl ?_
  refine Seg.callS (y' := (⟨"com/example/kredential/kredential/ResourceToStringPinLaw", "at", "(Ljava/lang/String;IC)Z"⟩ : MethodName)) (wd G 273 rfl) (wd G 274 rfl) (wd G 3 rfl) (wd G 275 rfl) ⟨by decide, by decide⟩ (Pays.of_ct (W := 0) (ct_at G z [82, 101, 115, 111, 117, 114, 99, 101, 91, t1, 47, i1, i2, 44, 32, 111, 119, 110, 101, 114, 32, o1, 93] 9 t1 h F hall (by decide : 9 < 23) rfl) all0 (wd G 275 rfl) (wd G 3 rfl) (by decide) (by decide) rfl rfl) (argsL := [(.ref z), (.int (9 : Int32)), (.int t1)]) (rest := []) rfl (lenOf pd_28 rfl) rfl (Nat.le_of_eq rfl) rfl at_333 (pc' := 336) rfl (k' := 50) (n' := 6000) rfl rfl (by decide) (by decide) ?_
  intro v_41 h_44 sz_42 q_43
  obtain ⟨rfl, rfl⟩ := q_43
  refine Seg.ifN at_336 (by decide) (pc' := 339) rfl ?_
  refine Seg.iconst (v := 1) at_339 (by decide) (pc' := 340) rfl ?_
  refine Seg.goto (pc' := 344) at_340 (by decide) (by decide) ?_
  refine Seg.istore (L' := #[.val (.int p1), .val (.int p2), .val (.int p3), .val (.int p4), .val (.int (1 : Int32)), .val (.int (2 : Int32)), .val (.int (1 : Int32)), .val (.int t1), .val (.int t2), .val (.int i1), .val (.int i2), .val (.int o1), .val (.int o2), .val (.ref s1), .val (.ref s2), .val (.ref s3), .val (.ref rx), .val (.ref z), .val (.int (1 : Int32)), .val (.int (9 : Int32))]) at_344 rfl (pc' := 346) rfl ?_
  refine Seg.iload at_346 rfl (pc' := 348) rfl ?_
  refine Seg.iconst (v := 2) at_348 (by decide) (pc' := 349) rfl ?_
  refine Seg.icY (pc' := 378) at_349 (by decide) (by decide) (by decide) ?_
  refine Seg.iload at_378 rfl (pc' := 380) rfl ?_
  refine Seg.iload at_380 rfl (pc' := 382) rfl ?_
  refine Seg.iadd (v := (10 : Int32)) at_382 (by decide) (pc' := 383) rfl ?_
  refine Seg.istore (L' := #[.val (.int p1), .val (.int p2), .val (.int p3), .val (.int p4), .val (.int (1 : Int32)), .val (.int (2 : Int32)), .val (.int (1 : Int32)), .val (.int t1), .val (.int t2), .val (.int i1), .val (.int i2), .val (.int o1), .val (.int o2), .val (.ref s1), .val (.ref s2), .val (.ref s3), .val (.ref rx), .val (.ref z), .val (.int (1 : Int32)), .val (.int (10 : Int32))]) at_383 rfl (pc' := 385) rfl ?_
  refine Seg.iload at_385 rfl (pc' := 387) rfl ?_
  refine Seg.ifN at_387 (by decide) (pc' := 390) rfl ?_
  refine Seg.aload at_390 rfl rfl (pc' := 392) rfl ?_
  refine Seg.iload at_392 rfl (pc' := 394) rfl ?_
  refine Seg.bipush (v := 47) at_394 (by decide) (pc' := 396) rfl ?_
  refine Seg.callS (y' := (⟨"com/example/kredential/kredential/ResourceToStringPinLaw", "at", "(Ljava/lang/String;IC)Z"⟩ : MethodName)) (wd G 273 rfl) (wd G 274 rfl) (wd G 3 rfl) (wd G 275 rfl) ⟨by decide, by decide⟩ (Pays.of_ct (W := 0) (ct_at G z [82, 101, 115, 111, 117, 114, 99, 101, 91, t1, 47, i1, i2, 44, 32, 111, 119, 110, 101, 114, 32, o1, 93] 10 (47 : Int32) h F hall (by decide : 10 < 23) rfl) all0 (wd G 275 rfl) (wd G 3 rfl) (by decide) (by decide) rfl rfl) (argsL := [(.ref z), (.int (10 : Int32)), (.int (47 : Int32))]) (rest := []) rfl (lenOf pd_28 rfl) rfl (Nat.le_of_eq rfl) rfl at_396 (pc' := 399) rfl (k' := 50) (n' := 6000) rfl rfl (by decide) (by decide) ?_
  intro v_45 h_48 sz_46 q_47
  obtain ⟨rfl, rfl⟩ := q_47
  refine Seg.ifN at_399 (by decide) (pc' := 402) rfl ?_
  refine Seg.iconst (v := 1) at_402 (by decide) (pc' := 403) rfl ?_
  refine Seg.goto (pc' := 407) at_403 (by decide) (by decide) ?_
  refine Seg.istore (L' := #[.val (.int p1), .val (.int p2), .val (.int p3), .val (.int p4), .val (.int (1 : Int32)), .val (.int (2 : Int32)), .val (.int (1 : Int32)), .val (.int t1), .val (.int t2), .val (.int i1), .val (.int i2), .val (.int o1), .val (.int o2), .val (.ref s1), .val (.ref s2), .val (.ref s3), .val (.ref rx), .val (.ref z), .val (.int (1 : Int32)), .val (.int (10 : Int32))]) at_407 rfl (pc' := 409) rfl ?_
  refine Seg.iload at_409 rfl (pc' := 411) rfl ?_
  refine Seg.iconst (v := 1) at_411 (by decide) (pc' := 412) rfl ?_
  refine Seg.iadd (v := (11 : Int32)) at_412 (by decide) (pc' := 413) rfl ?_
  refine Seg.istore (L' := #[.val (.int p1), .val (.int p2), .val (.int p3), .val (.int p4), .val (.int (1 : Int32)), .val (.int (2 : Int32)), .val (.int (1 : Int32)), .val (.int t1), .val (.int t2), .val (.int i1), .val (.int i2), .val (.int o1), .val (.int o2), .val (.ref s1), .val (.ref s2), .val (.ref s3), .val (.ref rx), .val (.ref z), .val (.int (1 : Int32)), .val (.int (11 : Int32))]) at_413 rfl (pc' := 415) rfl ?_
  refine Seg.iload at_415 rfl (pc' := 417) rfl ?_
  refine Seg.ifN at_417 (by decide) (pc' := 420) rfl ?_
  refine Seg.aload at_420 rfl rfl (pc' := 422) rfl ?_
  refine Seg.iload at_422 rfl (pc' := 424) rfl ?_
  refine Seg.iload at_424 rfl (pc' := 426) rfl ?_
  refine Seg.callS (y' := (⟨"com/example/kredential/kredential/ResourceToStringPinLaw", "at", "(Ljava/lang/String;IC)Z"⟩ : MethodName)) (wd G 273 rfl) (wd G 274 rfl) (wd G 3 rfl) (wd G 275 rfl) ⟨by decide, by decide⟩ (Pays.of_ct (W := 0) (ct_at G z [82, 101, 115, 111, 117, 114, 99, 101, 91, t1, 47, i1, i2, 44, 32, 111, 119, 110, 101, 114, 32, o1, 93] 11 i1 h F hall (by decide : 11 < 23) rfl) all0 (wd G 275 rfl) (wd G 3 rfl) (by decide) (by decide) rfl rfl) (argsL := [(.ref z), (.int (11 : Int32)), (.int i1)]) (rest := []) rfl (lenOf pd_28 rfl) rfl (Nat.le_of_eq rfl) rfl at_426 (pc' := 429) rfl (k' := 50) (n' := 6000) rfl rfl (by decide) (by decide) ?_
  intro v_49 h_52 sz_50 q_51
  obtain ⟨rfl, rfl⟩ := q_51
  refine Seg.ifN at_429 (by decide) (pc' := 432) rfl ?_
  refine Seg.iconst (v := 1) at_432 (by decide) (pc' := 433) rfl ?_
  refine Seg.goto (pc' := 437) at_433 (by decide) (by decide) ?_
  refine Seg.istore (L' := #[.val (.int p1), .val (.int p2), .val (.int p3), .val (.int p4), .val (.int (1 : Int32)), .val (.int (2 : Int32)), .val (.int (1 : Int32)), .val (.int t1), .val (.int t2), .val (.int i1), .val (.int i2), .val (.int o1), .val (.int o2), .val (.ref s1), .val (.ref s2), .val (.ref s3), .val (.ref rx), .val (.ref z), .val (.int (1 : Int32)), .val (.int (11 : Int32))]) at_437 rfl (pc' := 439) rfl ?_
  refine Seg.iload at_439 rfl (pc' := 441) rfl ?_
  refine Seg.iconst (v := 2) at_441 (by decide) (pc' := 442) rfl ?_
  refine Seg.icN at_442 (by decide) (pc' := 445) rfl ?_
  refine Seg.iload at_445 rfl (pc' := 447) rfl ?_
  refine Seg.ifN at_447 (by decide) (pc' := 450) rfl ?_
  refine Seg.aload at_450 rfl rfl (pc' := 452) rfl ?_
  refine Seg.iload at_452 rfl (pc' := 454) rfl ?_
  refine Seg.iconst (v := 1) at_454 (by decide) (pc' := 455) rfl ?_
  refine Seg.iadd (v := (12 : Int32)) at_455 (by decide) (pc' := 456) rfl ?_
  refine Seg.iload at_456 rfl (pc' := 458) rfl ?_
  refine Seg.callS (y' := (⟨"com/example/kredential/kredential/ResourceToStringPinLaw", "at", "(Ljava/lang/String;IC)Z"⟩ : MethodName)) (wd G 273 rfl) (wd G 274 rfl) (wd G 3 rfl) (wd G 275 rfl) ⟨by decide, by decide⟩ (Pays.of_ct (W := 0) (ct_at G z [82, 101, 115, 111, 117, 114, 99, 101, 91, t1, 47, i1, i2, 44, 32, 111, 119, 110, 101, 114, 32, o1, 93] 12 i2 h F hall (by decide : 12 < 23) rfl) all0 (wd G 275 rfl) (wd G 3 rfl) (by decide) (by decide) rfl rfl) (argsL := [(.ref z), (.int (12 : Int32)), (.int i2)]) (rest := []) rfl (lenOf pd_28 rfl) rfl (Nat.le_of_eq rfl) rfl at_458 (pc' := 461) rfl (k' := 50) (n' := 6000) rfl rfl (by decide) (by decide) ?_
  intro v_53 h_56 sz_54 q_55
  obtain ⟨rfl, rfl⟩ := q_55
  refine Seg.ifN at_461 (by decide) (pc' := 464) rfl ?_
  refine Seg.iconst (v := 1) at_464 (by decide) (pc' := 465) rfl ?_
  refine Seg.goto (pc' := 469) at_465 (by decide) (by decide) ?_
  refine Seg.istore (L' := #[.val (.int p1), .val (.int p2), .val (.int p3), .val (.int p4), .val (.int (1 : Int32)), .val (.int (2 : Int32)), .val (.int (1 : Int32)), .val (.int t1), .val (.int t2), .val (.int i1), .val (.int i2), .val (.int o1), .val (.int o2), .val (.ref s1), .val (.ref s2), .val (.ref s3), .val (.ref rx), .val (.ref z), .val (.int (1 : Int32)), .val (.int (11 : Int32))]) at_469 rfl (pc' := 471) rfl ?_
  refine Seg.iload at_471 rfl (pc' := 473) rfl ?_
  refine Seg.iload at_473 rfl (pc' := 475) rfl ?_
  refine Seg.iadd (v := (13 : Int32)) at_475 (by decide) (pc' := 476) rfl ?_
  refine Seg.istore (L' := #[.val (.int p1), .val (.int p2), .val (.int p3), .val (.int p4), .val (.int (1 : Int32)), .val (.int (2 : Int32)), .val (.int (1 : Int32)), .val (.int t1), .val (.int t2), .val (.int i1), .val (.int i2), .val (.int o1), .val (.int o2), .val (.ref s1), .val (.ref s2), .val (.ref s3), .val (.ref rx), .val (.ref z), .val (.int (1 : Int32)), .val (.int (13 : Int32))]) at_476 rfl (pc' := 478) rfl ?_
  refine Seg.iload at_478 rfl (pc' := 480) rfl ?_
  refine Seg.ifN at_480 (by decide) (pc' := 483) rfl ?_
  refine Seg.aload at_483 rfl rfl (pc' := 485) rfl ?_
  refine Seg.iload at_485 rfl (pc' := 487) rfl ?_
  refine Seg.bipush (v := 44) at_487 (by decide) (pc' := 489) rfl ?_
  refine Seg.callS (y' := (⟨"com/example/kredential/kredential/ResourceToStringPinLaw", "at", "(Ljava/lang/String;IC)Z"⟩ : MethodName)) (wd G 273 rfl) (wd G 274 rfl) (wd G 3 rfl) (wd G 275 rfl) ⟨by decide, by decide⟩ (Pays.of_ct (W := 0) (ct_at G z [82, 101, 115, 111, 117, 114, 99, 101, 91, t1, 47, i1, i2, 44, 32, 111, 119, 110, 101, 114, 32, o1, 93] 13 (44 : Int32) h F hall (by decide : 13 < 23) rfl) all0 (wd G 275 rfl) (wd G 3 rfl) (by decide) (by decide) rfl rfl) (argsL := [(.ref z), (.int (13 : Int32)), (.int (44 : Int32))]) (rest := []) rfl (lenOf pd_28 rfl) rfl (Nat.le_of_eq rfl) rfl at_489 (pc' := 492) rfl (k' := 50) (n' := 6000) rfl rfl (by decide) (by decide) ?_
  intro v_57 h_60 sz_58 q_59
  obtain ⟨rfl, rfl⟩ := q_59
  refine Seg.ifN at_492 (by decide) (pc' := 495) rfl ?_
  refine Seg.aload at_495 rfl rfl (pc' := 497) rfl ?_
  refine Seg.iload at_497 rfl (pc' := 499) rfl ?_
  refine Seg.iconst (v := 1) at_499 (by decide) (pc' := 500) rfl ?_
  refine Seg.iadd (v := (14 : Int32)) at_500 (by decide) (pc' := 501) rfl ?_
  refine Seg.bipush (v := 32) at_501 (by decide) (pc' := 503) rfl ?_
  refine Seg.callS (y' := (⟨"com/example/kredential/kredential/ResourceToStringPinLaw", "at", "(Ljava/lang/String;IC)Z"⟩ : MethodName)) (wd G 273 rfl) (wd G 274 rfl) (wd G 3 rfl) (wd G 275 rfl) ⟨by decide, by decide⟩ (Pays.of_ct (W := 0) (ct_at G z [82, 101, 115, 111, 117, 114, 99, 101, 91, t1, 47, i1, i2, 44, 32, 111, 119, 110, 101, 114, 32, o1, 93] 14 (32 : Int32) h F hall (by decide : 14 < 23) rfl) all0 (wd G 275 rfl) (wd G 3 rfl) (by decide) (by decide) rfl rfl) (argsL := [(.ref z), (.int (14 : Int32)), (.int (32 : Int32))]) (rest := []) rfl (lenOf pd_28 rfl) rfl (Nat.le_of_eq rfl) rfl at_503 (pc' := 506) rfl (k' := 50) (n' := 6000) rfl rfl (by decide) (by decide) ?_
  intro v_61 h_64 sz_62 q_63
  obtain ⟨rfl, rfl⟩ := q_63
  refine Seg.ifN at_506 (by decide) (pc' := 509) rfl ?_
  refine Seg.aload at_509 rfl rfl (pc' := 511) rfl ?_
  refine Seg.iload at_511 rfl (pc' := 513) rfl ?_
  refine Seg.iconst (v := 2) at_513 (by decide) (pc' := 514) rfl ?_
  refine Seg.iadd (v := (15 : Int32)) at_514 (by decide) (pc' := 515) rfl ?_
  refine Seg.bipush (v := 111) at_515 (by decide) (pc' := 517) rfl ?_
  refine Seg.callS (y' := (⟨"com/example/kredential/kredential/ResourceToStringPinLaw", "at", "(Ljava/lang/String;IC)Z"⟩ : MethodName)) (wd G 273 rfl) (wd G 274 rfl) (wd G 3 rfl) (wd G 275 rfl) ⟨by decide, by decide⟩ (Pays.of_ct (W := 0) (ct_at G z [82, 101, 115, 111, 117, 114, 99, 101, 91, t1, 47, i1, i2, 44, 32, 111, 119, 110, 101, 114, 32, o1, 93] 15 (111 : Int32) h F hall (by decide : 15 < 23) rfl) all0 (wd G 275 rfl) (wd G 3 rfl) (by decide) (by decide) rfl rfl) (argsL := [(.ref z), (.int (15 : Int32)), (.int (111 : Int32))]) (rest := []) rfl (lenOf pd_28 rfl) rfl (Nat.le_of_eq rfl) rfl at_517 (pc' := 520) rfl (k' := 50) (n' := 6000) rfl rfl (by decide) (by decide) ?_
  intro v_65 h_68 sz_66 q_67
  obtain ⟨rfl, rfl⟩ := q_67
  refine Seg.ifN at_520 (by decide) (pc' := 523) rfl ?_
  refine Seg.aload at_523 rfl rfl (pc' := 525) rfl ?_
  refine Seg.iload at_525 rfl (pc' := 527) rfl ?_
  refine Seg.iconst (v := 3) at_527 (by decide) (pc' := 528) rfl ?_
  refine Seg.iadd (v := (16 : Int32)) at_528 (by decide) (pc' := 529) rfl ?_
  refine Seg.bipush (v := 119) at_529 (by decide) (pc' := 531) rfl ?_
  refine Seg.callS (y' := (⟨"com/example/kredential/kredential/ResourceToStringPinLaw", "at", "(Ljava/lang/String;IC)Z"⟩ : MethodName)) (wd G 273 rfl) (wd G 274 rfl) (wd G 3 rfl) (wd G 275 rfl) ⟨by decide, by decide⟩ (Pays.of_ct (W := 0) (ct_at G z [82, 101, 115, 111, 117, 114, 99, 101, 91, t1, 47, i1, i2, 44, 32, 111, 119, 110, 101, 114, 32, o1, 93] 16 (119 : Int32) h F hall (by decide : 16 < 23) rfl) all0 (wd G 275 rfl) (wd G 3 rfl) (by decide) (by decide) rfl rfl) (argsL := [(.ref z), (.int (16 : Int32)), (.int (119 : Int32))]) (rest := []) rfl (lenOf pd_28 rfl) rfl (Nat.le_of_eq rfl) rfl at_531 (pc' := 534) rfl (k' := 50) (n' := 6000) rfl rfl (by decide) (by decide) ?_
  intro v_69 h_72 sz_70 q_71
  obtain ⟨rfl, rfl⟩ := q_71
  refine Seg.ifN at_534 (by decide) (pc' := 537) rfl ?_
  refine Seg.aload at_537 rfl rfl (pc' := 539) rfl ?_
  refine Seg.iload at_539 rfl (pc' := 541) rfl ?_
  refine Seg.iconst (v := 4) at_541 (by decide) (pc' := 542) rfl ?_
  refine Seg.iadd (v := (17 : Int32)) at_542 (by decide) (pc' := 543) rfl ?_
  refine Seg.bipush (v := 110) at_543 (by decide) (pc' := 545) rfl ?_
  refine Seg.callS (y' := (⟨"com/example/kredential/kredential/ResourceToStringPinLaw", "at", "(Ljava/lang/String;IC)Z"⟩ : MethodName)) (wd G 273 rfl) (wd G 274 rfl) (wd G 3 rfl) (wd G 275 rfl) ⟨by decide, by decide⟩ (Pays.of_ct (W := 0) (ct_at G z [82, 101, 115, 111, 117, 114, 99, 101, 91, t1, 47, i1, i2, 44, 32, 111, 119, 110, 101, 114, 32, o1, 93] 17 (110 : Int32) h F hall (by decide : 17 < 23) rfl) all0 (wd G 275 rfl) (wd G 3 rfl) (by decide) (by decide) rfl rfl) (argsL := [(.ref z), (.int (17 : Int32)), (.int (110 : Int32))]) (rest := []) rfl (lenOf pd_28 rfl) rfl (Nat.le_of_eq rfl) rfl at_545 (pc' := 548) rfl (k' := 50) (n' := 6000) rfl rfl (by decide) (by decide) ?_
  intro v_73 h_76 sz_74 q_75
  obtain ⟨rfl, rfl⟩ := q_75
  refine Seg.ifN at_548 (by decide) (pc' := 551) rfl ?_
  refine Seg.aload at_551 rfl rfl (pc' := 553) rfl ?_
  refine Seg.iload at_553 rfl (pc' := 555) rfl ?_
  refine Seg.iconst (v := 5) at_555 (by decide) (pc' := 556) rfl ?_
  refine Seg.iadd (v := (18 : Int32)) at_556 (by decide) (pc' := 557) rfl ?_
  refine Seg.bipush (v := 101) at_557 (by decide) (pc' := 559) rfl ?_
  refine Seg.callS (y' := (⟨"com/example/kredential/kredential/ResourceToStringPinLaw", "at", "(Ljava/lang/String;IC)Z"⟩ : MethodName)) (wd G 273 rfl) (wd G 274 rfl) (wd G 3 rfl) (wd G 275 rfl) ⟨by decide, by decide⟩ (Pays.of_ct (W := 0) (ct_at G z [82, 101, 115, 111, 117, 114, 99, 101, 91, t1, 47, i1, i2, 44, 32, 111, 119, 110, 101, 114, 32, o1, 93] 18 (101 : Int32) h F hall (by decide : 18 < 23) rfl) all0 (wd G 275 rfl) (wd G 3 rfl) (by decide) (by decide) rfl rfl) (argsL := [(.ref z), (.int (18 : Int32)), (.int (101 : Int32))]) (rest := []) rfl (lenOf pd_28 rfl) rfl (Nat.le_of_eq rfl) rfl at_559 (pc' := 562) rfl (k' := 50) (n' := 6000) rfl rfl (by decide) (by decide) ?_
  intro v_77 h_80 sz_78 q_79
  obtain ⟨rfl, rfl⟩ := q_79
  refine Seg.ifN at_562 (by decide) (pc' := 565) rfl ?_
  refine Seg.aload at_565 rfl rfl (pc' := 567) rfl ?_
  refine Seg.iload at_567 rfl (pc' := 569) rfl ?_
  refine Seg.bipush (v := 6) at_569 (by decide) (pc' := 571) rfl ?_
  refine Seg.iadd (v := (19 : Int32)) at_571 (by decide) (pc' := 572) rfl ?_
  refine Seg.bipush (v := 114) at_572 (by decide) (pc' := 574) rfl ?_
  refine Seg.callS (y' := (⟨"com/example/kredential/kredential/ResourceToStringPinLaw", "at", "(Ljava/lang/String;IC)Z"⟩ : MethodName)) (wd G 273 rfl) (wd G 274 rfl) (wd G 3 rfl) (wd G 275 rfl) ⟨by decide, by decide⟩ (Pays.of_ct (W := 0) (ct_at G z [82, 101, 115, 111, 117, 114, 99, 101, 91, t1, 47, i1, i2, 44, 32, 111, 119, 110, 101, 114, 32, o1, 93] 19 (114 : Int32) h F hall (by decide : 19 < 23) rfl) all0 (wd G 275 rfl) (wd G 3 rfl) (by decide) (by decide) rfl rfl) (argsL := [(.ref z), (.int (19 : Int32)), (.int (114 : Int32))]) (rest := []) rfl (lenOf pd_28 rfl) rfl (Nat.le_of_eq rfl) rfl at_574 (pc' := 577) rfl (k' := 50) (n' := 6000) rfl rfl (by decide) (by decide) ?_
  intro v_81 h_84 sz_82 q_83
  obtain ⟨rfl, rfl⟩ := q_83
  refine Seg.ifN at_577 (by decide) (pc' := 580) rfl ?_
  refine Seg.aload at_580 rfl rfl (pc' := 582) rfl ?_
  refine Seg.iload at_582 rfl (pc' := 584) rfl ?_
  refine Seg.bipush (v := 7) at_584 (by decide) (pc' := 586) rfl ?_
  refine Seg.iadd (v := (20 : Int32)) at_586 (by decide) (pc' := 587) rfl ?_
  refine Seg.bipush (v := 32) at_587 (by decide) (pc' := 589) rfl ?_
  refine Seg.callS (y' := (⟨"com/example/kredential/kredential/ResourceToStringPinLaw", "at", "(Ljava/lang/String;IC)Z"⟩ : MethodName)) (wd G 273 rfl) (wd G 274 rfl) (wd G 3 rfl) (wd G 275 rfl) ⟨by decide, by decide⟩ (Pays.of_ct (W := 0) (ct_at G z [82, 101, 115, 111, 117, 114, 99, 101, 91, t1, 47, i1, i2, 44, 32, 111, 119, 110, 101, 114, 32, o1, 93] 20 (32 : Int32) h F hall (by decide : 20 < 23) rfl) all0 (wd G 275 rfl) (wd G 3 rfl) (by decide) (by decide) rfl rfl) (argsL := [(.ref z), (.int (20 : Int32)), (.int (32 : Int32))]) (rest := []) rfl (lenOf pd_28 rfl) rfl (Nat.le_of_eq rfl) rfl at_589 (pc' := 592) rfl (k' := 50) (n' := 6000) rfl rfl (by decide) (by decide) ?_
  intro v_85 h_88 sz_86 q_87
  obtain ⟨rfl, rfl⟩ := q_87
  refine Seg.ifN at_592 (by decide) (pc' := 595) rfl ?_
  refine Seg.iconst (v := 1) at_595 (by decide) (pc' := 596) rfl ?_
  refine Seg.goto (pc' := 600) at_596 (by decide) (by decide) ?_
  refine Seg.istore (L' := #[.val (.int p1), .val (.int p2), .val (.int p3), .val (.int p4), .val (.int (1 : Int32)), .val (.int (2 : Int32)), .val (.int (1 : Int32)), .val (.int t1), .val (.int t2), .val (.int i1), .val (.int i2), .val (.int o1), .val (.int o2), .val (.ref s1), .val (.ref s2), .val (.ref s3), .val (.ref rx), .val (.ref z), .val (.int (1 : Int32)), .val (.int (13 : Int32))]) at_600 rfl (pc' := 602) rfl ?_
  refine Seg.iload at_602 rfl (pc' := 604) rfl ?_
  refine Seg.bipush (v := 8) at_604 (by decide) (pc' := 606) rfl ?_
  refine Seg.iadd (v := (21 : Int32)) at_606 (by decide) (pc' := 607) rfl ?_
  refine Seg.istore (L' := #[.val (.int p1), .val (.int p2), .val (.int p3), .val (.int p4), .val (.int (1 : Int32)), .val (.int (2 : Int32)), .val (.int (1 : Int32)), .val (.int t1), .val (.int t2), .val (.int i1), .val (.int i2), .val (.int o1), .val (.int o2), .val (.ref s1), .val (.ref s2), .val (.ref s3), .val (.ref rx), .val (.ref z), .val (.int (1 : Int32)), .val (.int (21 : Int32))]) at_607 rfl (pc' := 609) rfl ?_
  refine Seg.iload at_609 rfl (pc' := 611) rfl ?_
  refine Seg.ifN at_611 (by decide) (pc' := 614) rfl ?_
  refine Seg.aload at_614 rfl rfl (pc' := 616) rfl ?_
  refine Seg.iload at_616 rfl (pc' := 618) rfl ?_
  refine Seg.iload at_618 rfl (pc' := 620) rfl ?_
  refine Seg.callS (y' := (⟨"com/example/kredential/kredential/ResourceToStringPinLaw", "at", "(Ljava/lang/String;IC)Z"⟩ : MethodName)) (wd G 273 rfl) (wd G 274 rfl) (wd G 3 rfl) (wd G 275 rfl) ⟨by decide, by decide⟩ (Pays.of_ct (W := 0) (ct_at G z [82, 101, 115, 111, 117, 114, 99, 101, 91, t1, 47, i1, i2, 44, 32, 111, 119, 110, 101, 114, 32, o1, 93] 21 o1 h F hall (by decide : 21 < 23) rfl) all0 (wd G 275 rfl) (wd G 3 rfl) (by decide) (by decide) rfl rfl) (argsL := [(.ref z), (.int (21 : Int32)), (.int o1)]) (rest := []) rfl (lenOf pd_28 rfl) rfl (Nat.le_of_eq rfl) rfl at_620 (pc' := 623) rfl (k' := 50) (n' := 6000) rfl rfl (by decide) (by decide) ?_
  intro v_89 h_92 sz_90 q_91
  obtain ⟨rfl, rfl⟩ := q_91
  refine Seg.ifN at_623 (by decide) (pc' := 626) rfl ?_
  refine Seg.iconst (v := 1) at_626 (by decide) (pc' := 627) rfl ?_
  refine Seg.goto (pc' := 631) at_627 (by decide) (by decide) ?_
  refine Seg.istore (L' := #[.val (.int p1), .val (.int p2), .val (.int p3), .val (.int p4), .val (.int (1 : Int32)), .val (.int (2 : Int32)), .val (.int (1 : Int32)), .val (.int t1), .val (.int t2), .val (.int i1), .val (.int i2), .val (.int o1), .val (.int o2), .val (.ref s1), .val (.ref s2), .val (.ref s3), .val (.ref rx), .val (.ref z), .val (.int (1 : Int32)), .val (.int (21 : Int32))]) at_631 rfl (pc' := 633) rfl ?_
  refine Seg.iload at_633 rfl (pc' := 635) rfl ?_
  refine Seg.iconst (v := 2) at_635 (by decide) (pc' := 636) rfl ?_
  refine Seg.icY (pc' := 665) at_636 (by decide) (by decide) (by decide) ?_
  refine Seg.iload at_665 rfl (pc' := 667) rfl ?_
  refine Seg.iload at_667 rfl (pc' := 669) rfl ?_
  refine Seg.iadd (v := (22 : Int32)) at_669 (by decide) (pc' := 670) rfl ?_
  refine Seg.istore (L' := #[.val (.int p1), .val (.int p2), .val (.int p3), .val (.int p4), .val (.int (1 : Int32)), .val (.int (2 : Int32)), .val (.int (1 : Int32)), .val (.int t1), .val (.int t2), .val (.int i1), .val (.int i2), .val (.int o1), .val (.int o2), .val (.ref s1), .val (.ref s2), .val (.ref s3), .val (.ref rx), .val (.ref z), .val (.int (1 : Int32)), .val (.int (22 : Int32))]) at_670 rfl (pc' := 672) rfl ?_
  refine Seg.iload at_672 rfl (pc' := 674) rfl ?_
  refine Seg.ifN at_674 (by decide) (pc' := 677) rfl ?_
  refine Seg.aload at_677 rfl rfl (pc' := 679) rfl ?_
  refine Seg.iload at_679 rfl (pc' := 681) rfl ?_
  refine Seg.bipush (v := 93) at_681 (by decide) (pc' := 683) rfl ?_
  refine Seg.callS (y' := (⟨"com/example/kredential/kredential/ResourceToStringPinLaw", "at", "(Ljava/lang/String;IC)Z"⟩ : MethodName)) (wd G 273 rfl) (wd G 274 rfl) (wd G 3 rfl) (wd G 275 rfl) ⟨by decide, by decide⟩ (Pays.of_ct (W := 0) (ct_at G z [82, 101, 115, 111, 117, 114, 99, 101, 91, t1, 47, i1, i2, 44, 32, 111, 119, 110, 101, 114, 32, o1, 93] 22 (93 : Int32) h F hall (by decide : 22 < 23) rfl) all0 (wd G 275 rfl) (wd G 3 rfl) (by decide) (by decide) rfl rfl) (argsL := [(.ref z), (.int (22 : Int32)), (.int (93 : Int32))]) (rest := []) rfl (lenOf pd_28 rfl) rfl (Nat.le_of_eq rfl) rfl at_683 (pc' := 686) rfl (k' := 50) (n' := 6000) rfl rfl (by decide) (by decide) ?_
  intro v_93 h_96 sz_94 q_95
  obtain ⟨rfl, rfl⟩ := q_95
  refine Seg.ifN at_686 (by decide) (pc' := 689) rfl ?_
  refine Seg.iconst (v := 1) at_689 (by decide) (pc' := 690) rfl ?_
  refine Seg.goto (pc' := 694) at_690 (by decide) (by decide) ?_
  refine Seg.istore (L' := #[.val (.int p1), .val (.int p2), .val (.int p3), .val (.int p4), .val (.int (1 : Int32)), .val (.int (2 : Int32)), .val (.int (1 : Int32)), .val (.int t1), .val (.int t2), .val (.int i1), .val (.int i2), .val (.int o1), .val (.int o2), .val (.ref s1), .val (.ref s2), .val (.ref s3), .val (.ref rx), .val (.ref z), .val (.int (1 : Int32)), .val (.int (22 : Int32))]) at_694 rfl (pc' := 696) rfl ?_
  refine Seg.iload at_696 rfl (pc' := 698) rfl ?_
  exact Seg.retN (t := .boolean) (w := (1 : Int32)) rfl (by decide) (by decide) at_698 (by decide) (by decide) rfl
set_option maxRecDepth 65536 in
set_option maxHeartbeats 4000000 in
theorem sgm121 {l : Launch} {Z : State} {a0 : Array Value} (G : Env1 Z a0) (p1 : Int32) (p2 : Int32) (p3 : Int32) (p4 : Int32) (t1 : Int32) (t2 : Int32) (i1 : Int32) (i2 : Int32) (o1 : Int32) (o2 : Int32) (h : Heap) (kt1 : okT t1) (kt2 : okT t2) (ki1 : okI i1) (ki2 : okI i2) (ko1 : okI o1) (ko2 : okI o2) (hI : ¬ (i1 = 46 ∧ ((2 : Int32) = 1 ∨ i2 = 46))) (hO : ¬ (o1 = 46 ∧ ((1 : Int32) = 1 ∨ o2 = 46))) :
    Seg l Z a0 EL1 x code maxLocals ret room_1 (fun v h => v = some (.int 1)) h 0 0 [] 123 #[.val (.int p1), .val (.int p2), .val (.int p3), .val (.int p4), .val (.int (1 : Int32)), .val (.int (2 : Int32)), .val (.int (1 : Int32)), .val (.int t1), .val (.int t2), .val (.int i1), .val (.int i2), .val (.int o1), .val (.int o2), .unset, .unset, .unset, .unset, .unset, .unset, .unset] [] := by
  have rt1 := (okI_r (okT_I kt1)).1
  have rt2 := (okI_r (okT_I kt2)).1
  have ri1 := (okI_r ki1).1
  have ri2 := (okI_r ki2).1
  have ro1 := (okI_r ko1).1
  have ro2 := (okI_r ko2).1
  refine Seg.iload at_123 rfl (pc' := 125) rfl ?_
  refine Seg.iload at_125 rfl (pc' := 127) rfl ?_
  refine Seg.iload at_127 rfl (pc' := 129) rfl ?_
  refine Seg.callS (y' := (⟨"com/example/kredential/kredential/ResourceToStringPinLaw", "make", "(ICC)Ljava/lang/String;"⟩ : MethodName)) (wd G 8 rfl) (wd G 9 rfl) (wd G 3 rfl) (wd G 10 rfl) ⟨by decide, by decide⟩ (Pays.of_ct (W := 0) (ct_mk1 G t1 t2 h rt1 rt2) all0 (wd G 10 rfl) (wd G 3 rfl) (by decide) (by decide) rfl rfl) (argsL := [(.int (1 : Int32)), (.int t1), (.int t2)]) (rest := []) rfl (lenOf pd_29 rfl) rfl (Nat.le_of_eq rfl) rfl at_129 (pc' := 132) rfl (k' := 2) (n' := 5) rfl rfl (by decide) (by decide) ?_
  intro v_1 h_4 sz_2 q_3
  obtain ⟨s1, rfl, E1, T1⟩ := q_3
  refine Seg.astore (L' := #[.val (.int p1), .val (.int p2), .val (.int p3), .val (.int p4), .val (.int (1 : Int32)), .val (.int (2 : Int32)), .val (.int (1 : Int32)), .val (.int t1), .val (.int t2), .val (.int i1), .val (.int i2), .val (.int o1), .val (.int o2), .val (.ref s1), .unset, .unset, .unset, .unset, .unset, .unset]) at_132 rfl rfl (pc' := 134) rfl ?_
  refine Seg.iload at_134 rfl (pc' := 136) rfl ?_
  refine Seg.iload at_136 rfl (pc' := 138) rfl ?_
  refine Seg.iload at_138 rfl (pc' := 140) rfl ?_
  refine Seg.callS (y' := (⟨"com/example/kredential/kredential/ResourceToStringPinLaw", "make", "(ICC)Ljava/lang/String;"⟩ : MethodName)) (wd G 8 rfl) (wd G 9 rfl) (wd G 3 rfl) (wd G 10 rfl) ⟨by decide, by decide⟩ (Pays.of_ct (W := 0) (ct_mk2 G i1 i2 h_4 ri1 ri2) all0 (wd G 10 rfl) (wd G 3 rfl) (by decide) (by decide) rfl rfl) (argsL := [(.int (2 : Int32)), (.int i1), (.int i2)]) (rest := []) rfl (lenOf pd_29 rfl) rfl (Nat.le_of_eq rfl) rfl at_140 (pc' := 143) rfl (k' := 5) (n' := 13) rfl rfl (by decide) (by decide) ?_
  intro v_5 h_8 sz_6 q_7
  obtain ⟨s2, rfl, E2, T2⟩ := q_7
  refine Seg.astore (L' := #[.val (.int p1), .val (.int p2), .val (.int p3), .val (.int p4), .val (.int (1 : Int32)), .val (.int (2 : Int32)), .val (.int (1 : Int32)), .val (.int t1), .val (.int t2), .val (.int i1), .val (.int i2), .val (.int o1), .val (.int o2), .val (.ref s1), .val (.ref s2), .unset, .unset, .unset, .unset, .unset]) at_143 rfl rfl (pc' := 145) rfl ?_
  refine Seg.iload at_145 rfl (pc' := 147) rfl ?_
  refine Seg.iload at_147 rfl (pc' := 149) rfl ?_
  refine Seg.iload at_149 rfl (pc' := 151) rfl ?_
  refine Seg.callS (y' := (⟨"com/example/kredential/kredential/ResourceToStringPinLaw", "make", "(ICC)Ljava/lang/String;"⟩ : MethodName)) (wd G 8 rfl) (wd G 9 rfl) (wd G 3 rfl) (wd G 10 rfl) ⟨by decide, by decide⟩ (Pays.of_ct (W := 0) (ct_mk1 G o1 o2 h_8 ro1 ro2) all0 (wd G 10 rfl) (wd G 3 rfl) (by decide) (by decide) rfl rfl) (argsL := [(.int (1 : Int32)), (.int o1), (.int o2)]) (rest := []) rfl (lenOf pd_29 rfl) rfl (Nat.le_of_eq rfl) rfl at_151 (pc' := 154) rfl (k' := 7) (n' := 18) rfl rfl (by decide) (by decide) ?_
  intro v_9 h_12 sz_10 q_11
  obtain ⟨s3, rfl, E3, T3⟩ := q_11
  refine Seg.astore (L' := #[.val (.int p1), .val (.int p2), .val (.int p3), .val (.int p4), .val (.int (1 : Int32)), .val (.int (2 : Int32)), .val (.int (1 : Int32)), .val (.int t1), .val (.int t2), .val (.int i1), .val (.int i2), .val (.int o1), .val (.int o2), .val (.ref s1), .val (.ref s2), .val (.ref s3), .unset, .unset, .unset, .unset]) at_154 rfl rfl (pc' := 156) rfl ?_
  refine Seg.newO (wd G 55 rfl) (wd G 56 rfl) (wd G 57 rfl) at_156 (pc' := 159) rfl (k' := 8) (n' := 21) rfl rfl (by decide) (by decide) ?_
  intro b_13 h_15 E_14 e_b_13 l_b_13 A_b_13 D_b_13
  have F_type_b_13 : Fld Z h_15 b_13 "com/example/kredential/kredential/Resource" "type" "Ljava/lang/String;" Value.null := D_b_13 (Or.inr (wd G 140 rfl)) (ty := (.object "java/lang/String")) (by decide)
  have F_id_b_13 : Fld Z h_15 b_13 "com/example/kredential/kredential/Resource" "id" "Ljava/lang/String;" Value.null := D_b_13 (Or.inr (wd G 142 rfl)) (ty := (.object "java/lang/String")) (by decide)
  have F_owner_b_13 : Fld Z h_15 b_13 "com/example/kredential/kredential/Resource" "owner" "Ljava/lang/String;" Value.null := D_b_13 (Or.inr (wd G 144 rfl)) (ty := (.object "java/lang/String")) (by decide)
  refine Seg.dup at_159 rfl (pc' := 160) rfl ?_
  refine Seg.aload at_160 rfl rfl (pc' := 162) rfl ?_
  refine Seg.aload at_162 rfl rfl (pc' := 164) rfl ?_
  refine Seg.aload at_164 rfl rfl (pc' := 166) rfl ?_
  have E_16 : Ext h_4 h_12 := ext_tr E2 E3
  have E_17 : Ext h_4 h_15 := ext_tr E_16 E_14
  have F_18 := T1.ext E_17
  have E_19 : Ext h_8 h_15 := ext_tr E3 E_14
  have F_20 := T2.ext E_19
  have F_21 := T3.ext E_14
  refine Seg.callN (y' := (⟨"com/example/kredential/kredential/Resource", "<init>", "(Ljava/lang/String;Ljava/lang/String;Ljava/lang/String;)V"⟩ : MethodName)) (a := b_13) rfl (wd G 58 rfl) (wd G 59 rfl) (wd G 60 rfl) ⟨by decide, by decide⟩ (Pays.of_ct (W := 1) (ct_rinit G b_13 s1 s2 s3 [t1] [i1, i2] [o1] .null .null .null h_15 A_b_13 F_type_b_13 F_id_b_13 F_owner_b_13 F_18 F_20 F_21 ⟨(fun c hc => by simp only [List.mem_cons, List.not_mem_nil, or_false] at hc; rcases hc with rfl <;> assumption), (by decide : 0 < 1), (by decide : 1 ≤ 2)⟩ ⟨⟨(fun c hc => by simp only [List.mem_cons, List.not_mem_nil, or_false] at hc; rcases hc with rfl | rfl <;> assumption), (by decide : 0 < 2), (by decide : 2 ≤ 2)⟩, (fun q => nomatch (List.cons.inj q).2), (fun q => hI ⟨(List.cons.inj q).1, Or.inr (List.cons.inj (List.cons.inj q).2).1⟩)⟩ ⟨⟨(fun c hc => by simp only [List.mem_cons, List.not_mem_nil, or_false] at hc; rcases hc with rfl <;> assumption), (by decide : 0 < 1), (by decide : 1 ≤ 2)⟩, (fun q => hO ⟨(List.cons.inj q).1, Or.inl rfl⟩), (fun q => nomatch (List.cons.inj q).2)⟩) (allS (List.mem_of_getElem? (i := 0) rfl) all0) (wd G 60 rfl) (wd G 57 rfl) (by decide) (by decide) rfl rfl) (argsL := [(.ref s1), (.ref s2), (.ref s3)]) (rest := [(.ref b_13)]) rfl (lenOf pd_30 rfl) rfl (Nat.le_of_eq rfl) rfl at_166 (pc' := 169) rfl (k' := 20) (n' := 81) rfl rfl (by decide) (by decide) ?_
  intro v_22 h_25 sz_23 q_24
  obtain ⟨rfl, K1, G0, G1, G2⟩ := q_24
  refine Seg.astore (L' := #[.val (.int p1), .val (.int p2), .val (.int p3), .val (.int p4), .val (.int (1 : Int32)), .val (.int (2 : Int32)), .val (.int (1 : Int32)), .val (.int t1), .val (.int t2), .val (.int i1), .val (.int i2), .val (.int o1), .val (.int o2), .val (.ref s1), .val (.ref s2), .val (.ref s3), .val (.ref b_13), .unset, .unset, .unset]) at_169 rfl rfl (pc' := 171) rfl ?_
  refine Seg.aload at_171 rfl rfl (pc' := 173) rfl ?_
  have F_26 := (A_b_13.keep K1)
  have E_27 : Ext h_4 h_25 := ext_kp E_17 K1 (allS (Nat.le_trans E_16.1 (Nat.le_of_eq e_b_13)) all0)
  have F_28 := T1.ext E_27
  have E_29 : Ext h_8 h_25 := ext_kp E_19 K1 (allS (Nat.le_trans E3.1 (Nat.le_of_eq e_b_13)) all0)
  have F_30 := T2.ext E_29
  have E_31 : Ext h_12 h_25 := ext_kp E_14 K1 (allS (Nat.le_trans (ext_rfl _).1 (Nat.le_of_eq e_b_13)) all0)
  have F_32 := T3.ext E_31
  refine Seg.callV (y' := (⟨"com/example/kredential/kredential/Resource", "toString", "()Ljava/lang/String;"⟩ : MethodName)) (z := (⟨"com/example/kredential/kredential/Resource", "toString", "()Ljava/lang/String;"⟩ : MethodName)) (a := b_13) (wd G 145 rfl) (wd G 146 rfl) (nf_sel (wd G 148 rfl)) (wd G 148 rfl) (wd G 147 rfl) ⟨by decide, by decide⟩ F_26 (Pays.of_ct (W := 0) (ct_rts G b_13 s1 s2 s3 [t1] [i1, i2] [o1] h_25 F_26 G0 G1 G2 F_28 F_30 F_32 (fun c hc => by simp only [List.mem_cons, List.not_mem_nil, or_false] at hc; rcases hc with rfl <;> assumption) (fun c hc => by simp only [List.mem_cons, List.not_mem_nil, or_false] at hc; rcases hc with rfl | rfl <;> assumption) (fun c hc => by simp only [List.mem_cons, List.not_mem_nil, or_false] at hc; rcases hc with rfl <;> assumption) (by decide : 1 ≤ 2) (by decide : 2 ≤ 2) (by decide : 1 ≤ 2)) all0 (wd G 149 rfl) (wd G 57 rfl) (by decide) (by decide) rfl rfl) (argsL := []) (rest := []) rfl (lenOf pd_22 rfl) rfl (Nat.le_of_eq rfl) rfl at_173 (pc' := 176) rfl (k' := 33) (n' := 331) rfl rfl (by decide) (by decide) ?_
  intro v_33 h_36 sz_34 q_35
  obtain ⟨z, rfl, E9, F9⟩ := q_35
  exact (sgt121 G p1 p2 p3 p4 t1 t2 i1 i2 o1 o2 s1 s2 s3 b_13 z h_36 F9 rt1 rt2 ri1 ri2 ro1 ro2).mono (by decide) (by decide) all0
set_option maxRecDepth 65536 in
set_option maxHeartbeats 4000000 in
theorem sgt122 {l : Launch} {Z : State} {a0 : Array Value} (G : Env1 Z a0) (p1 : Int32) (p2 : Int32) (p3 : Int32) (p4 : Int32) (t1 : Int32) (t2 : Int32) (i1 : Int32) (i2 : Int32) (o1 : Int32) (o2 : Int32) (s1 : Addr) (s2 : Addr) (s3 : Addr) (rx : Addr) (z : Addr) (h : Heap) (F : Str Z h z [82, 101, 115, 111, 117, 114, 99, 101, 91, t1, 47, i1, i2, 44, 32, 111, 119, 110, 101, 114, 32, o1, o2, 93]) (rt1 : ¬ t1 < 0 ∧ ¬ (255 : Int32) < t1) (rt2 : ¬ t2 < 0 ∧ ¬ (255 : Int32) < t2) (ri1 : ¬ i1 < 0 ∧ ¬ (255 : Int32) < i1) (ri2 : ¬ i2 < 0 ∧ ¬ (255 : Int32) < i2) (ro1 : ¬ o1 < 0 ∧ ¬ (255 : Int32) < o1) (ro2 : ¬ o2 < 0 ∧ ¬ (255 : Int32) < o2) :
    Seg l Z a0 EL1 x code maxLocals ret room_1 (fun v h => v = some (.int 1)) h 50 6000 [] 176 #[.val (.int p1), .val (.int p2), .val (.int p3), .val (.int p4), .val (.int (1 : Int32)), .val (.int (2 : Int32)), .val (.int (2 : Int32)), .val (.int t1), .val (.int t2), .val (.int i1), .val (.int i2), .val (.int o1), .val (.int o2), .val (.ref s1), .val (.ref s2), .val (.ref s3), .val (.ref rx), .unset, .unset, .unset] [(.ref z)] := by
  have f1 := F.exa
  have hall : ∀ c ∈ [82, 101, 115, 111, 117, 114, 99, 101, 91, t1, 47, i1, i2, 44, 32, 111, 119, 110, 101, 114, 32, o1, o2, 93], ¬ c < 0 ∧ ¬ (255 : Int32) < c := by
    intro c hc
    simp only [List.mem_cons, List.not_mem_nil, or_false] at hc
    rcases hc with rfl | rfl | rfl | rfl | rfl | rfl | rfl | rfl | rfl | rfl | rfl | rfl | rfl | rfl | rfl | rfl | rfl | rfl | rfl | rfl | rfl | rfl | rfl | rfl <;> first | assumption | decide
  refine Seg.astore (L' := #[.val (.int p1), .val (.int p2), .val (.int p3), .val (.int p4), .val (.int (1 : Int32)), .val (.int (2 : Int32)), .val (.int (2 : Int32)), .val (.int t1), .val (.int t2), .val (.int i1), .val (.int i2), .val (.int o1), .val (.int o2), .val (.ref s1), .val (.ref s2), .val (.ref s3), .val (.ref rx), .val (.ref z), .unset, .unset]) at_176 rfl rfl (pc' := 178) rfl ?_
  refine Seg.aload at_178 rfl rfl (pc' := 180) rfl ?_
  refine Seg.callV (y' := (⟨"java/lang/String", "length", "()I"⟩ : MethodName)) (z := (⟨"java/lang/String", "length", "()I"⟩ : MethodName)) (a := z) (wd G 272 rfl) (wd G 79 rfl) (nf_sel (wd G 81 rfl)) (wd G 81 rfl) (wd G 80 rfl) ⟨by decide, by decide⟩ f1 ((pays_len (W := 0) G h F (by decide) (by decide)).post (Q' := fun v h' => v = some (.int 24) ∧ h = h') fun v h' q => ⟨q.1, q.2⟩) (argsL := []) (rest := []) rfl (lenOf pd_0 rfl) rfl (Nat.le_of_eq rfl) rfl at_180 (pc' := 183) rfl (k' := 50) (n' := 6000) rfl rfl (by decide) (by decide) ?_
  intro v_1 h_4 sz_2 q_3
  obtain ⟨rfl, rfl⟩ := q_3
  refine Seg.bipush (v := 19) at_183 (by decide) (pc' := 185) rfl ?_
  refine Seg.iload at_185 rfl (pc' := 187) rfl ?_
  refine Seg.iadd (v := (20 : Int32)) at_187 (by decide) (pc' := 188) rfl ?_
  refine Seg.iload at_188 rfl (pc' := 190) rfl ?_
  refine Seg.iadd (v := (22 : Int32)) at_190 (by decide) (pc' := 191) rfl ?_
  refine Seg.iload at_191 rfl (pc' := 193) rfl ?_
  refine Seg.iadd (v := (24 : Int32)) at_193 (by decide) (pc' := 194) rfl ?_
  refine Seg.icN at_194 (by decide) (pc' := 197) rfl ?_
  refine Seg.iconst (v := 1) at_197 (by decide) (pc' := 198) rfl ?_
  refine Seg.goto (pc' := 202) at_198 (by decide) (by decide) ?_
  refine Seg.istore (L' := #[.val (.int p1), .val (.int p2), .val (.int p3), .val (.int p4), .val (.int (1 : Int32)), .val (.int (2 : Int32)), .val (.int (2 : Int32)), .val (.int t1), .val (.int t2), .val (.int i1), .val (.int i2), .val (.int o1), .val (.int o2), .val (.ref s1), .val (.ref s2), .val (.ref s3), .val (.ref rx), .val (.ref z), .val (.int (1 : Int32)), .unset]) at_202 rfl (pc' := 204) rfl ?_
  refine Seg.iload at_204 rfl (pc' := 206) rfl ?_
  refine Seg.ifN at_206 (by decide) (pc' := 209) rfl ?_
  refine Seg.aload at_209 rfl rfl (pc' := 211) rfl ?_
  refine Seg.iconst (v := 0) at_211 (by decide) (pc' := 212) rfl ?_
  refine Seg.bipush (v := 82) at_212 (by decide) (pc' := 214) rfl ?_
  refine Seg.callS (y' := (⟨"com/example/kredential/kredential/ResourceToStringPinLaw", "at", "(Ljava/lang/String;IC)Z"⟩ : MethodName)) (wd G 273 rfl) (wd G 274 rfl) (wd G 3 rfl) (wd G 275 rfl) ⟨by decide, by decide⟩ (Pays.of_ct (W := 0) (ct_at G z [82, 101, 115, 111, 117, 114, 99, 101, 91, t1, 47, i1, i2, 44, 32, 111, 119, 110, 101, 114, 32, o1, o2, 93] 0 (82 : Int32) h F hall (by decide : 0 < 24) rfl) all0 (wd G 275 rfl) (wd G 3 rfl) (by decide) (by decide) rfl rfl) (argsL := [(.ref z), (.int (0 : Int32)), (.int (82 : Int32))]) (rest := []) rfl (lenOf pd_28 rfl) rfl (Nat.le_of_eq rfl) rfl at_214 (pc' := 217) rfl (k' := 50) (n' := 6000) rfl rfl (by decide) (by decide) ?_
  intro v_5 h_8 sz_6 q_7
  obtain ⟨rfl, rfl⟩ := q_7
  refine Seg.ifN at_217 (by decide) (pc' := 220) rfl ?_
  refine Seg.aload at_220 rfl rfl (pc' := 222) rfl ?_
  refine Seg.iconst (v := 1) at_222 (by decide) (pc' := 223) rfl ?_
  refine Seg.bipush (v := 101) at_223 (by decide) (pc' := 225) rfl ?_
  refine Seg.callS (y' := (⟨"com/example/kredential/kredential/ResourceToStringPinLaw", "at", "(Ljava/lang/String;IC)Z"⟩ : MethodName)) (wd G 273 rfl) (wd G 274 rfl) (wd G 3 rfl) (wd G 275 rfl) ⟨by decide, by decide⟩ (Pays.of_ct (W := 0) (ct_at G z [82, 101, 115, 111, 117, 114, 99, 101, 91, t1, 47, i1, i2, 44, 32, 111, 119, 110, 101, 114, 32, o1, o2, 93] 1 (101 : Int32) h F hall (by decide : 1 < 24) rfl) all0 (wd G 275 rfl) (wd G 3 rfl) (by decide) (by decide) rfl rfl) (argsL := [(.ref z), (.int (1 : Int32)), (.int (101 : Int32))]) (rest := []) rfl (lenOf pd_28 rfl) rfl (Nat.le_of_eq rfl) rfl at_225 (pc' := 228) rfl (k' := 50) (n' := 6000) rfl rfl (by decide) (by decide) ?_
  intro v_9 h_12 sz_10 q_11
  obtain ⟨rfl, rfl⟩ := q_11
  refine Seg.ifN at_228 (by decide) (pc' := 231) rfl ?_
  refine Seg.aload at_231 rfl rfl (pc' := 233) rfl ?_
  refine Seg.iconst (v := 2) at_233 (by decide) (pc' := 234) rfl ?_
  refine Seg.bipush (v := 115) at_234 (by decide) (pc' := 236) rfl ?_
  refine Seg.callS (y' := (⟨"com/example/kredential/kredential/ResourceToStringPinLaw", "at", "(Ljava/lang/String;IC)Z"⟩ : MethodName)) (wd G 273 rfl) (wd G 274 rfl) (wd G 3 rfl) (wd G 275 rfl) ⟨by decide, by decide⟩ (Pays.of_ct (W := 0) (ct_at G z [82, 101, 115, 111, 117, 114, 99, 101, 91, t1, 47, i1, i2, 44, 32, 111, 119, 110, 101, 114, 32, o1, o2, 93] 2 (115 : Int32) h F hall (by decide : 2 < 24) rfl) all0 (wd G 275 rfl) (wd G 3 rfl) (by decide) (by decide) rfl rfl) (argsL := [(.ref z), (.int (2 : Int32)), (.int (115 : Int32))]) (rest := []) rfl (lenOf pd_28 rfl) rfl (Nat.le_of_eq rfl) rfl at_236 (pc' := 239) rfl (k' := 50) (n' := 6000) rfl rfl (by decide) (by decide) ?_
  intro v_13 h_16 sz_14 q_15
  obtain ⟨rfl, rfl⟩ := q_15
  refine Seg.ifN at_239 (by decide) (pc' := 242) rfl ?_
  refine Seg.aload at_242 rfl rfl (pc' := 244) rfl ?_
  refine Seg.iconst (v := 3) at_244 (by decide) (pc' := 245) rfl ?_
  refine Seg.bipush (v := 111) at_245 (by decide) (pc' := 247) rfl ?_
  refine Seg.callS (y' := (⟨"com/example/kredential/kredential/ResourceToStringPinLaw", "at", "(Ljava/lang/String;IC)Z"⟩ : MethodName)) (wd G 273 rfl) (wd G 274 rfl) (wd G 3 rfl) (wd G 275 rfl) ⟨by decide, by decide⟩ (Pays.of_ct (W := 0) (ct_at G z [82, 101, 115, 111, 117, 114, 99, 101, 91, t1, 47, i1, i2, 44, 32, 111, 119, 110, 101, 114, 32, o1, o2, 93] 3 (111 : Int32) h F hall (by decide : 3 < 24) rfl) all0 (wd G 275 rfl) (wd G 3 rfl) (by decide) (by decide) rfl rfl) (argsL := [(.ref z), (.int (3 : Int32)), (.int (111 : Int32))]) (rest := []) rfl (lenOf pd_28 rfl) rfl (Nat.le_of_eq rfl) rfl at_247 (pc' := 250) rfl (k' := 50) (n' := 6000) rfl rfl (by decide) (by decide) ?_
  intro v_17 h_20 sz_18 q_19
  obtain ⟨rfl, rfl⟩ := q_19
  refine Seg.ifN at_250 (by decide) (pc' := 253) rfl ?_
  refine Seg.aload at_253 rfl rfl (pc' := 255) rfl ?_
  refine Seg.iconst (v := 4) at_255 (by decide) (pc' := 256) rfl ?_
  refine Seg.bipush (v := 117) at_256 (by decide) (pc' := 258) rfl ?_
  refine Seg.callS (y' := (⟨"com/example/kredential/kredential/ResourceToStringPinLaw", "at", "(Ljava/lang/String;IC)Z"⟩ : MethodName)) (wd G 273 rfl) (wd G 274 rfl) (wd G 3 rfl) (wd G 275 rfl) ⟨by decide, by decide⟩ (Pays.of_ct (W := 0) (ct_at G z [82, 101, 115, 111, 117, 114, 99, 101, 91, t1, 47, i1, i2, 44, 32, 111, 119, 110, 101, 114, 32, o1, o2, 93] 4 (117 : Int32) h F hall (by decide : 4 < 24) rfl) all0 (wd G 275 rfl) (wd G 3 rfl) (by decide) (by decide) rfl rfl) (argsL := [(.ref z), (.int (4 : Int32)), (.int (117 : Int32))]) (rest := []) rfl (lenOf pd_28 rfl) rfl (Nat.le_of_eq rfl) rfl at_258 (pc' := 261) rfl (k' := 50) (n' := 6000) rfl rfl (by decide) (by decide) ?_
  intro v_21 h_24 sz_22 q_23
  obtain ⟨rfl, rfl⟩ := q_23
  refine Seg.ifN at_261 (by decide) (pc' := 264) rfl ?_
  refine Seg.aload at_264 rfl rfl (pc' := 266) rfl ?_
  refine Seg.iconst (v := 5) at_266 (by decide) (pc' := 267) rfl ?_
  refine Seg.bipush (v := 114) at_267 (by decide) (pc' := 269) rfl ?_
  refine Seg.callS (y' := (⟨"com/example/kredential/kredential/ResourceToStringPinLaw", "at", "(Ljava/lang/String;IC)Z"⟩ : MethodName)) (wd G 273 rfl) (wd G 274 rfl) (wd G 3 rfl) (wd G 275 rfl) ⟨by decide, by decide⟩ (Pays.of_ct (W := 0) (ct_at G z [82, 101, 115, 111, 117, 114, 99, 101, 91, t1, 47, i1, i2, 44, 32, 111, 119, 110, 101, 114, 32, o1, o2, 93] 5 (114 : Int32) h F hall (by decide : 5 < 24) rfl) all0 (wd G 275 rfl) (wd G 3 rfl) (by decide) (by decide) rfl rfl) (argsL := [(.ref z), (.int (5 : Int32)), (.int (114 : Int32))]) (rest := []) rfl (lenOf pd_28 rfl) rfl (Nat.le_of_eq rfl) rfl at_269 (pc' := 272) rfl (k' := 50) (n' := 6000) rfl rfl (by decide) (by decide) ?_
  intro v_25 h_28 sz_26 q_27
  obtain ⟨rfl, rfl⟩ := q_27
  refine Seg.ifN at_272 (by decide) (pc' := 275) rfl ?_
  refine Seg.aload at_275 rfl rfl (pc' := 277) rfl ?_
  refine Seg.bipush (v := 6) at_277 (by decide) (pc' := 279) rfl ?_
  refine Seg.bipush (v := 99) at_279 (by decide) (pc' := 281) rfl ?_
  refine Seg.callS (y' := (⟨"com/example/kredential/kredential/ResourceToStringPinLaw", "at", "(Ljava/lang/String;IC)Z"⟩ : MethodName)) (wd G 273 rfl) (wd G 274 rfl) (wd G 3 rfl) (wd G 275 rfl) ⟨by decide, by decide⟩ (Pays.of_ct (W := 0) (ct_at G z [82, 101, 115, 111, 117, 114, 99, 101, 91, t1, 47, i1, i2, 44, 32, 111, 119, 110, 101, 114, 32, o1, o2, 93] 6 (99 : Int32) h F hall (by decide : 6 < 24) rfl) all0 (wd G 275 rfl) (wd G 3 rfl) (by decide) (by decide) rfl rfl) (argsL := [(.ref z), (.int (6 : Int32)), (.int (99 : Int32))]) (rest := []) rfl (lenOf pd_28 rfl) rfl (Nat.le_of_eq rfl) rfl at_281 (pc' := 284) rfl (k' := 50) (n' := 6000) rfl rfl (by decide) (by decide) ?_
  intro v_29 h_32 sz_30 q_31
  obtain ⟨rfl, rfl⟩ := q_31
  refine Seg.ifN at_284 (by decide) (pc' := 287) rfl ?_
  refine Seg.aload at_287 rfl rfl (pc' := 289) rfl ?_
  refine Seg.bipush (v := 7) at_289 (by decide) (pc' := 291) rfl ?_
  refine Seg.bipush (v := 101) at_291 (by decide) (pc' := 293) rfl ?_
  refine Seg.callS (y' := (⟨"com/example/kredential/kredential/ResourceToStringPinLaw", "at", "(Ljava/lang/String;IC)Z"⟩ : MethodName)) (wd G 273 rfl) (wd G 274 rfl) (wd G 3 rfl) (wd G 275 rfl) ⟨by decide, by decide⟩ (Pays.of_ct (W := 0) (ct_at G z [82, 101, 115, 111, 117, 114, 99, 101, 91, t1, 47, i1, i2, 44, 32, 111, 119, 110, 101, 114, 32, o1, o2, 93] 7 (101 : Int32) h F hall (by decide : 7 < 24) rfl) all0 (wd G 275 rfl) (wd G 3 rfl) (by decide) (by decide) rfl rfl) (argsL := [(.ref z), (.int (7 : Int32)), (.int (101 : Int32))]) (rest := []) rfl (lenOf pd_28 rfl) rfl (Nat.le_of_eq rfl) rfl at_293 (pc' := 296) rfl (k' := 50) (n' := 6000) rfl rfl (by decide) (by decide) ?_
  intro v_33 h_36 sz_34 q_35
  obtain ⟨rfl, rfl⟩ := q_35
  refine Seg.ifN at_296 (by decide) (pc' := 299) rfl ?_
  refine Seg.aload at_299 rfl rfl (pc' := 301) rfl ?_
  refine Seg.bipush (v := 8) at_301 (by decide) (pc' := 303) rfl ?_
  refine Seg.bipush (v := 91) at_303 (by decide) (pc' := 305) rfl ?_
  refine Seg.callS (y' := (⟨"com/example/kredential/kredential/ResourceToStringPinLaw", "at", "(Ljava/lang/String;IC)Z"⟩ : MethodName)) (wd G 273 rfl) (wd G 274 rfl) (wd G 3 rfl) (wd G 275 rfl) ⟨by decide, by decide⟩ (Pays.of_ct (W := 0) (ct_at G z [82, 101, 115, 111, 117, 114, 99, 101, 91, t1, 47, i1, i2, 44, 32, 111, 119, 110, 101, 114, 32, o1, o2, 93] 8 (91 : Int32) h F hall (by decide : 8 < 24) rfl) all0 (wd G 275 rfl) (wd G 3 rfl) (by decide) (by decide) rfl rfl) (argsL := [(.ref z), (.int (8 : Int32)), (.int (91 : Int32))]) (rest := []) rfl (lenOf pd_28 rfl) rfl (Nat.le_of_eq rfl) rfl at_305 (pc' := 308) rfl (k' := 50) (n' := 6000) rfl rfl (by decide) (by decide) ?_
  intro v_37 h_40 sz_38 q_39
  obtain ⟨rfl, rfl⟩ := q_39
  refine Seg.ifN at_308 (by decide) (pc' := 311) rfl ?_
  refine Seg.iconst (v := 1) at_311 (by decide) (pc' := 312) rfl ?_
  refine Seg.goto (pc' := 316) at_312 (by decide) (by decide) ?_
  refine Seg.istore (L' := #[.val (.int p1), .val (.int p2), .val (.int p3), .val (.int p4), .val (.int (1 : Int32)), .val (.int (2 : Int32)), .val (.int (2 : Int32)), .val (.int t1), .val (.int t2), .val (.int i1), .val (.int i2), .val (.int o1), .val (.int o2), .val (.ref s1), .val (.ref s2), .val (.ref s3), .val (.ref rx), .val (.ref z), .val (.int (1 : Int32)), .unset]) at_316 rfl (pc' := 318) rfl ?_
  refine Seg.bipush (v := 9) at_318 (by decide) (pc' := 320) rfl ?_
  refine Seg.istore (L' := #[.val (.int p1), .val (.int p2), .val (.int p3), .val (.int p4), .val (.int (1 : Int32)), .val (.int (2 : Int32)), .val (.int (2 : Int32)), .val (.int t1), .val (.int t2), .val (.int i1), .val (.int i2), .val (.int o1), .val (.int o2), .val (.ref s1), .val (.ref s2), .val (.ref s3), .val (.ref rx), .val (.ref z), .val (.int (1 : Int32)), .val (.int (9 : Int32))]) at_320 rfl (pc' := 322) rfl ?_
  refine Seg.iload at_322 rfl (pc' := 324) rfl ?_
  refine Seg.ifN at_324 (by decide) (pc' := 327) rfl ?_
  refine Seg.aload at_327 rfl rfl (pc' := 329) rfl ?_
  refine Seg.iload at_329 rfl (pc' := 331) rfl ?_
  refine Seg.iload at_331 rfl (pc' := 333) rfl ?_
  refine Seg.callS (y' := (⟨"com/example/kredential/kredential/ResourceToStringPinLaw", "at", "(Ljava/lang/String;IC)Z"⟩ : MethodName)) (wd G 273 rfl) (wd G 274 rfl) (wd G 3 rfl) (wd G 275 rfl) ⟨by decide, by decide⟩ (Pays.of_ct (W := 0) (ct_at G z [82, 101, 115, 111, 117, 114, 99, 101, 91, t1, 47, i1, i2, 44, 32, 111, 119, 110, 101, 114, 32, o1, o2, 93] 9 t1 h F hall (by decide : 9 < 24) rfl) all0 (wd G 275 rfl) (wd G 3 rfl) (by decide) (by decide) rfl rfl) (argsL := [(.ref z), (.int (9 : Int32)), (.int t1)]) (rest := []) rfl (lenOf pd_28 rfl) rfl (Nat.le_of_eq rfl) rfl at_333 (pc' := 336) rfl (k' := 50) (n' := 6000) rfl rfl (by decide) (by decide) ?_
  intro v_41 h_44 sz_42 q_43
  obtain ⟨rfl, rfl⟩ := q_43
  refine Seg.ifN at_336 (by decide) (pc' := 339) rfl ?_
  refine Seg.iconst (v := 1) at_339 (by decide) (pc' := 340) rfl ?_
  refine Seg.goto (pc' := 344) at_340 (by decide) (by decide) ?_
  refine Seg.istore (L' := #[.val (.int p1), .val (.int p2), .val (.int p3), .val (.int p4), .val (.int (1 : Int32)), .val (.int (2 : Int32)), .val (.int (2 : Int32)), .val (.int t1), .val (.int t2), .val (.int i1), .val (.int i2), .val (.int o1), .val (.int o2), .val (.ref s1), .val (.ref s2), .val (.ref s3), .val (.ref rx), .val (.ref z), .val (.int (1 : Int32)), .val (.int (9 : Int32))]) at_344 rfl (pc' := 346) rfl ?_
  refine Seg.iload at_346 rfl (pc' := 348) rfl ?_
  refine Seg.iconst (v := 2) at_348 (by decide) (pc' := 349) rfl ?_
  refine Seg.icY (pc' := 378) at_349 (by decide) (by decide) (by decide) ?_
  refine Seg.iload at_378 rfl (pc' := 380) rfl ?_
  refine Seg.iload at_380 rfl (pc' := 382) rfl ?_
  refine Seg.iadd (v := (10 : Int32)) at_382 (by decide) (pc' := 383) rfl ?_
  refine Seg.istore (L' := #[.val (.int p1), .val (.int p2), .val (.int p3), .val (.int p4), .val (.int (1 : Int32)), .val (.int (2 : Int32)), .val (.int (2 : Int32)), .val (.int t1), .val (.int t2), .val (.int i1), .val (.int i2), .val (.int o1), .val (.int o2), .val (.ref s1), .val (.ref s2), .val (.ref s3), .val (.ref rx), .val (.ref z), .val (.int (1 : Int32)), .val (.int (10 : Int32))]) at_383 rfl (pc' := 385) rfl ?_
  refine Seg.iload at_385 rfl (pc' := 387) rfl ?_
  refine Seg.ifN at_387 (by decide) (pc' := 390) rfl ?_
  refine Seg.aload at_390 rfl rfl (pc' := 392) rfl ?_
  refine Seg.iload at_392 rfl (pc' := 394) rfl ?_
  refine Seg.bipush (v := 47) at_394 (by decide) (pc' := 396) rfl ?_
  refine Seg.callS (y' := (⟨"com/example/kredential/kredential/ResourceToStringPinLaw", "at", "(Ljava/lang/String;IC)Z"⟩ : MethodName)) (wd G 273 rfl) (wd G 274 rfl) (wd G 3 rfl) (wd G 275 rfl) ⟨by decide, by decide⟩ (Pays.of_ct (W := 0) (ct_at G z [82, 101, 115, 111, 117, 114, 99, 101, 91, t1, 47, i1, i2, 44, 32, 111, 119, 110, 101, 114, 32, o1, o2, 93] 10 (47 : Int32) h F hall (by decide : 10 < 24) rfl) all0 (wd G 275 rfl) (wd G 3 rfl) (by decide) (by decide) rfl rfl) (argsL := [(.ref z), (.int (10 : Int32)), (.int (47 : Int32))]) (rest := []) rfl (lenOf pd_28 rfl) rfl (Nat.le_of_eq rfl) rfl at_396 (pc' := 399) rfl (k' := 50) (n' := 6000) rfl rfl (by decide) (by decide) ?_
  intro v_45 h_48 sz_46 q_47
  obtain ⟨rfl, rfl⟩ := q_47
  refine Seg.ifN at_399 (by decide) (pc' := 402) rfl ?_
  refine Seg.iconst (v := 1) at_402 (by decide) (pc' := 403) rfl ?_
  refine Seg.goto (pc' := 407) at_403 (by decide) (by decide) ?_
  refine Seg.istore (L' := #[.val (.int p1), .val (.int p2), .val (.int p3), .val (.int p4), .val (.int (1 : Int32)), .val (.int (2 : Int32)), .val (.int (2 : Int32)), .val (.int t1), .val (.int t2), .val (.int i1), .val (.int i2), .val (.int o1), .val (.int o2), .val (.ref s1), .val (.ref s2), .val (.ref s3), .val (.ref rx), .val (.ref z), .val (.int (1 : Int32)), .val (.int (10 : Int32))]) at_407 rfl (pc' := 409) rfl ?_
  refine Seg.iload at_409 rfl (pc' := 411) rfl ?_
  refine Seg.iconst (v := 1) at_411 (by decide) (pc' := 412) rfl ?_
  refine Seg.iadd (v := (11 : Int32)) at_412 (by decide) (pc' := 413) rfl ?_
  refine Seg.istore (L' := #[.val (.int p1), .val (.int p2), .val (.int p3), .val (.int p4), .val (.int (1 : Int32)), .val (.int (2 : Int32)), .val (.int (2 : Int32)), .val (.int t1), .val (.int t2), .val (.int i1), .val (.int i2), .val (.int o1), .val (.int o2), .val (.ref s1), .val (.ref s2), .val (.ref s3), .val (.ref rx), .val (.ref z), .val (.int (1 : Int32)), .val (.int (11 : Int32))]) at_413 rfl (pc' := 415) rfl ?_
  refine Seg.iload at_415 rfl (pc' := 417) rfl ?_
  refine Seg.ifN at_417 (by decide) (pc' := 420) rfl ?_
  refine Seg.aload at_420 rfl rfl (pc' := 422) rfl ?_
  refine Seg.iload at_422 rfl (pc' := 424) rfl ?_
  refine Seg.iload at_424 rfl (pc' := 426) rfl ?_
  refine Seg.callS (y' := (⟨"com/example/kredential/kredential/ResourceToStringPinLaw", "at", "(Ljava/lang/String;IC)Z"⟩ : MethodName)) (wd G 273 rfl) (wd G 274 rfl) (wd G 3 rfl) (wd G 275 rfl) ⟨by decide, by decide⟩ (Pays.of_ct (W := 0) (ct_at G z [82, 101, 115, 111, 117, 114, 99, 101, 91, t1, 47, i1, i2, 44, 32, 111, 119, 110, 101, 114, 32, o1, o2, 93] 11 i1 h F hall (by decide : 11 < 24) rfl) all0 (wd G 275 rfl) (wd G 3 rfl) (by decide) (by decide) rfl rfl) (argsL := [(.ref z), (.int (11 : Int32)), (.int i1)]) (rest := []) rfl (lenOf pd_28 rfl) rfl (Nat.le_of_eq rfl) rfl at_426 (pc' := 429) rfl (k' := 50) (n' := 6000) rfl rfl (by decide) (by decide) ?_
  intro v_49 h_52 sz_50 q_51
  obtain ⟨rfl, rfl⟩ := q_51
  refine Seg.ifN at_429 (by decide) (pc' := 432) rfl ?_
  refine Seg.iconst (v := 1) at_432 (by decide) (pc' := 433) rfl ?_
  refine Seg.goto (pc' := 437) at_433 (by decide) (by decide) ?_
  refine Seg.istore (L' := #[.val (.int p1), .val (.int p2), .val (.int p3), .val (.int p4), .val (.int (1 : Int32)), .val (.int (2 : Int32)), .val (.int (2 : Int32)), .val (.int t1), .val (.int t2), .val (.int i1), .val (.int i2), .val (.int o1), .val (.int o2), .val (.ref s1), .val (.ref s2), .val (.ref s3), .val (.ref rx), .val (.ref z), .val (.int (1 : Int32)), .val (.int (11 : Int32))]) at_437 rfl (pc' := 439) rfl ?_
  refine Seg.iload at_439 rfl (pc' := 441) rfl ?_
  refine Seg.iconst (v := 2) at_441 (by decide) (pc' := 442) rfl ?_
  refine Seg.icN at_442 (by decide) (pc' := 445) rfl ?_
  refine Seg.iload at_445 rfl (pc' := 447) rfl ?_
  refine Seg.ifN at_447 (by decide) (pc' := 450) rfl ?_
  refine Seg.aload at_450 rfl rfl (pc' := 452) rfl ?_
  refine Seg.iload at_452 rfl (pc' := 454) rfl ?_
  refine Seg.iconst (v := 1) at_454 (by decide) (pc' := 455) rfl ?_
  refine Seg.iadd (v := (12 : Int32)) at_455 (by decide) (pc' := 456) rfl ?_
  refine Seg.iload at_456 rfl (pc' := 458) rfl ?_
  refine Seg.callS (y' := (⟨"com/example/kredential/kredential/ResourceToStringPinLaw", "at", "(Ljava/lang/String;IC)Z"⟩ : MethodName)) (wd G 273 rfl) (wd G 274 rfl) (wd G 3 rfl) (wd G 275 rfl) ⟨by decide, by decide⟩ (Pays.of_ct (W := 0) (ct_at G z [82, 101, 115, 111, 117, 114, 99, 101, 91, t1, 47, i1, i2, 44, 32, 111, 119, 110, 101, 114, 32, o1, o2, 93] 12 i2 h F hall (by decide : 12 < 24) rfl) all0 (wd G 275 rfl) (wd G 3 rfl) (by decide) (by decide) rfl rfl) (argsL := [(.ref z), (.int (12 : Int32)), (.int i2)]) (rest := []) rfl (lenOf pd_28 rfl) rfl (Nat.le_of_eq rfl) rfl at_458 (pc' := 461) rfl (k' := 50) (n' := 6000) rfl rfl (by decide) (by decide) ?_
  intro v_53 h_56 sz_54 q_55
  obtain ⟨rfl, rfl⟩ := q_55
  refine Seg.ifN at_461 (by decide) (pc' := 464) rfl ?_
  refine Seg.iconst (v := 1) at_464 (by decide) (pc' := 465) rfl ?_
  refine Seg.goto (pc' := 469) at_465 (by decide) (by decide) ?_
  refine Seg.istore (L' := #[.val (.int p1), .val (.int p2), .val (.int p3), .val (.int p4), .val (.int (1 : Int32)), .val (.int (2 : Int32)), .val (.int (2 : Int32)), .val (.int t1), .val (.int t2), .val (.int i1), .val (.int i2), .val (.int o1), .val (.int o2), .val (.ref s1), .val (.ref s2), .val (.ref s3), .val (.ref rx), .val (.ref z), .val (.int (1 : Int32)), .val (.int (11 : Int32))]) at_469 rfl (pc' := 471) rfl ?_
  refine Seg.iload at_471 rfl (pc' := 473) rfl ?_
  refine Seg.iload at_473 rfl (pc' := 475) rfl ?_
  refine Seg.iadd (v := (13 : Int32)) at_475 (by decide) (pc' := 476) rfl ?_
  refine Seg.istore (L' := #[.val (.int p1), .val (.int p2), .val (.int p3), .val (.int p4), .val (.int (1 : Int32)), .val (.int (2 : Int32)), .val (.int (2 : Int32)), .val (.int t1), .val (.int t2), .val (.int i1), .val (.int i2), .val (.int o1), .val (.int o2), .val (.ref s1), .val (.ref s2), .val (.ref s3), .val (.ref rx), .val (.ref z), .val (.int (1 : Int32)), .val (.int (13 : Int32))]) at_476 rfl (pc' := 478) rfl ?_
  refine Seg.iload at_478 rfl (pc' := 480) rfl ?_
  refine Seg.ifN at_480 (by decide) (pc' := 483) rfl ?_
  refine Seg.aload at_483 rfl rfl (pc' := 485) rfl ?_
  refine Seg.iload at_485 rfl (pc' := 487) rfl ?_
  refine Seg.bipush (v := 44) at_487 (by decide) (pc' := 489) rfl ?_
  refine Seg.callS (y' := (⟨"com/example/kredential/kredential/ResourceToStringPinLaw", "at", "(Ljava/lang/String;IC)Z"⟩ : MethodName)) (wd G 273 rfl) (wd G 274 rfl) (wd G 3 rfl) (wd G 275 rfl) ⟨by decide, by decide⟩ (Pays.of_ct (W := 0) (ct_at G z [82, 101, 115, 111, 117, 114, 99, 101, 91, t1, 47, i1, i2, 44, 32, 111, 119, 110, 101, 114, 32, o1, o2, 93] 13 (44 : Int32) h F hall (by decide : 13 < 24) rfl) all0 (wd G 275 rfl) (wd G 3 rfl) (by decide) (by decide) rfl rfl) (argsL := [(.ref z), (.int (13 : Int32)), (.int (44 : Int32))]) (rest := []) rfl (lenOf pd_28 rfl) rfl (Nat.le_of_eq rfl) rfl at_489 (pc' := 492) rfl (k' := 50) (n' := 6000) rfl rfl (by decide) (by decide) ?_
  intro v_57 h_60 sz_58 q_59
  obtain ⟨rfl, rfl⟩ := q_59
  refine Seg.ifN at_492 (by decide) (pc' := 495) rfl ?_
  refine Seg.aload at_495 rfl rfl (pc' := 497) rfl ?_
  refine Seg.iload at_497 rfl (pc' := 499) rfl ?_
  refine Seg.iconst (v := 1) at_499 (by decide) (pc' := 500) rfl ?_
  refine Seg.iadd (v := (14 : Int32)) at_500 (by decide) (pc' := 501) rfl ?_
  refine Seg.bipush (v := 32) at_501 (by decide) (pc' := 503) rfl ?_
  refine Seg.callS (y' := (⟨"com/example/kredential/kredential/ResourceToStringPinLaw", "at", "(Ljava/lang/String;IC)Z"⟩ : MethodName)) (wd G 273 rfl) (wd G 274 rfl) (wd G 3 rfl) (wd G 275 rfl) ⟨by decide, by decide⟩ (Pays.of_ct (W := 0) (ct_at G z [82, 101, 115, 111, 117, 114, 99, 101, 91, t1, 47, i1, i2, 44, 32, 111, 119, 110, 101, 114, 32, o1, o2, 93] 14 (32 : Int32) h F hall (by decide : 14 < 24) rfl) all0 (wd G 275 rfl) (wd G 3 rfl) (by decide) (by decide) rfl rfl) (argsL := [(.ref z), (.int (14 : Int32)), (.int (32 : Int32))]) (rest := []) rfl (lenOf pd_28 rfl) rfl (Nat.le_of_eq rfl) rfl at_503 (pc' := 506) rfl (k' := 50) (n' := 6000) rfl rfl (by decide) (by decide) ?_
  intro v_61 h_64 sz_62 q_63
  obtain ⟨rfl, rfl⟩ := q_63
  refine Seg.ifN at_506 (by decide) (pc' := 509) rfl ?_
  refine Seg.aload at_509 rfl rfl (pc' := 511) rfl ?_
  refine Seg.iload at_511 rfl (pc' := 513) rfl ?_
  refine Seg.iconst (v := 2) at_513 (by decide) (pc' := 514) rfl ?_
  refine Seg.iadd (v := (15 : Int32)) at_514 (by decide) (pc' := 515) rfl ?_
  refine Seg.bipush (v := 111) at_515 (by decide) (pc' := 517) rfl ?_
  refine Seg.callS (y' := (⟨"com/example/kredential/kredential/ResourceToStringPinLaw", "at", "(Ljava/lang/String;IC)Z"⟩ : MethodName)) (wd G 273 rfl) (wd G 274 rfl) (wd G 3 rfl) (wd G 275 rfl) ⟨by decide, by decide⟩ (Pays.of_ct (W := 0) (ct_at G z [82, 101, 115, 111, 117, 114, 99, 101, 91, t1, 47, i1, i2, 44, 32, 111, 119, 110, 101, 114, 32, o1, o2, 93] 15 (111 : Int32) h F hall (by decide : 15 < 24) rfl) all0 (wd G 275 rfl) (wd G 3 rfl) (by decide) (by decide) rfl rfl) (argsL := [(.ref z), (.int (15 : Int32)), (.int (111 : Int32))]) (rest := []) rfl (lenOf pd_28 rfl) rfl (Nat.le_of_eq rfl) rfl at_517 (pc' := 520) rfl (k' := 50) (n' := 6000) rfl rfl (by decide) (by decide) ?_
  intro v_65 h_68 sz_66 q_67
  obtain ⟨rfl, rfl⟩ := q_67
  refine Seg.ifN at_520 (by decide) (pc' := 523) rfl ?_
  refine Seg.aload at_523 rfl rfl (pc' := 525) rfl ?_
  refine Seg.iload at_525 rfl (pc' := 527) rfl ?_
  refine Seg.iconst (v := 3) at_527 (by decide) (pc' := 528) rfl ?_
  refine Seg.iadd (v := (16 : Int32)) at_528 (by decide) (pc' := 529) rfl ?_
  refine Seg.bipush (v := 119) at_529 (by decide) (pc' := 531) rfl ?_
  refine Seg.callS (y' := (⟨"com/example/kredential/kredential/ResourceToStringPinLaw", "at", "(Ljava/lang/String;IC)Z"⟩ : MethodName)) (wd G 273 rfl) (wd G 274 rfl) (wd G 3 rfl) (wd G 275 rfl) ⟨by decide, by decide⟩ (Pays.of_ct (W := 0) (ct_at G z [82, 101, 115, 111, 117, 114, 99, 101, 91, t1, 47, i1, i2, 44, 32, 111, 119, 110, 101, 114, 32, o1, o2, 93] 16 (119 : Int32) h F hall (by decide : 16 < 24) rfl) all0 (wd G 275 rfl) (wd G 3 rfl) (by decide) (by decide) rfl rfl) (argsL := [(.ref z), (.int (16 : Int32)), (.int (119 : Int32))]) (rest := []) rfl (lenOf pd_28 rfl) rfl (Nat.le_of_eq rfl) rfl at_531 (pc' := 534) rfl (k' := 50) (n' := 6000) rfl rfl (by decide) (by decide) ?_
  intro v_69 h_72 sz_70 q_71
  obtain ⟨rfl, rfl⟩ := q_71
  refine Seg.ifN at_534 (by decide) (pc' := 537) rfl ?_
  refine Seg.aload at_537 rfl rfl (pc' := 539) rfl ?_
  refine Seg.iload at_539 rfl (pc' := 541) rfl ?_
  refine Seg.iconst (v := 4) at_541 (by decide) (pc' := 542) rfl ?_
  refine Seg.iadd (v := (17 : Int32)) at_542 (by decide) (pc' := 543) rfl ?_
  refine Seg.bipush (v := 110) at_543 (by decide) (pc' := 545) rfl ?_
  refine Seg.callS (y' := (⟨"com/example/kredential/kredential/ResourceToStringPinLaw", "at", "(Ljava/lang/String;IC)Z"⟩ : MethodName)) (wd G 273 rfl) (wd G 274 rfl) (wd G 3 rfl) (wd G 275 rfl) ⟨by decide, by decide⟩ (Pays.of_ct (W := 0) (ct_at G z [82, 101, 115, 111, 117, 114, 99, 101, 91, t1, 47, i1, i2, 44, 32, 111, 119, 110, 101, 114, 32, o1, o2, 93] 17 (110 : Int32) h F hall (by decide : 17 < 24) rfl) all0 (wd G 275 rfl) (wd G 3 rfl) (by decide) (by decide) rfl rfl) (argsL := [(.ref z), (.int (17 : Int32)), (.int (110 : Int32))]) (rest := []) rfl (lenOf pd_28 rfl) rfl (Nat.le_of_eq rfl) rfl at_545 (pc' := 548) rfl (k' := 50) (n' := 6000) rfl rfl (by decide) (by decide) ?_
  intro v_73 h_76 sz_74 q_75
  obtain ⟨rfl, rfl⟩ := q_75
  refine Seg.ifN at_548 (by decide) (pc' := 551) rfl ?_
  refine Seg.aload at_551 rfl rfl (pc' := 553) rfl ?_
  refine Seg.iload at_553 rfl (pc' := 555) rfl ?_
  refine Seg.iconst (v := 5) at_555 (by decide) (pc' := 556) rfl ?_
  refine Seg.iadd (v := (18 : Int32)) at_556 (by decide) (pc' := 557) rfl ?_
  refine Seg.bipush (v := 101) at_557 (by decide) (pc' := 559) rfl ?_
  refine Seg.callS (y' := (⟨"com/example/kredential/kredential/ResourceToStringPinLaw", "at", "(Ljava/lang/String;IC)Z"⟩ : MethodName)) (wd G 273 rfl) (wd G 274 rfl) (wd G 3 rfl) (wd G 275 rfl) ⟨by decide, by decide⟩ (Pays.of_ct (W := 0) (ct_at G z [82, 101, 115, 111, 117, 114, 99, 101, 91, t1, 47, i1, i2, 44, 32, 111, 119, 110, 101, 114, 32, o1, o2, 93] 18 (101 : Int32) h F hall (by decide : 18 < 24) rfl) all0 (wd G 275 rfl) (wd G 3 rfl) (by decide) (by decide) rfl rfl) (argsL := [(.ref z), (.int (18 : Int32)), (.int (101 : Int32))]) (rest := []) rfl (lenOf pd_28 rfl) rfl (Nat.le_of_eq rfl) rfl at_559 (pc' := 562) rfl (k' := 50) (n' := 6000) rfl rfl (by decide) (by decide) ?_
  intro v_77 h_80 sz_78 q_79
  obtain ⟨rfl, rfl⟩ := q_79
  refine Seg.ifN at_562 (by decide) (pc' := 565) rfl ?_
  refine Seg.aload at_565 rfl rfl (pc' := 567) rfl ?_
  refine Seg.iload at_567 rfl (pc' := 569) rfl ?_
  refine Seg.bipush (v := 6) at_569 (by decide) (pc' := 571) rfl ?_
  refine Seg.iadd (v := (19 : Int32)) at_571 (by decide) (pc' := 572) rfl ?_
  refine Seg.bipush (v := 114) at_572 (by decide) (pc' := 574) rfl ?_
  refine Seg.callS (y' := (⟨"com/example/kredential/kredential/ResourceToStringPinLaw", "at", "(Ljava/lang/String;IC)Z"⟩ : MethodName)) (wd G 273 rfl) (wd G 274 rfl) (wd G 3 rfl) (wd G 275 rfl) ⟨by decide, by decide⟩ (Pays.of_ct (W := 0) (ct_at G z [82, 101, 115, 111, 117, 114, 99, 101, 91, t1, 47, i1, i2, 44, 32, 111, 119, 110, 101, 114, 32, o1, o2, 93] 19 (114 : Int32) h F hall (by decide : 19 < 24) rfl) all0 (wd G 275 rfl) (wd G 3 rfl) (by decide) (by decide) rfl rfl) (argsL := [(.ref z), (.int (19 : Int32)), (.int (114 : Int32))]) (rest := []) rfl (lenOf pd_28 rfl) rfl (Nat.le_of_eq rfl) rfl at_574 (pc' := 577) rfl (k' := 50) (n' := 6000) rfl rfl (by decide) (by decide) ?_
  intro v_81 h_84 sz_82 q_83
  obtain ⟨rfl, rfl⟩ := q_83
  refine Seg.ifN at_577 (by decide) (pc' := 580) rfl ?_
  refine Seg.aload at_580 rfl rfl (pc' := 582) rfl ?_
  refine Seg.iload at_582 rfl (pc' := 584) rfl ?_
  refine Seg.bipush (v := 7) at_584 (by decide) (pc' := 586) rfl ?_
  refine Seg.iadd (v := (20 : Int32)) at_586 (by decide) (pc' := 587) rfl ?_
  refine Seg.bipush (v := 32) at_587 (by decide) (pc' := 589) rfl ?_
  refine Seg.callS (y' := (⟨"com/example/kredential/kredential/ResourceToStringPinLaw", "at", "(Ljava/lang/String;IC)Z"⟩ : MethodName)) (wd G 273 rfl) (wd G 274 rfl) (wd G 3 rfl) (wd G 275 rfl) ⟨by decide, by decide⟩ (Pays.of_ct (W := 0) (ct_at G z [82, 101, 115, 111, 117, 114, 99, 101, 91, t1, 47, i1, i2, 44, 32, 111, 119, 110, 101, 114, 32, o1, o2, 93] 20 (32 : Int32) h F hall (by decide : 20 < 24) rfl) all0 (wd G 275 rfl) (wd G 3 rfl) (by decide) (by decide) rfl rfl) (argsL := [(.ref z), (.int (20 : Int32)), (.int (32 : Int32))]) (rest := []) rfl (lenOf pd_28 rfl) rfl (Nat.le_of_eq rfl) rfl at_589 (pc' := 592) rfl (k' := 50) (n' := 6000) rfl rfl (by decide) (by decide) ?_
  intro v_85 h_88 sz_86 q_87
  obtain ⟨rfl, rfl⟩ := q_87
  refine Seg.ifN at_592 (by decide) (pc' := 595) rfl ?_
  refine Seg.iconst (v := 1) at_595 (by decide) (pc' := 596) rfl ?_
  refine Seg.goto (pc' := 600) at_596 (by decide) (by decide) ?_
  refine Seg.istore (L' := #[.val (.int p1), .val (.int p2), .val (.int p3), .val (.int p4), .val (.int (1 : Int32)), .val (.int (2 : Int32)), .val (.int (2 : Int32)), .val (.int t1), .val (.int t2), .val (.int i1), .val (.int i2), .val (.int o1), .val (.int o2), .val (.ref s1), .val (.ref s2), .val (.ref s3), .val (.ref rx), .val (.ref z), .val (.int (1 : Int32)), .val (.int (13 : Int32))]) at_600 rfl (pc' := 602) rfl ?_
  refine Seg.iload at_602 rfl (pc' := 604) rfl ?_
  refine Seg.bipush (v := 8) at_604 (by decide) (pc' := 606) rfl ?_
  refine Seg.iadd (v := (21 : Int32)) at_606 (by decide) (pc' := 607) rfl ?_
  refine Seg.istore (L' := #[.val (.int p1), .val (.int p2), .val (.int p3), .val (.int p4), .val (.int (1 : Int32)), .val (.int (2 : Int32)), .val (.int (2 : Int32)), .val (.int t1), .val (.int t2), .val (.int i1), .val (.int i2), .val (.int o1), .val (.int o2), .val (.ref s1), .val (.ref s2), .val (.ref s3), .val (.ref rx), .val (.ref z), .val (.int (1 : Int32)), .val (.int (21 : Int32))]) at_607 rfl (pc' := 609) rfl ?_
  refine Seg.iload at_609 rfl (pc' := 611) rfl ?_
  refine Seg.ifN at_611 (by decide) (pc' := 614) rfl ?_
  refine Seg.aload at_614 rfl rfl (pc' := 616) rfl ?_
  refine Seg.iload at_616 rfl (pc' := 618) rfl ?_
  refine Seg.iload at_618 rfl (pc' := 620) rfl ?_
  refine Seg.callS (y' := (⟨"com/example/kredential/kredential/ResourceToStringPinLaw", "at", "(Ljava/lang/String;IC)Z"⟩ : MethodName)) (wd G 273 rfl) (wd G 274 rfl) (wd G 3 rfl) (wd G 275 rfl) ⟨by decide, by decide⟩ (Pays.of_ct (W := 0) (ct_at G z [82, 101, 115, 111, 117, 114, 99, 101, 91, t1, 47, i1, i2, 44, 32, 111, 119, 110, 101, 114, 32, o1, o2, 93] 21 o1 h F hall (by decide : 21 < 24) rfl) all0 (wd G 275 rfl) (wd G 3 rfl) (by decide) (by decide) rfl rfl) (argsL := [(.ref z), (.int (21 : Int32)), (.int o1)]) (rest := []) rfl (lenOf pd_28 rfl) rfl (Nat.le_of_eq rfl) rfl at_620 (pc' := 623) rfl (k' := 50) (n' := 6000) rfl rfl (by decide) (by decide) ?_
  intro v_89 h_92 sz_90 q_91
  obtain ⟨rfl, rfl⟩ := q_91
  refine Seg.ifN at_623 (by decide) (pc' := 626) rfl ?_
  refine Seg.iconst (v := 1) at_626 (by decide) (pc' := 627) rfl ?_
  refine Seg.goto (pc' := 631) at_627 (by decide) (by decide) ?_
  refine Seg.istore (L' := #[.val (.int p1), .val (.int p2), .val (.int p3), .val (.int p4), .val (.int (1 : Int32)), .val (.int (2 : Int32)), .val (.int (2 : Int32)), .val (.int t1), .val (.int t2), .val (.int i1), .val (.int i2), .val (.int o1), .val (.int o2), .val (.ref s1), .val (.ref s2), .val (.ref s3), .val (.ref rx), .val (.ref z), .val (.int (1 : Int32)), .val (.int (21 : Int32))]) at_631 rfl (pc' := 633) rfl ?_
  refine Seg.iload at_633 rfl (pc' := 635) rfl ?_
  refine Seg.iconst (v := 2) at_635 (by decide) (pc' := 636) rfl ?_
  refine Seg.icN at_636 (by decide) (pc' := 639) rfl ?_
  refine Seg.iload at_639 rfl (pc' := 641) rfl ?_
  refine Seg.ifN at_641 (by decide) (pc' := 644) rfl ?_
  refine Seg.aload at_644 rfl rfl (pc' := 646) rfl ?_
  refine Seg.iload at_646 rfl (pc' := 648) rfl ?_
  refine Seg.iconst (v := 1) at_648 (by decide) (pc' := 649) rfl ?_
  refine Seg.iadd (v := (22 : Int32)) at_649 (by decide) (pc' := 650) rfl ?_
  refine Seg.iload at_650 rfl (pc' := 652) rfl ?_
  refine Seg.callS (y' := (⟨"com/example/kredential/kredential/ResourceToStringPinLaw", "at", "(Ljava/lang/String;IC)Z"⟩ : MethodName)) (wd G 273 rfl) (wd G 274 rfl) (wd G 3 rfl) (wd G 275 rfl) ⟨by decide, by decide⟩ (Pays.of_ct (W := 0) (ct_at G z [82, 101, 115, 111, 117, 114, 99, 101, 91, t1, 47, i1, i2, 44, 32, 111, 119, 110, 101, 114, 32, o1, o2, 93] 22 o2 h F hall (by decide : 22 < 24) rfl) all0 (wd G 275 rfl) (wd G 3 rfl) (by decide) (by decide) rfl rfl) (argsL := [(.ref z), (.int (22 : Int32)), (.int o2)]) (rest := []) rfl (lenOf pd_28 rfl) rfl (Nat.le_of_eq rfl) rfl at_652 (pc' := 655) rfl (k' := 50) (n' := 6000) rfl rfl (by decide) (by decide) ?_
  intro v_93 h_96 sz_94 q_95
  obtain ⟨rfl, rfl⟩ := q_95
  refine Seg.ifN at_655 (by decide) (pc' := 658) rfl ?_
  refine Seg.iconst (v := 1) at_658 (by decide) (pc' := 659) rfl ?_
  refine Seg.goto (pc' := 663) at_659 (by decide) (by decide) ?_
  refine Seg.istore (L' := #[.val (.int p1), .val (.int p2), .val (.int p3), .val (.int p4), .val (.int (1 : Int32)), .val (.int (2 : Int32)), .val (.int (2 : Int32)), .val (.int t1), .val (.int t2), .val (.int i1), .val (.int i2), .val (.int o1), .val (.int o2), .val (.ref s1), .val (.ref s2), .val (.ref s3), .val (.ref rx), .val (.ref z), .val (.int (1 : Int32)), .val (.int (21 : Int32))]) at_663 rfl (pc' := 665) rfl ?_
  refine Seg.iload at_665 rfl (pc' := 667) rfl ?_
  refine Seg.iload at_667 rfl (pc' := 669) rfl ?_
  refine Seg.iadd (v := (23 : Int32)) at_669 (by decide) (pc' := 670) rfl ?_
  refine Seg.istore (L' := #[.val (.int p1), .val (.int p2), .val (.int p3), .val (.int p4), .val (.int (1 : Int32)), .val (.int (2 : Int32)), .val (.int (2 : Int32)), .val (.int t1), .val (.int t2), .val (.int i1), .val (.int i2), .val (.int o1), .val (.int o2), .val (.ref s1), .val (.ref s2), .val (.ref s3), .val (.ref rx), .val (.ref z), .val (.int (1 : Int32)), .val (.int (23 : Int32))]) at_670 rfl (pc' := 672) rfl ?_
  refine Seg.iload at_672 rfl (pc' := 674) rfl ?_
  refine Seg.ifN at_674 (by decide) (pc' := 677) rfl ?_
  refine Seg.aload at_677 rfl rfl (pc' := 679) rfl ?_
  refine Seg.iload at_679 rfl (pc' := 681) rfl ?_
  refine Seg.bipush (v := 93) at_681 (by decide) (pc' := 683) rfl ?_
  refine Seg.callS (y' := (⟨"com/example/kredential/kredential/ResourceToStringPinLaw", "at", "(Ljava/lang/String;IC)Z"⟩ : MethodName)) (wd G 273 rfl) (wd G 274 rfl) (wd G 3 rfl) (wd G 275 rfl) ⟨by decide, by decide⟩ (Pays.of_ct (W := 0) (ct_at G z [82, 101, 115, 111, 117, 114, 99, 101, 91, t1, 47, i1, i2, 44, 32, 111, 119, 110, 101, 114, 32, o1, o2, 93] 23 (93 : Int32) h F hall (by decide : 23 < 24) rfl) all0 (wd G 275 rfl) (wd G 3 rfl) (by decide) (by decide) rfl rfl) (argsL := [(.ref z), (.int (23 : Int32)), (.int (93 : Int32))]) (rest := []) rfl (lenOf pd_28 rfl) rfl (Nat.le_of_eq rfl) rfl at_683 (pc' := 686) rfl (k' := 50) (n' := 6000) rfl rfl (by decide) (by decide) ?_
  intro v_97 h_100 sz_98 q_99
  obtain ⟨rfl, rfl⟩ := q_99
  refine Seg.ifN at_686 (by decide) (pc' := 689) rfl ?_
  refine Seg.iconst (v := 1) at_689 (by decide) (pc' := 690) rfl ?_
  refine Seg.goto (pc' := 694) at_690 (by decide) (by decide) ?_
  refine Seg.istore (L' := #[.val (.int p1), .val (.int p2), .val (.int p3), .val (.int p4), .val (.int (1 : Int32)), .val (.int (2 : Int32)), .val (.int (2 : Int32)), .val (.int t1), .val (.int t2), .val (.int i1), .val (.int i2), .val (.int o1), .val (.int o2), .val (.ref s1), .val (.ref s2), .val (.ref s3), .val (.ref rx), .val (.ref z), .val (.int (1 : Int32)), .val (.int (23 : Int32))]) at_694 rfl (pc' := 696) rfl ?_
  refine Seg.iload at_696 rfl (pc' := 698) rfl ?_
  exact Seg.retN (t := .boolean) (w := (1 : Int32)) rfl (by decide) (by decide) at_698 (by decide) (by decide) rfl
set_option maxRecDepth 65536 in
set_option maxHeartbeats 4000000 in
theorem sgm122 {l : Launch} {Z : State} {a0 : Array Value} (G : Env1 Z a0) (p1 : Int32) (p2 : Int32) (p3 : Int32) (p4 : Int32) (t1 : Int32) (t2 : Int32) (i1 : Int32) (i2 : Int32) (o1 : Int32) (o2 : Int32) (h : Heap) (kt1 : okT t1) (kt2 : okT t2) (ki1 : okI i1) (ki2 : okI i2) (ko1 : okI o1) (ko2 : okI o2) (hI : ¬ (i1 = 46 ∧ ((2 : Int32) = 1 ∨ i2 = 46))) (hO : ¬ (o1 = 46 ∧ ((2 : Int32) = 1 ∨ o2 = 46))) :
    Seg l Z a0 EL1 x code maxLocals ret room_1 (fun v h => v = some (.int 1)) h 0 0 [] 123 #[.val (.int p1), .val (.int p2), .val (.int p3), .val (.int p4), .val (.int (1 : Int32)), .val (.int (2 : Int32)), .val (.int (2 : Int32)), .val (.int t1), .val (.int t2), .val (.int i1), .val (.int i2), .val (.int o1), .val (.int o2), .unset, .unset, .unset, .unset, .unset, .unset, .unset] [] := by
  have rt1 := (okI_r (okT_I kt1)).1
  have rt2 := (okI_r (okT_I kt2)).1
  have ri1 := (okI_r ki1).1
  have ri2 := (okI_r ki2).1
  have ro1 := (okI_r ko1).1
  have ro2 := (okI_r ko2).1
  refine Seg.iload at_123 rfl (pc' := 125) rfl ?_
  refine Seg.iload at_125 rfl (pc' := 127) rfl ?_
  refine Seg.iload at_127 rfl (pc' := 129) rfl ?_
  refine Seg.callS (y' := (⟨"com/example/kredential/kredential/ResourceToStringPinLaw", "make", "(ICC)Ljava/lang/String;"⟩ : MethodName)) (wd G 8 rfl) (wd G 9 rfl) (wd G 3 rfl) (wd G 10 rfl) ⟨by decide, by decide⟩ (Pays.of_ct (W := 0) (ct_mk1 G t1 t2 h rt1 rt2) all0 (wd G 10 rfl) (wd G 3 rfl) (by decide) (by decide) rfl rfl) (argsL := [(.int (1 : Int32)), (.int t1), (.int t2)]) (rest := []) rfl (lenOf pd_29 rfl) rfl (Nat.le_of_eq rfl) rfl at_129 (pc' := 132) rfl (k' := 2) (n' := 5) rfl rfl (by decide) (by decide) ?_
  intro v_1 h_4 sz_2 q_3
  obtain ⟨s1, rfl, E1, T1⟩ := q_3
  refine Seg.astore (L' := #[.val (.int p1), .val (.int p2), .val (.int p3), .val (.int p4), .val (.int (1 : Int32)), .val (.int (2 : Int32)), .val (.int (2 : Int32)), .val (.int t1), .val (.int t2), .val (.int i1), .val (.int i2), .val (.int o1), .val (.int o2), .val (.ref s1), .unset, .unset, .unset, .unset, .unset, .unset]) at_132 rfl rfl (pc' := 134) rfl ?_
  refine Seg.iload at_134 rfl (pc' := 136) rfl ?_
  refine Seg.iload at_136 rfl (pc' := 138) rfl ?_
  refine Seg.iload at_138 rfl (pc' := 140) rfl ?_
  refine Seg.callS (y' := (⟨"com/example/kredential/kredential/ResourceToStringPinLaw", "make", "(ICC)Ljava/lang/String;"⟩ : MethodName)) (wd G 8 rfl) (wd G 9 rfl) (wd G 3 rfl) (wd G 10 rfl) ⟨by decide, by decide⟩ (Pays.of_ct (W := 0) (ct_mk2 G i1 i2 h_4 ri1 ri2) all0 (wd G 10 rfl) (wd G 3 rfl) (by decide) (by decide) rfl rfl) (argsL := [(.int (2 : Int32)), (.int i1), (.int i2)]) (rest := []) rfl (lenOf pd_29 rfl) rfl (Nat.le_of_eq rfl) rfl at_140 (pc' := 143) rfl (k' := 5) (n' := 13) rfl rfl (by decide) (by decide) ?_
  intro v_5 h_8 sz_6 q_7
  obtain ⟨s2, rfl, E2, T2⟩ := q_7
  refine Seg.astore (L' := #[.val (.int p1), .val (.int p2), .val (.int p3), .val (.int p4), .val (.int (1 : Int32)), .val (.int (2 : Int32)), .val (.int (2 : Int32)), .val (.int t1), .val (.int t2), .val (.int i1), .val (.int i2), .val (.int o1), .val (.int o2), .val (.ref s1), .val (.ref s2), .unset, .unset, .unset, .unset, .unset]) at_143 rfl rfl (pc' := 145) rfl ?_
  refine Seg.iload at_145 rfl (pc' := 147) rfl ?_
  refine Seg.iload at_147 rfl (pc' := 149) rfl ?_
  refine Seg.iload at_149 rfl (pc' := 151) rfl ?_
  refine Seg.callS (y' := (⟨"com/example/kredential/kredential/ResourceToStringPinLaw", "make", "(ICC)Ljava/lang/String;"⟩ : MethodName)) (wd G 8 rfl) (wd G 9 rfl) (wd G 3 rfl) (wd G 10 rfl) ⟨by decide, by decide⟩ (Pays.of_ct (W := 0) (ct_mk2 G o1 o2 h_8 ro1 ro2) all0 (wd G 10 rfl) (wd G 3 rfl) (by decide) (by decide) rfl rfl) (argsL := [(.int (2 : Int32)), (.int o1), (.int o2)]) (rest := []) rfl (lenOf pd_29 rfl) rfl (Nat.le_of_eq rfl) rfl at_151 (pc' := 154) rfl (k' := 8) (n' := 21) rfl rfl (by decide) (by decide) ?_
  intro v_9 h_12 sz_10 q_11
  obtain ⟨s3, rfl, E3, T3⟩ := q_11
  refine Seg.astore (L' := #[.val (.int p1), .val (.int p2), .val (.int p3), .val (.int p4), .val (.int (1 : Int32)), .val (.int (2 : Int32)), .val (.int (2 : Int32)), .val (.int t1), .val (.int t2), .val (.int i1), .val (.int i2), .val (.int o1), .val (.int o2), .val (.ref s1), .val (.ref s2), .val (.ref s3), .unset, .unset, .unset, .unset]) at_154 rfl rfl (pc' := 156) rfl ?_
  refine Seg.newO (wd G 55 rfl) (wd G 56 rfl) (wd G 57 rfl) at_156 (pc' := 159) rfl (k' := 9) (n' := 24) rfl rfl (by decide) (by decide) ?_
  intro b_13 h_15 E_14 e_b_13 l_b_13 A_b_13 D_b_13
  have F_type_b_13 : Fld Z h_15 b_13 "com/example/kredential/kredential/Resource" "type" "Ljava/lang/String;" Value.null := D_b_13 (Or.inr (wd G 140 rfl)) (ty := (.object "java/lang/String")) (by decide)
  have F_id_b_13 : Fld Z h_15 b_13 "com/example/kredential/kredential/Resource" "id" "Ljava/lang/String;" Value.null := D_b_13 (Or.inr (wd G 142 rfl)) (ty := (.object "java/lang/String")) (by decide)
  have F_owner_b_13 : Fld Z h_15 b_13 "com/example/kredential/kredential/Resource" "owner" "Ljava/lang/String;" Value.null := D_b_13 (Or.inr (wd G 144 rfl)) (ty := (.object "java/lang/String")) (by decide)
  refine Seg.dup at_159 rfl (pc' := 160) rfl ?_
  refine Seg.aload at_160 rfl rfl (pc' := 162) rfl ?_
  refine Seg.aload at_162 rfl rfl (pc' := 164) rfl ?_
  refine Seg.aload at_164 rfl rfl (pc' := 166) rfl ?_
  have E_16 : Ext h_4 h_12 := ext_tr E2 E3
  have E_17 : Ext h_4 h_15 := ext_tr E_16 E_14
  have F_18 := T1.ext E_17
  have E_19 : Ext h_8 h_15 := ext_tr E3 E_14
  have F_20 := T2.ext E_19
  have F_21 := T3.ext E_14
  refine Seg.callN (y' := (⟨"com/example/kredential/kredential/Resource", "<init>", "(Ljava/lang/String;Ljava/lang/String;Ljava/lang/String;)V"⟩ : MethodName)) (a := b_13) rfl (wd G 58 rfl) (wd G 59 rfl) (wd G 60 rfl) ⟨by decide, by decide⟩ (Pays.of_ct (W := 1) (ct_rinit G b_13 s1 s2 s3 [t1] [i1, i2] [o1, o2] .null .null .null h_15 A_b_13 F_type_b_13 F_id_b_13 F_owner_b_13 F_18 F_20 F_21 ⟨(fun c hc => by simp only [List.mem_cons, List.not_mem_nil, or_false] at hc; rcases hc with rfl <;> assumption), (by decide : 0 < 1), (by decide : 1 ≤ 2)⟩ ⟨⟨(fun c hc => by simp only [List.mem_cons, List.not_mem_nil, or_false] at hc; rcases hc with rfl | rfl <;> assumption), (by decide : 0 < 2), (by decide : 2 ≤ 2)⟩, (fun q => nomatch (List.cons.inj q).2), (fun q => hI ⟨(List.cons.inj q).1, Or.inr (List.cons.inj (List.cons.inj q).2).1⟩)⟩ ⟨⟨(fun c hc => by simp only [List.mem_cons, List.not_mem_nil, or_false] at hc; rcases hc with rfl | rfl <;> assumption), (by decide : 0 < 2), (by decide : 2 ≤ 2)⟩, (fun q => nomatch (List.cons.inj q).2), (fun q => hO ⟨(List.cons.inj q).1, Or.inr (List.cons.inj (List.cons.inj q).2).1⟩)⟩) (allS (List.mem_of_getElem? (i := 0) rfl) all0) (wd G 60 rfl) (wd G 57 rfl) (by decide) (by decide) rfl rfl) (argsL := [(.ref s1), (.ref s2), (.ref s3)]) (rest := [(.ref b_13)]) rfl (lenOf pd_30 rfl) rfl (Nat.le_of_eq rfl) rfl at_166 (pc' := 169) rfl (k' := 21) (n' := 84) rfl rfl (by decide) (by decide) ?_
  intro v_22 h_25 sz_23 q_24
  obtain ⟨rfl, K1, G0, G1, G2⟩ := q_24
  refine Seg.astore (L' := #[.val (.int p1), .val (.int p2), .val (.int p3), .val (.int p4), .val (.int (1 : Int32)), .val (.int (2 : Int32)), .val (.int (2 : Int32)), .val (.int t1), .val (.int t2), .val (.int i1), .val (.int i2), .val (.int o1), .val (.int o2), .val (.ref s1), .val (.ref s2), .val (.ref s3), .val (.ref b_13), .unset, .unset, .unset]) at_169 rfl rfl (pc' := 171) rfl ?_
  refine Seg.aload at_171 rfl rfl (pc' := 173) rfl ?_
  have F_26 := (A_b_13.keep K1)
  have E_27 : Ext h_4 h_25 := ext_kp E_17 K1 (allS (Nat.le_trans E_16.1 (Nat.le_of_eq e_b_13)) all0)
  have F_28 := T1.ext E_27
  have E_29 : Ext h_8 h_25 := ext_kp E_19 K1 (allS (Nat.le_trans E3.1 (Nat.le_of_eq e_b_13)) all0)
  have F_30 := T2.ext E_29
  have E_31 : Ext h_12 h_25 := ext_kp E_14 K1 (allS (Nat.le_trans (ext_rfl _).1 (Nat.le_of_eq e_b_13)) all0)
  have F_32 := T3.ext E_31
  refine Seg.callV (y' := (⟨"com/example/kredential/kredential/Resource", "toString", "()Ljava/lang/String;"⟩ : MethodName)) (z := (⟨"com/example/kredential/kredential/Resource", "toString", "()Ljava/lang/String;"⟩ : MethodName)) (a := b_13) (wd G 145 rfl) (wd G 146 rfl) (nf_sel (wd G 148 rfl)) (wd G 148 rfl) (wd G 147 rfl) ⟨by decide, by decide⟩ F_26 (Pays.of_ct (W := 0) (ct_rts G b_13 s1 s2 s3 [t1] [i1, i2] [o1, o2] h_25 F_26 G0 G1 G2 F_28 F_30 F_32 (fun c hc => by simp only [List.mem_cons, List.not_mem_nil, or_false] at hc; rcases hc with rfl <;> assumption) (fun c hc => by simp only [List.mem_cons, List.not_mem_nil, or_false] at hc; rcases hc with rfl | rfl <;> assumption) (fun c hc => by simp only [List.mem_cons, List.not_mem_nil, or_false] at hc; rcases hc with rfl | rfl <;> assumption) (by decide : 1 ≤ 2) (by decide : 2 ≤ 2) (by decide : 2 ≤ 2)) all0 (wd G 149 rfl) (wd G 57 rfl) (by decide) (by decide) rfl rfl) (argsL := []) (rest := []) rfl (lenOf pd_22 rfl) rfl (Nat.le_of_eq rfl) rfl at_173 (pc' := 176) rfl (k' := 34) (n' := 334) rfl rfl (by decide) (by decide) ?_
  intro v_33 h_36 sz_34 q_35
  obtain ⟨z, rfl, E9, F9⟩ := q_35
  exact (sgt122 G p1 p2 p3 p4 t1 t2 i1 i2 o1 o2 s1 s2 s3 b_13 z h_36 F9 rt1 rt2 ri1 ri2 ro1 ro2).mono (by decide) (by decide) all0
set_option maxRecDepth 65536 in
set_option maxHeartbeats 4000000 in
theorem sgt211 {l : Launch} {Z : State} {a0 : Array Value} (G : Env1 Z a0) (p1 : Int32) (p2 : Int32) (p3 : Int32) (p4 : Int32) (t1 : Int32) (t2 : Int32) (i1 : Int32) (i2 : Int32) (o1 : Int32) (o2 : Int32) (s1 : Addr) (s2 : Addr) (s3 : Addr) (rx : Addr) (z : Addr) (h : Heap) (F : Str Z h z [82, 101, 115, 111, 117, 114, 99, 101, 91, t1, t2, 47, i1, 44, 32, 111, 119, 110, 101, 114, 32, o1, 93]) (rt1 : ¬ t1 < 0 ∧ ¬ (255 : Int32) < t1) (rt2 : ¬ t2 < 0 ∧ ¬ (255 : Int32) < t2) (ri1 : ¬ i1 < 0 ∧ ¬ (255 : Int32) < i1) (ri2 : ¬ i2 < 0 ∧ ¬ (255 : Int32) < i2) (ro1 : ¬ o1 < 0 ∧ ¬ (255 : Int32) < o1) (ro2 : ¬ o2 < 0 ∧ ¬ (255 : Int32) < o2) :
    Seg l Z a0 EL1 x code maxLocals ret room_1 (fun v h => v = some (.int 1)) h 50 6000 [] 176 #[.val (.int p1), .val (.int p2), .val (.int p3), .val (.int p4), .val (.int (2 : Int32)), .val (.int (1 : Int32)), .val (.int (1 : Int32)), .val (.int t1), .val (.int t2), .val (.int i1), .val (.int i2), .val (.int o1), .val (.int o2), .val (.ref s1), .val (.ref s2), .val (.ref s3), .val (.ref rx), .unset, .unset, .unset] [(.ref z)] := by
  have f1 := F.exa
  have hall : ∀ c ∈ [82, 101, 115, 111, 117, 114, 99, 101, 91, t1, t2, 47, i1, 44, 32, 111, 119, 110, 101, 114, 32, o1, 93], ¬ c < 0 ∧ ¬ (255 : Int32) < c := by
    intro c hc
    simp only [List.mem_cons, List.not_mem_nil, or_false] at hc
    rcases hc with rfl | rfl | rfl | rfl | rfl | rfl | rfl | rfl | rfl | rfl | rfl | rfl | rfl | rfl | rfl | rfl | rfl | rfl | rfl | rfl | rfl | rfl | rfl <;> first | assumption | decide
  refine Seg.astore (L' := #[.val (.int p1), .val (.int p2), .val (.int p3), .val (.int p4), .val (.int (2 : Int32)), .val (.int (1 : Int32)), .val (.int (1 : Int32)), .val (.int t1), .val (.int t2), .val (.int i1), .val (.int i2), .val (.int o1), .val (.int o2), .val (.ref s1), .val (.ref s2), .val (.ref s3), .val (.ref rx), .val (.ref z), .unset, .unset]) at_176 rfl rfl (pc' := 178) rfl ?_
  refine Seg.aload at_178 rfl rfl (pc' := 180) rfl ?_
  refine Seg.callV (y' := (⟨"java/lang/String", "length", "()I"⟩ : MethodName)) (z := (⟨"java/lang/String", "length", "()I"⟩ : MethodName)) (a := z) (wd G 272 rfl) (wd G 79 rfl) (nf_sel (wd G 81 rfl)) (wd G 81 rfl) (wd G 80 rfl) ⟨by decide, by decide⟩ f1 ((pays_len (W := 0) G h F (by decide) (by decide)).post (Q' := fun v h' => v = some (.int 23) ∧ h = h') fun v h' q => ⟨q.1, q.2⟩) (argsL := []) (rest := []) rfl (lenOf pd_0 rfl) rfl (Nat.le_of_eq rfl) rfl at_180 (pc' := 183) rfl (k' := 50) (n' := 6000) rfl rfl (by decide) (by decide) ?_
  intro v_1 h_4 sz_2 q_3
  obtain ⟨rfl, rfl⟩ := q_3
  refine Seg.bipush (v := 19) at_183 (by decide) (pc' := 185) rfl ?_
  refine Seg.iload at_185 rfl (pc' := 187) rfl ?_
  refine Seg.iadd (v := (21 : Int32)) at_187 (by decide) (pc' := 188) rfl ?_
  refine Seg.iload at_188 rfl (pc' := 190) rfl ?_
  refine Seg.iadd (v := (22 : Int32)) at_190 (by decide) (pc' := 191) rfl ?_
  refine Seg.iload at_191 rfl (pc' := 193) rfl ?_
  refine Seg.iadd (v := (23 : Int32)) at_193 (by decide) (pc' := 194) rfl ?_
  refine Seg.icN at_194 (by decide) (pc' := 197) rfl ?_
  refine Seg.iconst (v := 1) at_197 (by decide) (pc' := 198) rfl ?_
  refine Seg.goto (pc' := 202) at_198 (by decide) (by decide) ?_
  refine Seg.istore (L' := #[.val (.int p1), .val (.int p2), .val (.int p3), .val (.int p4), .val (.int (2 : Int32)), .val (.int (1 : Int32)), .val (.int (1 : Int32)), .val (.int t1), .val (.int t2), .val (.int i1), .val (.int i2), .val (.int o1), .val (.int o2), .val (.ref s1), .val (.ref s2), .val (.ref s3), .val (.ref rx), .val (.ref z), .val (.int (1 : Int32)), .unset]) at_202 rfl (pc' := 204) rfl ?_
  refine Seg.iload at_204 rfl (pc' := 206) rfl ?_
  refine Seg.ifN at_206 (by decide) (pc' := 209) rfl ?_
  refine Seg.aload at_209 rfl rfl (pc' := 211) rfl ?_
  refine Seg.iconst (v := 0) at_211 (by decide) (pc' := 212) rfl ?_
  refine Seg.bipush (v := 82) at_212 (by decide) (pc' := 214) rfl ?_
  refine Seg.callS (y' := (⟨"com/example/kredential/kredential/ResourceToStringPinLaw", "at", "(Ljava/lang/String;IC)Z"⟩ : MethodName)) (wd G 273 rfl) (wd G 274 rfl) (wd G 3 rfl) (wd G 275 rfl) ⟨by decide, by decide⟩ (Pays.of_ct (W := 0) (ct_at G z [82, 101, 115, 111, 117, 114, 99, 101, 91, t1, t2, 47, i1, 44, 32, 111, 119, 110, 101, 114, 32, o1, 93] 0 (82 : Int32) h F hall (by decide : 0 < 23) rfl) all0 (wd G 275 rfl) (wd G 3 rfl) (by decide) (by decide) rfl rfl) (argsL := [(.ref z), (.int (0 : Int32)), (.int (82 : Int32))]) (rest := []) rfl (lenOf pd_28 rfl) rfl (Nat.le_of_eq rfl) rfl at_214 (pc' := 217) rfl (k' := 50) (n' := 6000) rfl rfl (by decide) (by decide) ?_
  intro v_5 h_8 sz_6 q_7
  obtain ⟨rfl, rfl⟩ := q_7
  refine Seg.ifN at_217 (by decide) (pc' := 220) rfl ?_
  refine Seg.aload at_220 rfl rfl (pc' := 222) rfl ?_
  refine Seg.iconst (v := 1) at_222 (by decide) (pc' := 223) rfl ?_
  refine Seg.bipush (v := 101) at_223 (by decide) (pc' := 225) rfl ?_
  refine Seg.callS (y' := (⟨"com/example/kredential/kredential/ResourceToStringPinLaw", "at", "(Ljava/lang/String;IC)Z"⟩ : MethodName)) (wd G 273 rfl) (wd G 274 rfl) (wd G 3 rfl) (wd G 275 rfl) ⟨by decide, by decide⟩ (Pays.of_ct (W := 0) (ct_at G z [82, 101, 115, 111, 117, 114, 99, 101, 91, t1, t2, 47, i1, 44, 32, 111, 119, 110, 101, 114, 32, o1, 93] 1 (101 : Int32) h F hall (by decide : 1 < 23) rfl) all0 (wd G 275 rfl) (wd G 3 rfl) (by decide) (by decide) rfl rfl) (argsL := [(.ref z), (.int (1 : Int32)), (.int (101 : Int32))]) (rest := []) rfl (lenOf pd_28 rfl) rfl (Nat.le_of_eq rfl) rfl at_225 (pc' := 228) rfl (k' := 50) (n' := 6000) rfl rfl (by decide) (by decide) ?_
  intro v_9 h_12 sz_10 q_11
  obtain ⟨rfl, rfl⟩ := q_11
  refine Seg.ifN at_228 (by decide) (pc' := 231) rfl ?_
  refine Seg.aload at_231 rfl rfl (pc' := 233) rfl ?_
  refine Seg.iconst (v := 2) at_233 (by decide) (pc' := 234) rfl ?_
  refine Seg.bipush (v := 115) at_234 (by decide) (pc' := 236) rfl ?_
  refine Seg.callS (y' := (⟨"com/example/kredential/kredential/ResourceToStringPinLaw", "at", "(Ljava/lang/String;IC)Z"⟩ : MethodName)) (wd G 273 rfl) (wd G 274 rfl) (wd G 3 rfl) (wd G 275 rfl) ⟨by decide, by decide⟩ (Pays.of_ct (W := 0) (ct_at G z [82, 101, 115, 111, 117, 114, 99, 101, 91, t1, t2, 47, i1, 44, 32, 111, 119, 110, 101, 114, 32, o1, 93] 2 (115 : Int32) h F hall (by decide : 2 < 23) rfl) all0 (wd G 275 rfl) (wd G 3 rfl) (by decide) (by decide) rfl rfl) (argsL := [(.ref z), (.int (2 : Int32)), (.int (115 : Int32))]) (rest := []) rfl (lenOf pd_28 rfl) rfl (Nat.le_of_eq rfl) rfl at_236 (pc' := 239) rfl (k' := 50) (n' := 6000) rfl rfl (by decide) (by decide) ?_
  intro v_13 h_16 sz_14 q_15
  obtain ⟨rfl, rfl⟩ := q_15
  refine Seg.ifN at_239 (by decide) (pc' := 242) rfl ?_
  refine Seg.aload at_242 rfl rfl (pc' := 244) rfl ?_
  refine Seg.iconst (v := 3) at_244 (by decide) (pc' := 245) rfl ?_
  refine Seg.bipush (v := 111) at_245 (by decide) (pc' := 247) rfl ?_
  refine Seg.callS (y' := (⟨"com/example/kredential/kredential/ResourceToStringPinLaw", "at", "(Ljava/lang/String;IC)Z"⟩ : MethodName)) (wd G 273 rfl) (wd G 274 rfl) (wd G 3 rfl) (wd G 275 rfl) ⟨by decide, by decide⟩ (Pays.of_ct (W := 0) (ct_at G z [82, 101, 115, 111, 117, 114, 99, 101, 91, t1, t2, 47, i1, 44, 32, 111, 119, 110, 101, 114, 32, o1, 93] 3 (111 : Int32) h F hall (by decide : 3 < 23) rfl) all0 (wd G 275 rfl) (wd G 3 rfl) (by decide) (by decide) rfl rfl) (argsL := [(.ref z), (.int (3 : Int32)), (.int (111 : Int32))]) (rest := []) rfl (lenOf pd_28 rfl) rfl (Nat.le_of_eq rfl) rfl at_247 (pc' := 250) rfl (k' := 50) (n' := 6000) rfl rfl (by decide) (by decide) ?_
  intro v_17 h_20 sz_18 q_19
  obtain ⟨rfl, rfl⟩ := q_19
  refine Seg.ifN at_250 (by decide) (pc' := 253) rfl ?_
  refine Seg.aload at_253 rfl rfl (pc' := 255) rfl ?_
  refine Seg.iconst (v := 4) at_255 (by decide) (pc' := 256) rfl ?_
  refine Seg.bipush (v := 117) at_256 (by decide) (pc' := 258) rfl ?_
  refine Seg.callS (y' := (⟨"com/example/kredential/kredential/ResourceToStringPinLaw", "at", "(Ljava/lang/String;IC)Z"⟩ : MethodName)) (wd G 273 rfl) (wd G 274 rfl) (wd G 3 rfl) (wd G 275 rfl) ⟨by decide, by decide⟩ (Pays.of_ct (W := 0) (ct_at G z [82, 101, 115, 111, 117, 114, 99, 101, 91, t1, t2, 47, i1, 44, 32, 111, 119, 110, 101, 114, 32, o1, 93] 4 (117 : Int32) h F hall (by decide : 4 < 23) rfl) all0 (wd G 275 rfl) (wd G 3 rfl) (by decide) (by decide) rfl rfl) (argsL := [(.ref z), (.int (4 : Int32)), (.int (117 : Int32))]) (rest := []) rfl (lenOf pd_28 rfl) rfl (Nat.le_of_eq rfl) rfl at_258 (pc' := 261) rfl (k' := 50) (n' := 6000) rfl rfl (by decide) (by decide) ?_
  intro v_21 h_24 sz_22 q_23
  obtain ⟨rfl, rfl⟩ := q_23
  refine Seg.ifN at_261 (by decide) (pc' := 264) rfl ?_
  refine Seg.aload at_264 rfl rfl (pc' := 266) rfl ?_
  refine Seg.iconst (v := 5) at_266 (by decide) (pc' := 267) rfl ?_
  refine Seg.bipush (v := 114) at_267 (by decide) (pc' := 269) rfl ?_
  refine Seg.callS (y' := (⟨"com/example/kredential/kredential/ResourceToStringPinLaw", "at", "(Ljava/lang/String;IC)Z"⟩ : MethodName)) (wd G 273 rfl) (wd G 274 rfl) (wd G 3 rfl) (wd G 275 rfl) ⟨by decide, by decide⟩ (Pays.of_ct (W := 0) (ct_at G z [82, 101, 115, 111, 117, 114, 99, 101, 91, t1, t2, 47, i1, 44, 32, 111, 119, 110, 101, 114, 32, o1, 93] 5 (114 : Int32) h F hall (by decide : 5 < 23) rfl) all0 (wd G 275 rfl) (wd G 3 rfl) (by decide) (by decide) rfl rfl) (argsL := [(.ref z), (.int (5 : Int32)), (.int (114 : Int32))]) (rest := []) rfl (lenOf pd_28 rfl) rfl (Nat.le_of_eq rfl) rfl at_269 (pc' := 272) rfl (k' := 50) (n' := 6000) rfl rfl (by decide) (by decide) ?_
  intro v_25 h_28 sz_26 q_27
  obtain ⟨rfl, rfl⟩ := q_27
  refine Seg.ifN at_272 (by decide) (pc' := 275) rfl ?_
  refine Seg.aload at_275 rfl rfl (pc' := 277) rfl ?_
  refine Seg.bipush (v := 6) at_277 (by decide) (pc' := 279) rfl ?_
  refine Seg.bipush (v := 99) at_279 (by decide) (pc' := 281) rfl ?_
  refine Seg.callS (y' := (⟨"com/example/kredential/kredential/ResourceToStringPinLaw", "at", "(Ljava/lang/String;IC)Z"⟩ : MethodName)) (wd G 273 rfl) (wd G 274 rfl) (wd G 3 rfl) (wd G 275 rfl) ⟨by decide, by decide⟩ (Pays.of_ct (W := 0) (ct_at G z [82, 101, 115, 111, 117, 114, 99, 101, 91, t1, t2, 47, i1, 44, 32, 111, 119, 110, 101, 114, 32, o1, 93] 6 (99 : Int32) h F hall (by decide : 6 < 23) rfl) all0 (wd G 275 rfl) (wd G 3 rfl) (by decide) (by decide) rfl rfl) (argsL := [(.ref z), (.int (6 : Int32)), (.int (99 : Int32))]) (rest := []) rfl (lenOf pd_28 rfl) rfl (Nat.le_of_eq rfl) rfl at_281 (pc' := 284) rfl (k' := 50) (n' := 6000) rfl rfl (by decide) (by decide) ?_
  intro v_29 h_32 sz_30 q_31
  obtain ⟨rfl, rfl⟩ := q_31
  refine Seg.ifN at_284 (by decide) (pc' := 287) rfl ?_
  refine Seg.aload at_287 rfl rfl (pc' := 289) rfl ?_
  refine Seg.bipush (v := 7) at_289 (by decide) (pc' := 291) rfl ?_
  refine Seg.bipush (v := 101) at_291 (by decide) (pc' := 293) rfl ?_
  refine Seg.callS (y' := (⟨"com/example/kredential/kredential/ResourceToStringPinLaw", "at", "(Ljava/lang/String;IC)Z"⟩ : MethodName)) (wd G 273 rfl) (wd G 274 rfl) (wd G 3 rfl) (wd G 275 rfl) ⟨by decide, by decide⟩ (Pays.of_ct (W := 0) (ct_at G z [82, 101, 115, 111, 117, 114, 99, 101, 91, t1, t2, 47, i1, 44, 32, 111, 119, 110, 101, 114, 32, o1, 93] 7 (101 : Int32) h F hall (by decide : 7 < 23) rfl) all0 (wd G 275 rfl) (wd G 3 rfl) (by decide) (by decide) rfl rfl) (argsL := [(.ref z), (.int (7 : Int32)), (.int (101 : Int32))]) (rest := []) rfl (lenOf pd_28 rfl) rfl (Nat.le_of_eq rfl) rfl at_293 (pc' := 296) rfl (k' := 50) (n' := 6000) rfl rfl (by decide) (by decide) ?_
  intro v_33 h_36 sz_34 q_35
  obtain ⟨rfl, rfl⟩ := q_35
  refine Seg.ifN at_296 (by decide) (pc' := 299) rfl ?_
  refine Seg.aload at_299 rfl rfl (pc' := 301) rfl ?_
  refine Seg.bipush (v := 8) at_301 (by decide) (pc' := 303) rfl ?_
  refine Seg.bipush (v := 91) at_303 (by decide) (pc' := 305) rfl ?_
  refine Seg.callS (y' := (⟨"com/example/kredential/kredential/ResourceToStringPinLaw", "at", "(Ljava/lang/String;IC)Z"⟩ : MethodName)) (wd G 273 rfl) (wd G 274 rfl) (wd G 3 rfl) (wd G 275 rfl) ⟨by decide, by decide⟩ (Pays.of_ct (W := 0) (ct_at G z [82, 101, 115, 111, 117, 114, 99, 101, 91, t1, t2, 47, i1, 44, 32, 111, 119, 110, 101, 114, 32, o1, 93] 8 (91 : Int32) h F hall (by decide : 8 < 23) rfl) all0 (wd G 275 rfl) (wd G 3 rfl) (by decide) (by decide) rfl rfl) (argsL := [(.ref z), (.int (8 : Int32)), (.int (91 : Int32))]) (rest := []) rfl (lenOf pd_28 rfl) rfl (Nat.le_of_eq rfl) rfl at_305 (pc' := 308) rfl (k' := 50) (n' := 6000) rfl rfl (by decide) (by decide) ?_
  intro v_37 h_40 sz_38 q_39
  obtain ⟨rfl, rfl⟩ := q_39
  refine Seg.ifN at_308 (by decide) (pc' := 311) rfl ?_
  refine Seg.iconst (v := 1) at_311 (by decide) (pc' := 312) rfl ?_
  refine Seg.goto (pc' := 316) at_312 (by decide) (by decide) ?_
  refine Seg.istore (L' := #[.val (.int p1), .val (.int p2), .val (.int p3), .val (.int p4), .val (.int (2 : Int32)), .val (.int (1 : Int32)), .val (.int (1 : Int32)), .val (.int t1), .val (.int t2), .val (.int i1), .val (.int i2), .val (.int o1), .val (.int o2), .val (.ref s1), .val (.ref s2), .val (.ref s3), .val (.ref rx), .val (.ref z), .val (.int (1 : Int32)), .unset]) at_316 rfl (pc' := 318) rfl ?_
  refine Seg.bipush (v := 9) at_318 (by decide) (pc' := 320) rfl ?_
  refine Seg.istore (L' := #[.val (.int p1), .val (.int p2), .val (.int p3), .val (.int p4), .val (.int (2 : Int32)), .val (.int (1 : Int32)), .val (.int (1 : Int32)), .val (.int t1), .val (.int t2), .val (.int i1), .val (.int i2), .val (.int o1), .val (.int o2), .val (.ref s1), .val (.ref s2), .val (.ref s3), .val (.ref rx), .val (.ref z), .val (.int (1 : Int32)), .val (.int (9 : Int32))]) at_320 rfl (pc' := 322) rfl ?_
  refine Seg.iload at_322 rfl (pc' := 324) rfl ?_
  refine Seg.ifN at_324 (by decide) (pc' := 327) rfl ?_
  refine Seg.aload at_327 rfl rfl (pc' := 329) rfl ?_
  refine Seg.iload at_329 rfl (pc' := 331) rfl ?_
  refine Seg.iload at_331 rfl (pc' := 333) rfl ?_
  refine Seg.callS (y' := (⟨"com/example/kredential/kredential/ResourceToStringPinLaw", "at", "(Ljava/lang/String;IC)Z"⟩ : MethodName)) (wd G 273 rfl) (wd G 274 rfl) (wd G 3 rfl) (wd G 275 rfl) ⟨by decide, by decide⟩ (Pays.of_ct (W := 0) (ct_at G z [82, 101, 115, 111, 117, 114, 99, 101, 91, t1, t2, 47, i1, 44, 32, 111, 119, 110, 101, 114, 32, o1, 93] 9 t1 h F hall (by decide : 9 < 23) rfl) all0 (wd G 275 rfl) (wd G 3 rfl) (by decide) (by decide) rfl rfl) (argsL := [(.ref z), (.int (9 : Int32)), (.int t1)]) (rest := []) rfl (lenOf pd_28 rfl) rfl (Nat.le_of_eq rfl) rfl at_333 (pc' := 336) rfl (k' := 50) (n' := 6000) rfl rfl (by decide) (by decide) ?_
  intro v_41 h_44 sz_42 q_43
  obtain ⟨rfl, rfl⟩ := q_43
  refine Seg.ifN at_336 (by decide) (pc' := 339) rfl ?_
  refine Seg.iconst (v := 1) at_339 (by decide) (pc' := 340) rfl ?_
  refine Seg.goto (pc' := 344) at_340 (by decide) (by decide) ?_
  refine Seg.istore (L' := #[.val (.int p1), .val (.int p2), .val (.int p3), .val (.int p4), .val (.int (2 : Int32)), .val (.int (1 : Int32)), .val (.int (1 : Int32)), .val (.int t1), .val (.int t2), .val (.int i1), .val (.int i2), .val (.int o1), .val (.int o2), .val (.ref s1), .val (.ref s2), .val (.ref s3), .val (.ref rx), .val (.ref z), .val (.int (1 : Int32)), .val (.int (9 : Int32))]) at_344 rfl (pc' := 346) rfl ?_
  refine Seg.iload at_346 rfl (pc' := 348) rfl ?_
  refine Seg.iconst (v := 2) at_348 (by decide) (pc' := 349) rfl ?_
  refine Seg.icN at_349 (by decide) (pc' := 352) rfl ?_
  refine Seg.iload at_352 rfl (pc' := 354) rfl ?_
  refine Seg.ifN at_354 (by decide) (pc' := 357) rfl ?_
  refine Seg.aload at_357 rfl rfl (pc' := 359) rfl ?_
  refine Seg.iload at_359 rfl (pc' := 361) rfl ?_
  refine Seg.iconst (v := 1) at_361 (by decide) (pc' := 362) rfl ?_
  refine Seg.iadd (v := (10 : Int32)) at_362 (by decide) (pc' := 363) rfl ?_
  refine Seg.iload at_363 rfl (pc' := 365) rfl ?_
  refine Seg.callS (y' := (⟨"com/example/kredential/kredential/ResourceToStringPinLaw", "at", "(Ljava/lang/String;IC)Z"⟩ : MethodName)) (wd G 273 rfl) (wd G 274 rfl) (wd G 3 rfl) (wd G 275 rfl) ⟨by decide, by decide⟩ (Pays.of_ct (W := 0) (ct_at G z [82, 101, 115, 111, 117, 114, 99, 101, 91, t1, t2, 47, i1, 44, 32, 111, 119, 110, 101, 114, 32, o1, 93] 10 t2 h F hall (by decide : 10 < 23) rfl) all0 (wd G 275 rfl) (wd G 3 rfl) (by decide) (by decide) rfl rfl) (argsL := [(.ref z), (.int (10 : Int32)), (.int t2)]) (rest := []) rfl (lenOf pd_28 rfl) rfl (Nat.le_of_eq rfl) rfl at_365 (pc' := 368) rfl (k' := 50) (n' := 6000) rfl rfl (by decide) (by decide) ?_
  intro v_45 h_48 sz_46 q_47
  obtain ⟨rfl, rfl⟩ := q_47
  refine Seg.ifN at_368 (by decide) (pc' := 371) rfl ?_
  refine Seg.iconst (v := 1) at_371 (by decide) (pc' := 372) rfl ?_
  refine Seg.goto (pc' := 376) at_372 (by decide) (by decide) ?_
  refine Seg.istore (L' := #[.val (.int p1), .val (.int p2), .val (.int p3), .val (.int p4), .val (.int (2 : Int32)), .val (.int (1 : Int32)), .val (.int (1 : Int32)), .val (.int t1), .val (.int t2), .val (.int i1), .val (.int i2), .val (.int o1), .val (.int o2), .val (.ref s1), .val (.ref s2), .val (.ref s3), .val (.ref rx), .val (.ref z), .val (.int (1 : Int32)), .val (.int (9 : Int32))]) at_376 rfl (pc' := 378) rfl ?_
  refine Seg.iload at_378 rfl (pc' := 380) rfl ?_
  refine Seg.iload at_380 rfl (pc' := 382) rfl ?_
  refine Seg.iadd (v := (11 : Int32)) at_382 (by decide) (pc' := 383) rfl ?_
  refine Seg.istore (L' := #[.val (.int p1), .val (.int p2), .val (.int p3), .val (.int p4), .val (.int (2 : Int32)), .val (.int (1 : Int32)), .val (.int (1 : Int32)), .val (.int t1), .val (.int t2), .val (.int i1), .val (.int i2), .val (.int o1), .val (.int o2), .val (.ref s1), .val (.ref s2), .val (.ref s3), .val (.ref rx), .val (.ref z), .val (.int (1 : Int32)), .val (.int (11 : Int32))]) at_383 rfl (pc' := 385) rfl ?_
  refine Seg.iload at_385 rfl (pc' := 387) rfl ?_
  refine Seg.ifN at_387 (by decide) (pc' := 390) rfl ?_
  refine Seg.aload at_390 rfl rfl (pc' := 392) rfl ?_
  refine Seg.iload at_392 rfl (pc' := 394) rfl ?_
  refine Seg.bipush (v := 47) at_394 (by decide) (pc' := 396) rfl ?_
  refine Seg.callS (y' := (⟨"com/example/kredential/kredential/ResourceToStringPinLaw", "at", "(Ljava/lang/String;IC)Z"⟩ : MethodName)) (wd G 273 rfl) (wd G 274 rfl) (wd G 3 rfl) (wd G 275 rfl) ⟨by decide, by decide⟩ (Pays.of_ct (W := 0) (ct_at G z [82, 101, 115, 111, 117, 114, 99, 101, 91, t1, t2, 47, i1, 44, 32, 111, 119, 110, 101, 114, 32, o1, 93] 11 (47 : Int32) h F hall (by decide : 11 < 23) rfl) all0 (wd G 275 rfl) (wd G 3 rfl) (by decide) (by decide) rfl rfl) (argsL := [(.ref z), (.int (11 : Int32)), (.int (47 : Int32))]) (rest := []) rfl (lenOf pd_28 rfl) rfl (Nat.le_of_eq rfl) rfl at_396 (pc' := 399) rfl (k' := 50) (n' := 6000) rfl rfl (by decide) (by decide) ?_
  intro v_49 h_52 sz_50 q_51
  obtain ⟨rfl, rfl⟩ := q_51
  refine Seg.ifN at_399 (by decide) (pc' := 402) rfl ?_
  refine Seg.iconst (v := 1) at_402 (by decide) (pc' := 403) rfl ?_
  refine Seg.goto (pc' := 407) at_403 (by decide) (by decide) ?_
  refine Seg.istore (L' := #[.val (.int p1), .val (.int p2), .val (.int p3), .val (.int p4), .val (.int (2 : Int32)), .val (.int (1 : Int32)), .val (.int (1 : Int32)), .val (.int t1), .val (.int t2), .val (.int i1), .val (.int i2), .val (.int o1), .val (.int o2), .val (.ref s1), .val (.ref s2), .val (.ref s3), .val (.ref rx), .val (.ref z), .val (.int (1 : Int32)), .val (.int (11 : Int32))]) at_407 rfl (pc' := 409) rfl ?_
  refine Seg.iload at_409 rfl (pc' := 411) rfl ?_
  refine Seg.iconst (v := 1) at_411 (by decide) (pc' := 412) rfl ?_
  refine Seg.iadd (v := (12 : Int32)) at_412 (by decide) (pc' := 413) rfl ?_
  refine Seg.istore (L' := #[.val (.int p1), .val (.int p2), .val (.int p3), .val (.int p4), .val (.int (2 : Int32)), .val (.int (1 : Int32)), .val (.int (1 : Int32)), .val (.int t1), .val (.int t2), .val (.int i1), .val (.int i2), .val (.int o1), .val (.int o2), .val (.ref s1), .val (.ref s2), .val (.ref s3), .val (.ref rx), .val (.ref z), .val (.int (1 : Int32)), .val (.int (12 : Int32))]) at_413 rfl (pc' := 415) rfl ?_
  refine Seg.iload at_415 rfl (pc' := 417) rfl ?_
  refine Seg.ifN at_417 (by decide) (pc' := 420) rfl ?_
  refine Seg.aload at_420 rfl rfl (pc' := 422) rfl ?_
  refine Seg.iload at_422 rfl (pc' := 424) rfl ?_
  refine Seg.iload at_424 rfl (pc' := 426) rfl ?_
  refine Seg.callS (y' := (⟨"com/example/kredential/kredential/ResourceToStringPinLaw", "at", "(Ljava/lang/String;IC)Z"⟩ : MethodName)) (wd G 273 rfl) (wd G 274 rfl) (wd G 3 rfl) (wd G 275 rfl) ⟨by decide, by decide⟩ (Pays.of_ct (W := 0) (ct_at G z [82, 101, 115, 111, 117, 114, 99, 101, 91, t1, t2, 47, i1, 44, 32, 111, 119, 110, 101, 114, 32, o1, 93] 12 i1 h F hall (by decide : 12 < 23) rfl) all0 (wd G 275 rfl) (wd G 3 rfl) (by decide) (by decide) rfl rfl) (argsL := [(.ref z), (.int (12 : Int32)), (.int i1)]) (rest := []) rfl (lenOf pd_28 rfl) rfl (Nat.le_of_eq rfl) rfl at_426 (pc' := 429) rfl (k' := 50) (n' := 6000) rfl rfl (by decide) (by decide) ?_
  intro v_53 h_56 sz_54 q_55
  obtain ⟨rfl, rfl⟩ := q_55
  refine Seg.ifN at_429 (by decide) (pc' := 432) rfl ?_
  refine Seg.iconst (v := 1) at_432 (by decide) (pc' := 433) rfl ?_
  refine Seg.goto (pc' := 437) at_433 (by decide) (by decide) ?_
  refine Seg.istore (L' := #[.val (.int p1), .val (.int p2), .val (.int p3), .val (.int p4), .val (.int (2 : Int32)), .val (.int (1 : Int32)), .val (.int (1 : Int32)), .val (.int t1), .val (.int t2), .val (.int i1), .val (.int i2), .val (.int o1), .val (.int o2), .val (.ref s1), .val (.ref s2), .val (.ref s3), .val (.ref rx), .val (.ref z), .val (.int (1 : Int32)), .val (.int (12 : Int32))]) at_437 rfl (pc' := 439) rfl ?_
  refine Seg.iload at_439 rfl (pc' := 441) rfl ?_
  refine Seg.iconst (v := 2) at_441 (by decide) (pc' := 442) rfl ?_
  refine Seg.icY (pc' := 471) at_442 (by decide) (by decide) (by decide) ?_
  refine Seg.iload at_471 rfl (pc' := 473) rfl ?_
  refine Seg.iload at_473 rfl (pc' := 475) rfl ?_
  refine Seg.iadd (v := (13 : Int32)) at_475 (by decide) (pc' := 476) rfl ?_
  refine Seg.istore (L' := #[.val (.int p1), .val (.int p2), .val (.int p3), .val (.int p4), .val (.int (2 : Int32)), .val (.int (1 : Int32)), .val (.int (1 : Int32)), .val (.int t1), .val (.int t2), .val (.int i1), .val (.int i2), .val (.int o1), .val (.int o2), .val (.ref s1), .val (.ref s2), .val (.ref s3), .val (.ref rx), .val (.ref z), .val (.int (1 : Int32)), .val (.int (13 : Int32))]) at_476 rfl (pc' := 478) rfl ?_
  refine Seg.iload at_478 rfl (pc' := 480) rfl ?_
  refine Seg.ifN at_480 (by decide) (pc' := 483) rfl ?_
  refine Seg.aload at_483 rfl rfl (pc' := 485) rfl ?_
  refine Seg.iload at_485 rfl (pc' := 487) rfl ?_
  refine Seg.bipush (v := 44) at_487 (by decide) (pc' := 489) rfl ?_
  refine Seg.callS (y' := (⟨"com/example/kredential/kredential/ResourceToStringPinLaw", "at", "(Ljava/lang/String;IC)Z"⟩ : MethodName)) (wd G 273 rfl) (wd G 274 rfl) (wd G 3 rfl) (wd G 275 rfl) ⟨by decide, by decide⟩ (Pays.of_ct (W := 0) (ct_at G z [82, 101, 115, 111, 117, 114, 99, 101, 91, t1, t2, 47, i1, 44, 32, 111, 119, 110, 101, 114, 32, o1, 93] 13 (44 : Int32) h F hall (by decide : 13 < 23) rfl) all0 (wd G 275 rfl) (wd G 3 rfl) (by decide) (by decide) rfl rfl) (argsL := [(.ref z), (.int (13 : Int32)), (.int (44 : Int32))]) (rest := []) rfl (lenOf pd_28 rfl) rfl (Nat.le_of_eq rfl) rfl at_489 (pc' := 492) rfl (k' := 50) (n' := 6000) rfl rfl (by decide) (by decide) ?_
  intro v_57 h_60 sz_58 q_59
  obtain ⟨rfl, rfl⟩ := q_59
  refine Seg.ifN at_492 (by decide) (pc' := 495) rfl ?_
  refine Seg.aload at_495 rfl rfl (pc' := 497) rfl ?_
  refine Seg.iload at_497 rfl (pc' := 499) rfl ?_
  refine Seg.iconst (v := 1) at_499 (by decide) (pc' := 500) rfl ?_
  refine Seg.iadd (v := (14 : Int32)) at_500 (by decide) (pc' := 501) rfl ?_
  refine Seg.bipush (v := 32) at_501 (by decide) (pc' := 503) rfl ?_
  refine Seg.callS (y' := (⟨"com/example/kredential/kredential/ResourceToStringPinLaw", "at", "(Ljava/lang/String;IC)Z"⟩ : MethodName)) (wd G 273 rfl) (wd G 274 rfl) (wd G 3 rfl) (wd G 275 rfl) ⟨by decide, by decide⟩ (Pays.of_ct (W := 0) (ct_at G z [82, 101, 115, 111, 117, 114, 99, 101, 91, t1, t2, 47, i1, 44, 32, 111, 119, 110, 101, 114, 32, o1, 93] 14 (32 : Int32) h F hall (by decide : 14 < 23) rfl) all0 (wd G 275 rfl) (wd G 3 rfl) (by decide) (by decide) rfl rfl) (argsL := [(.ref z), (.int (14 : Int32)), (.int (32 : Int32))]) (rest := []) rfl (lenOf pd_28 rfl) rfl (Nat.le_of_eq rfl) rfl at_503 (pc' := 506) rfl (k' := 50) (n' := 6000) rfl rfl (by decide) (by decide) ?_
  intro v_61 h_64 sz_62 q_63
  obtain ⟨rfl, rfl⟩ := q_63
  refine Seg.ifN at_506 (by decide) (pc' := 509) rfl ?_
  refine Seg.aload at_509 rfl rfl (pc' := 511) rfl ?_
  refine Seg.iload at_511 rfl (pc' := 513) rfl ?_
  refine Seg.iconst (v := 2) at_513 (by decide) (pc' := 514) rfl ?_
  refine Seg.iadd (v := (15 : Int32)) at_514 (by decide) (pc' := 515) rfl ?_
  refine Seg.bipush (v := 111) at_515 (by decide) (pc' := 517) rfl ?_
  refine Seg.callS (y' := (⟨"com/example/kredential/kredential/ResourceToStringPinLaw", "at", "(Ljava/lang/String;IC)Z"⟩ : MethodName)) (wd G 273 rfl) (wd G 274 rfl) (wd G 3 rfl) (wd G 275 rfl) ⟨by decide, by decide⟩ (Pays.of_ct (W := 0) (ct_at G z [82, 101, 115, 111, 117, 114, 99, 101, 91, t1, t2, 47, i1, 44, 32, 111, 119, 110, 101, 114, 32, o1, 93] 15 (111 : Int32) h F hall (by decide : 15 < 23) rfl) all0 (wd G 275 rfl) (wd G 3 rfl) (by decide) (by decide) rfl rfl) (argsL := [(.ref z), (.int (15 : Int32)), (.int (111 : Int32))]) (rest := []) rfl (lenOf pd_28 rfl) rfl (Nat.le_of_eq rfl) rfl at_517 (pc' := 520) rfl (k' := 50) (n' := 6000) rfl rfl (by decide) (by decide) ?_
  intro v_65 h_68 sz_66 q_67
  obtain ⟨rfl, rfl⟩ := q_67
  refine Seg.ifN at_520 (by decide) (pc' := 523) rfl ?_
  refine Seg.aload at_523 rfl rfl (pc' := 525) rfl ?_
  refine Seg.iload at_525 rfl (pc' := 527) rfl ?_
  refine Seg.iconst (v := 3) at_527 (by decide) (pc' := 528) rfl ?_
  refine Seg.iadd (v := (16 : Int32)) at_528 (by decide) (pc' := 529) rfl ?_
  refine Seg.bipush (v := 119) at_529 (by decide) (pc' := 531) rfl ?_
  refine Seg.callS (y' := (⟨"com/example/kredential/kredential/ResourceToStringPinLaw", "at", "(Ljava/lang/String;IC)Z"⟩ : MethodName)) (wd G 273 rfl) (wd G 274 rfl) (wd G 3 rfl) (wd G 275 rfl) ⟨by decide, by decide⟩ (Pays.of_ct (W := 0) (ct_at G z [82, 101, 115, 111, 117, 114, 99, 101, 91, t1, t2, 47, i1, 44, 32, 111, 119, 110, 101, 114, 32, o1, 93] 16 (119 : Int32) h F hall (by decide : 16 < 23) rfl) all0 (wd G 275 rfl) (wd G 3 rfl) (by decide) (by decide) rfl rfl) (argsL := [(.ref z), (.int (16 : Int32)), (.int (119 : Int32))]) (rest := []) rfl (lenOf pd_28 rfl) rfl (Nat.le_of_eq rfl) rfl at_531 (pc' := 534) rfl (k' := 50) (n' := 6000) rfl rfl (by decide) (by decide) ?_
  intro v_69 h_72 sz_70 q_71
  obtain ⟨rfl, rfl⟩ := q_71
  refine Seg.ifN at_534 (by decide) (pc' := 537) rfl ?_
  refine Seg.aload at_537 rfl rfl (pc' := 539) rfl ?_
  refine Seg.iload at_539 rfl (pc' := 541) rfl ?_
  refine Seg.iconst (v := 4) at_541 (by decide) (pc' := 542) rfl ?_
  refine Seg.iadd (v := (17 : Int32)) at_542 (by decide) (pc' := 543) rfl ?_
  refine Seg.bipush (v := 110) at_543 (by decide) (pc' := 545) rfl ?_
  refine Seg.callS (y' := (⟨"com/example/kredential/kredential/ResourceToStringPinLaw", "at", "(Ljava/lang/String;IC)Z"⟩ : MethodName)) (wd G 273 rfl) (wd G 274 rfl) (wd G 3 rfl) (wd G 275 rfl) ⟨by decide, by decide⟩ (Pays.of_ct (W := 0) (ct_at G z [82, 101, 115, 111, 117, 114, 99, 101, 91, t1, t2, 47, i1, 44, 32, 111, 119, 110, 101, 114, 32, o1, 93] 17 (110 : Int32) h F hall (by decide : 17 < 23) rfl) all0 (wd G 275 rfl) (wd G 3 rfl) (by decide) (by decide) rfl rfl) (argsL := [(.ref z), (.int (17 : Int32)), (.int (110 : Int32))]) (rest := []) rfl (lenOf pd_28 rfl) rfl (Nat.le_of_eq rfl) rfl at_545 (pc' := 548) rfl (k' := 50) (n' := 6000) rfl rfl (by decide) (by decide) ?_
  intro v_73 h_76 sz_74 q_75
  obtain ⟨rfl, rfl⟩ := q_75
  refine Seg.ifN at_548 (by decide) (pc' := 551) rfl ?_
  refine Seg.aload at_551 rfl rfl (pc' := 553) rfl ?_
  refine Seg.iload at_553 rfl (pc' := 555) rfl ?_
  refine Seg.iconst (v := 5) at_555 (by decide) (pc' := 556) rfl ?_
  refine Seg.iadd (v := (18 : Int32)) at_556 (by decide) (pc' := 557) rfl ?_
  refine Seg.bipush (v := 101) at_557 (by decide) (pc' := 559) rfl ?_
  refine Seg.callS (y' := (⟨"com/example/kredential/kredential/ResourceToStringPinLaw", "at", "(Ljava/lang/String;IC)Z"⟩ : MethodName)) (wd G 273 rfl) (wd G 274 rfl) (wd G 3 rfl) (wd G 275 rfl) ⟨by decide, by decide⟩ (Pays.of_ct (W := 0) (ct_at G z [82, 101, 115, 111, 117, 114, 99, 101, 91, t1, t2, 47, i1, 44, 32, 111, 119, 110, 101, 114, 32, o1, 93] 18 (101 : Int32) h F hall (by decide : 18 < 23) rfl) all0 (wd G 275 rfl) (wd G 3 rfl) (by decide) (by decide) rfl rfl) (argsL := [(.ref z), (.int (18 : Int32)), (.int (101 : Int32))]) (rest := []) rfl (lenOf pd_28 rfl) rfl (Nat.le_of_eq rfl) rfl at_559 (pc' := 562) rfl (k' := 50) (n' := 6000) rfl rfl (by decide) (by decide) ?_
  intro v_77 h_80 sz_78 q_79
  obtain ⟨rfl, rfl⟩ := q_79
  refine Seg.ifN at_562 (by decide) (pc' := 565) rfl ?_
  refine Seg.aload at_565 rfl rfl (pc' := 567) rfl ?_
  refine Seg.iload at_567 rfl (pc' := 569) rfl ?_
  refine Seg.bipush (v := 6) at_569 (by decide) (pc' := 571) rfl ?_
  refine Seg.iadd (v := (19 : Int32)) at_571 (by decide) (pc' := 572) rfl ?_
  refine Seg.bipush (v := 114) at_572 (by decide) (pc' := 574) rfl ?_
  refine Seg.callS (y' := (⟨"com/example/kredential/kredential/ResourceToStringPinLaw", "at", "(Ljava/lang/String;IC)Z"⟩ : MethodName)) (wd G 273 rfl) (wd G 274 rfl) (wd G 3 rfl) (wd G 275 rfl) ⟨by decide, by decide⟩ (Pays.of_ct (W := 0) (ct_at G z [82, 101, 115, 111, 117, 114, 99, 101, 91, t1, t2, 47, i1, 44, 32, 111, 119, 110, 101, 114, 32, o1, 93] 19 (114 : Int32) h F hall (by decide : 19 < 23) rfl) all0 (wd G 275 rfl) (wd G 3 rfl) (by decide) (by decide) rfl rfl) (argsL := [(.ref z), (.int (19 : Int32)), (.int (114 : Int32))]) (rest := []) rfl (lenOf pd_28 rfl) rfl (Nat.le_of_eq rfl) rfl at_574 (pc' := 577) rfl (k' := 50) (n' := 6000) rfl rfl (by decide) (by decide) ?_
  intro v_81 h_84 sz_82 q_83
  obtain ⟨rfl, rfl⟩ := q_83
  refine Seg.ifN at_577 (by decide) (pc' := 580) rfl ?_
  refine Seg.aload at_580 rfl rfl (pc' := 582) rfl ?_
  refine Seg.iload at_582 rfl (pc' := 584) rfl ?_
  refine Seg.bipush (v := 7) at_584 (by decide) (pc' := 586) rfl ?_
  refine Seg.iadd (v := (20 : Int32)) at_586 (by decide) (pc' := 587) rfl ?_
  refine Seg.bipush (v := 32) at_587 (by decide) (pc' := 589) rfl ?_
  refine Seg.callS (y' := (⟨"com/example/kredential/kredential/ResourceToStringPinLaw", "at", "(Ljava/lang/String;IC)Z"⟩ : MethodName)) (wd G 273 rfl) (wd G 274 rfl) (wd G 3 rfl) (wd G 275 rfl) ⟨by decide, by decide⟩ (Pays.of_ct (W := 0) (ct_at G z [82, 101, 115, 111, 117, 114, 99, 101, 91, t1, t2, 47, i1, 44, 32, 111, 119, 110, 101, 114, 32, o1, 93] 20 (32 : Int32) h F hall (by decide : 20 < 23) rfl) all0 (wd G 275 rfl) (wd G 3 rfl) (by decide) (by decide) rfl rfl) (argsL := [(.ref z), (.int (20 : Int32)), (.int (32 : Int32))]) (rest := []) rfl (lenOf pd_28 rfl) rfl (Nat.le_of_eq rfl) rfl at_589 (pc' := 592) rfl (k' := 50) (n' := 6000) rfl rfl (by decide) (by decide) ?_
  intro v_85 h_88 sz_86 q_87
  obtain ⟨rfl, rfl⟩ := q_87
  refine Seg.ifN at_592 (by decide) (pc' := 595) rfl ?_
  refine Seg.iconst (v := 1) at_595 (by decide) (pc' := 596) rfl ?_
  refine Seg.goto (pc' := 600) at_596 (by decide) (by decide) ?_
  refine Seg.istore (L' := #[.val (.int p1), .val (.int p2), .val (.int p3), .val (.int p4), .val (.int (2 : Int32)), .val (.int (1 : Int32)), .val (.int (1 : Int32)), .val (.int t1), .val (.int t2), .val (.int i1), .val (.int i2), .val (.int o1), .val (.int o2), .val (.ref s1), .val (.ref s2), .val (.ref s3), .val (.ref rx), .val (.ref z), .val (.int (1 : Int32)), .val (.int (13 : Int32))]) at_600 rfl (pc' := 602) rfl ?_
  refine Seg.iload at_602 rfl (pc' := 604) rfl ?_
  refine Seg.bipush (v := 8) at_604 (by decide) (pc' := 606) rfl ?_
  refine Seg.iadd (v := (21 : Int32)) at_606 (by decide) (pc' := 607) rfl ?_
  refine Seg.istore (L' := #[.val (.int p1), .val (.int p2), .val (.int p3), .val (.int p4), .val (.int (2 : Int32)), .val (.int (1 : Int32)), .val (.int (1 : Int32)), .val (.int t1), .val (.int t2), .val (.int i1), .val (.int i2), .val (.int o1), .val (.int o2), .val (.ref s1), .val (.ref s2), .val (.ref s3), .val (.ref rx), .val (.ref z), .val (.int (1 : Int32)), .val (.int (21 : Int32))]) at_607 rfl (pc' := 609) rfl ?_
  refine Seg.iload at_609 rfl (pc' := 611) rfl ?_
  refine Seg.ifN at_611 (by decide) (pc' := 614) rfl ?_
  refine Seg.aload at_614 rfl rfl (pc' := 616) rfl ?_
  refine Seg.iload at_616 rfl (pc' := 618) rfl ?_
  refine Seg.iload at_618 rfl (pc' := 620) rfl ?_
  refine Seg.callS (y' := (⟨"com/example/kredential/kredential/ResourceToStringPinLaw", "at", "(Ljava/lang/String;IC)Z"⟩ : MethodName)) (wd G 273 rfl) (wd G 274 rfl) (wd G 3 rfl) (wd G 275 rfl) ⟨by decide, by decide⟩ (Pays.of_ct (W := 0) (ct_at G z [82, 101, 115, 111, 117, 114, 99, 101, 91, t1, t2, 47, i1, 44, 32, 111, 119, 110, 101, 114, 32, o1, 93] 21 o1 h F hall (by decide : 21 < 23) rfl) all0 (wd G 275 rfl) (wd G 3 rfl) (by decide) (by decide) rfl rfl) (argsL := [(.ref z), (.int (21 : Int32)), (.int o1)]) (rest := []) rfl (lenOf pd_28 rfl) rfl (Nat.le_of_eq rfl) rfl at_620 (pc' := 623) rfl (k' := 50) (n' := 6000) rfl rfl (by decide) (by decide) ?_
  intro v_89 h_92 sz_90 q_91
  obtain ⟨rfl, rfl⟩ := q_91
  refine Seg.ifN at_623 (by decide) (pc' := 626) rfl ?_
  refine Seg.iconst (v := 1) at_626 (by decide) (pc' := 627) rfl ?_
  refine Seg.goto (pc' := 631) at_627 (by decide) (by decide) ?_
  refine Seg.istore (L' := #[.val (.int p1), .val (.int p2), .val (.int p3), .val (.int p4), .val (.int (2 : Int32)), .val (.int (1 : Int32)), .val (.int (1 : Int32)), .val (.int t1), .val (.int t2), .val (.int i1), .val (.int i2), .val (.int o1), .val (.int o2), .val (.ref s1), .val (.ref s2), .val (.ref s3), .val (.ref rx), .val (.ref z), .val (.int (1 : Int32)), .val (.int (21 : Int32))]) at_631 rfl (pc' := 633) rfl ?_
  refine Seg.iload at_633 rfl (pc' := 635) rfl ?_
  refine Seg.iconst (v := 2) at_635 (by decide) (pc' := 636) rfl ?_
  refine Seg.icY (pc' := 665) at_636 (by decide) (by decide) (by decide) ?_
  refine Seg.iload at_665 rfl (pc' := 667) rfl ?_
  refine Seg.iload at_667 rfl (pc' := 669) rfl ?_
  refine Seg.iadd (v := (22 : Int32)) at_669 (by decide) (pc' := 670) rfl ?_
  refine Seg.istore (L' := #[.val (.int p1), .val (.int p2), .val (.int p3), .val (.int p4), .val (.int (2 : Int32)), .val (.int (1 : Int32)), .val (.int (1 : Int32)), .val (.int t1), .val (.int t2), .val (.int i1), .val (.int i2), .val (.int o1), .val (.int o2), .val (.ref s1), .val (.ref s2), .val (.ref s3), .val (.ref rx), .val (.ref z), .val (.int (1 : Int32)), .val (.int (22 : Int32))]) at_670 rfl (pc' := 672) rfl ?_
  refine Seg.iload at_672 rfl (pc' := 674) rfl ?_
  refine Seg.ifN at_674 (by decide) (pc' := 677) rfl ?_
  refine Seg.aload at_677 rfl rfl (pc' := 679) rfl ?_
  refine Seg.iload at_679 rfl (pc' := 681) rfl ?_
  refine Seg.bipush (v := 93) at_681 (by decide) (pc' := 683) rfl ?_
  refine Seg.callS (y' := (⟨"com/example/kredential/kredential/ResourceToStringPinLaw", "at", "(Ljava/lang/String;IC)Z"⟩ : MethodName)) (wd G 273 rfl) (wd G 274 rfl) (wd G 3 rfl) (wd G 275 rfl) ⟨by decide, by decide⟩ (Pays.of_ct (W := 0) (ct_at G z [82, 101, 115, 111, 117, 114, 99, 101, 91, t1, t2, 47, i1, 44, 32, 111, 119, 110, 101, 114, 32, o1, 93] 22 (93 : Int32) h F hall (by decide : 22 < 23) rfl) all0 (wd G 275 rfl) (wd G 3 rfl) (by decide) (by decide) rfl rfl) (argsL := [(.ref z), (.int (22 : Int32)), (.int (93 : Int32))]) (rest := []) rfl (lenOf pd_28 rfl) rfl (Nat.le_of_eq rfl) rfl at_683 (pc' := 686) rfl (k' := 50) (n' := 6000) rfl rfl (by decide) (by decide) ?_
  intro v_93 h_96 sz_94 q_95
  obtain ⟨rfl, rfl⟩ := q_95
  refine Seg.ifN at_686 (by decide) (pc' := 689) rfl ?_
  refine Seg.iconst (v := 1) at_689 (by decide) (pc' := 690) rfl ?_
  refine Seg.goto (pc' := 694) at_690 (by decide) (by decide) ?_
  refine Seg.istore (L' := #[.val (.int p1), .val (.int p2), .val (.int p3), .val (.int p4), .val (.int (2 : Int32)), .val (.int (1 : Int32)), .val (.int (1 : Int32)), .val (.int t1), .val (.int t2), .val (.int i1), .val (.int i2), .val (.int o1), .val (.int o2), .val (.ref s1), .val (.ref s2), .val (.ref s3), .val (.ref rx), .val (.ref z), .val (.int (1 : Int32)), .val (.int (22 : Int32))]) at_694 rfl (pc' := 696) rfl ?_
  refine Seg.iload at_696 rfl (pc' := 698) rfl ?_
  exact Seg.retN (t := .boolean) (w := (1 : Int32)) rfl (by decide) (by decide) at_698 (by decide) (by decide) rfl
set_option maxRecDepth 65536 in
set_option maxHeartbeats 4000000 in
theorem sgm211 {l : Launch} {Z : State} {a0 : Array Value} (G : Env1 Z a0) (p1 : Int32) (p2 : Int32) (p3 : Int32) (p4 : Int32) (t1 : Int32) (t2 : Int32) (i1 : Int32) (i2 : Int32) (o1 : Int32) (o2 : Int32) (h : Heap) (kt1 : okT t1) (kt2 : okT t2) (ki1 : okI i1) (ki2 : okI i2) (ko1 : okI o1) (ko2 : okI o2) (hI : ¬ (i1 = 46 ∧ ((1 : Int32) = 1 ∨ i2 = 46))) (hO : ¬ (o1 = 46 ∧ ((1 : Int32) = 1 ∨ o2 = 46))) :
    Seg l Z a0 EL1 x code maxLocals ret room_1 (fun v h => v = some (.int 1)) h 0 0 [] 123 #[.val (.int p1), .val (.int p2), .val (.int p3), .val (.int p4), .val (.int (2 : Int32)), .val (.int (1 : Int32)), .val (.int (1 : Int32)), .val (.int t1), .val (.int t2), .val (.int i1), .val (.int i2), .val (.int o1), .val (.int o2), .unset, .unset, .unset, .unset, .unset, .unset, .unset] [] := by
  have rt1 := (okI_r (okT_I kt1)).1
  have rt2 := (okI_r (okT_I kt2)).1
  have ri1 := (okI_r ki1).1
  have ri2 := (okI_r ki2).1
  have ro1 := (okI_r ko1).1
  have ro2 := (okI_r ko2).1
  refine Seg.iload at_123 rfl (pc' := 125) rfl ?_
  refine Seg.iload at_125 rfl (pc' := 127) rfl ?_
  refine Seg.iload at_127 rfl (pc' := 129) rfl ?_
  refine Seg.callS (y' := (⟨"com/example/kredential/kredential/ResourceToStringPinLaw", "make", "(ICC)Ljava/lang/String;"⟩ : MethodName)) (wd G 8 rfl) (wd G 9 rfl) (wd G 3 rfl) (wd G 10 rfl) ⟨by decide, by decide⟩ (Pays.of_ct (W := 0) (ct_mk2 G t1 t2 h rt1 rt2) all0 (wd G 10 rfl) (wd G 3 rfl) (by decide) (by decide) rfl rfl) (argsL := [(.int (2 : Int32)), (.int t1), (.int t2)]) (rest := []) rfl (lenOf pd_29 rfl) rfl (Nat.le_of_eq rfl) rfl at_129 (pc' := 132) rfl (k' := 3) (n' := 8) rfl rfl (by decide) (by decide) ?_
  intro v_1 h_4 sz_2 q_3
  obtain ⟨s1, rfl, E1, T1⟩ := q_3
  refine Seg.astore (L' := #[.val (.int p1), .val (.int p2), .val (.int p3), .val (.int p4), .val (.int (2 : Int32)), .val (.int (1 : Int32)), .val (.int (1 : Int32)), .val (.int t1), .val (.int t2), .val (.int i1), .val (.int i2), .val (.int o1), .val (.int o2), .val (.ref s1), .unset, .unset, .unset, .unset, .unset, .unset]) at_132 rfl rfl (pc' := 134) rfl ?_
  refine Seg.iload at_134 rfl (pc' := 136) rfl ?_
  refine Seg.iload at_136 rfl (pc' := 138) rfl ?_
  refine Seg.iload at_138 rfl (pc' := 140) rfl ?_
  refine Seg.callS (y' := (⟨"com/example/kredential/kredential/ResourceToStringPinLaw", "make", "(ICC)Ljava/lang/String;"⟩ : MethodName)) (wd G 8 rfl) (wd G 9 rfl) (wd G 3 rfl) (wd G 10 rfl) ⟨by decide, by decide⟩ (Pays.of_ct (W := 0) (ct_mk1 G i1 i2 h_4 ri1 ri2) all0 (wd G 10 rfl) (wd G 3 rfl) (by decide) (by decide) rfl rfl) (argsL := [(.int (1 : Int32)), (.int i1), (.int i2)]) (rest := []) rfl (lenOf pd_29 rfl) rfl (Nat.le_of_eq rfl) rfl at_140 (pc' := 143) rfl (k' := 5) (n' := 13) rfl rfl (by decide) (by decide) ?_
  intro v_5 h_8 sz_6 q_7
  obtain ⟨s2, rfl, E2, T2⟩ := q_7
  refine Seg.astore (L' := #[.val (.int p1), .val (.int p2), .val (.int p3), .val (.int p4), .val (.int (2 : Int32)), .val (.int (1 : Int32)), .val (.int (1 : Int32)), .val (.int t1), .val (.int t2), .val (.int i1), .val (.int i2), .val (.int o1), .val (.int o2), .val (.ref s1), .val (.ref s2), .unset, .unset, .unset, .unset, .unset]) at_143 rfl rfl (pc' := 145) rfl ?_
  refine Seg.iload at_145 rfl (pc' := 147) rfl ?_
  refine Seg.iload at_147 rfl (pc' := 149) rfl ?_
  refine Seg.iload at_149 rfl (pc' := 151) rfl ?_
  refine Seg.callS (y' := (⟨"com/example/kredential/kredential/ResourceToStringPinLaw", "make", "(ICC)Ljava/lang/String;"⟩ : MethodName)) (wd G 8 rfl) (wd G 9 rfl) (wd G 3 rfl) (wd G 10 rfl) ⟨by decide, by decide⟩ (Pays.of_ct (W := 0) (ct_mk1 G o1 o2 h_8 ro1 ro2) all0 (wd G 10 rfl) (wd G 3 rfl) (by decide) (by decide) rfl rfl) (argsL := [(.int (1 : Int32)), (.int o1), (.int o2)]) (rest := []) rfl (lenOf pd_29 rfl) rfl (Nat.le_of_eq rfl) rfl at_151 (pc' := 154) rfl (k' := 7) (n' := 18) rfl rfl (by decide) (by decide) ?_
  intro v_9 h_12 sz_10 q_11
  obtain ⟨s3, rfl, E3, T3⟩ := q_11
  refine Seg.astore (L' := #[.val (.int p1), .val (.int p2), .val (.int p3), .val (.int p4), .val (.int (2 : Int32)), .val (.int (1 : Int32)), .val (.int (1 : Int32)), .val (.int t1), .val (.int t2), .val (.int i1), .val (.int i2), .val (.int o1), .val (.int o2), .val (.ref s1), .val (.ref s2), .val (.ref s3), .unset, .unset, .unset, .unset]) at_154 rfl rfl (pc' := 156) rfl ?_
  refine Seg.newO (wd G 55 rfl) (wd G 56 rfl) (wd G 57 rfl) at_156 (pc' := 159) rfl (k' := 8) (n' := 21) rfl rfl (by decide) (by decide) ?_
  intro b_13 h_15 E_14 e_b_13 l_b_13 A_b_13 D_b_13
  have F_type_b_13 : Fld Z h_15 b_13 "com/example/kredential/kredential/Resource" "type" "Ljava/lang/String;" Value.null := D_b_13 (Or.inr (wd G 140 rfl)) (ty := (.object "java/lang/String")) (by decide)
  have F_id_b_13 : Fld Z h_15 b_13 "com/example/kredential/kredential/Resource" "id" "Ljava/lang/String;" Value.null := D_b_13 (Or.inr (wd G 142 rfl)) (ty := (.object "java/lang/String")) (by decide)
  have F_owner_b_13 : Fld Z h_15 b_13 "com/example/kredential/kredential/Resource" "owner" "Ljava/lang/String;" Value.null := D_b_13 (Or.inr (wd G 144 rfl)) (ty := (.object "java/lang/String")) (by decide)
  refine Seg.dup at_159 rfl (pc' := 160) rfl ?_
  refine Seg.aload at_160 rfl rfl (pc' := 162) rfl ?_
  refine Seg.aload at_162 rfl rfl (pc' := 164) rfl ?_
  refine Seg.aload at_164 rfl rfl (pc' := 166) rfl ?_
  have E_16 : Ext h_4 h_12 := ext_tr E2 E3
  have E_17 : Ext h_4 h_15 := ext_tr E_16 E_14
  have F_18 := T1.ext E_17
  have E_19 : Ext h_8 h_15 := ext_tr E3 E_14
  have F_20 := T2.ext E_19
  have F_21 := T3.ext E_14
  refine Seg.callN (y' := (⟨"com/example/kredential/kredential/Resource", "<init>", "(Ljava/lang/String;Ljava/lang/String;Ljava/lang/String;)V"⟩ : MethodName)) (a := b_13) rfl (wd G 58 rfl) (wd G 59 rfl) (wd G 60 rfl) ⟨by decide, by decide⟩ (Pays.of_ct (W := 1) (ct_rinit G b_13 s1 s2 s3 [t1, t2] [i1] [o1] .null .null .null h_15 A_b_13 F_type_b_13 F_id_b_13 F_owner_b_13 F_18 F_20 F_21 ⟨(fun c hc => by simp only [List.mem_cons, List.not_mem_nil, or_false] at hc; rcases hc with rfl | rfl <;> assumption), (by decide : 0 < 2), (by decide : 2 ≤ 2)⟩ ⟨⟨(fun c hc => by simp only [List.mem_cons, List.not_mem_nil, or_false] at hc; rcases hc with rfl <;> assumption), (by decide : 0 < 1), (by decide : 1 ≤ 2)⟩, (fun q => hI ⟨(List.cons.inj q).1, Or.inl rfl⟩), (fun q => nomatch (List.cons.inj q).2)⟩ ⟨⟨(fun c hc => by simp only [List.mem_cons, List.not_mem_nil, or_false] at hc; rcases hc with rfl <;> assumption), (by decide : 0 < 1), (by decide : 1 ≤ 2)⟩, (fun q => hO ⟨(List.cons.inj q).1, Or.inl rfl⟩), (fun q => nomatch (List.cons.inj q).2)⟩) (allS (List.mem_of_getElem? (i := 0) rfl) all0) (wd G 60 rfl) (wd G 57 rfl) (by decide) (by decide) rfl rfl) (argsL := [(.ref s1), (.ref s2), (.ref s3)]) (rest := [(.ref b_13)]) rfl (lenOf pd_30 rfl) rfl (Nat.le_of_eq rfl) rfl at_166 (pc' := 169) rfl (k' := 20) (n' := 81) rfl rfl (by decide) (by decide) ?_
  intro v_22 h_25 sz_23 q_24
  obtain ⟨rfl, K1, G0, G1, G2⟩ := q_24
  refine Seg.astore (L' := #[.val (.int p1), .val (.int p2), .val (.int p3), .val (.int p4), .val (.int (2 : Int32)), .val (.int (1 : Int32)), .val (.int (1 : Int32)), .val (.int t1), .val (.int t2), .val (.int i1), .val (.int i2), .val (.int o1), .val (.int o2), .val (.ref s1), .val (.ref s2), .val (.ref s3), .val (.ref b_13), .unset, .unset, .unset]) at_169 rfl rfl (pc' := 171) rfl ?_
  refine Seg.aload at_171 rfl rfl (pc' := 173) rfl ?_
  have F_26 := (A_b_13.keep K1)
  have E_27 : Ext h_4 h_25 := ext_kp E_17 K1 (allS (Nat.le_trans E_16.1 (Nat.le_of_eq e_b_13)) all0)
  have F_28 := T1.ext E_27
  have E_29 : Ext h_8 h_25 := ext_kp E_19 K1 (allS (Nat.le_trans E3.1 (Nat.le_of_eq e_b_13)) all0)
  have F_30 := T2.ext E_29
  have E_31 : Ext h_12 h_25 := ext_kp E_14 K1 (allS (Nat.le_trans (ext_rfl _).1 (Nat.le_of_eq e_b_13)) all0)
  have F_32 := T3.ext E_31
  refine Seg.callV (y' := (⟨"com/example/kredential/kredential/Resource", "toString", "()Ljava/lang/String;"⟩ : MethodName)) (z := (⟨"com/example/kredential/kredential/Resource", "toString", "()Ljava/lang/String;"⟩ : MethodName)) (a := b_13) (wd G 145 rfl) (wd G 146 rfl) (nf_sel (wd G 148 rfl)) (wd G 148 rfl) (wd G 147 rfl) ⟨by decide, by decide⟩ F_26 (Pays.of_ct (W := 0) (ct_rts G b_13 s1 s2 s3 [t1, t2] [i1] [o1] h_25 F_26 G0 G1 G2 F_28 F_30 F_32 (fun c hc => by simp only [List.mem_cons, List.not_mem_nil, or_false] at hc; rcases hc with rfl | rfl <;> assumption) (fun c hc => by simp only [List.mem_cons, List.not_mem_nil, or_false] at hc; rcases hc with rfl <;> assumption) (fun c hc => by simp only [List.mem_cons, List.not_mem_nil, or_false] at hc; rcases hc with rfl <;> assumption) (by decide : 2 ≤ 2) (by decide : 1 ≤ 2) (by decide : 1 ≤ 2)) all0 (wd G 149 rfl) (wd G 57 rfl) (by decide) (by decide) rfl rfl) (argsL := []) (rest := []) rfl (lenOf pd_22 rfl) rfl (Nat.le_of_eq rfl) rfl at_173 (pc' := 176) rfl (k' := 33) (n' := 331) rfl rfl (by decide) (by decide) ?_
  intro v_33 h_36 sz_34 q_35
  obtain ⟨z, rfl, E9, F9⟩ := q_35
  exact (sgt211 G p1 p2 p3 p4 t1 t2 i1 i2 o1 o2 s1 s2 s3 b_13 z h_36 F9 rt1 rt2 ri1 ri2 ro1 ro2).mono (by decide) (by decide) all0
set_option maxRecDepth 65536 in
set_option maxHeartbeats 4000000 in
theorem sgt212 {l : Launch} {Z : State} {a0 : Array Value} (G : Env1 Z a0) (p1 : Int32) (p2 : Int32) (p3 : Int32) (p4 : Int32) (t1 : Int32) (t2 : Int32) (i1 : Int32) (i2 : Int32) (o1 : Int32) (o2 : Int32) (s1 : Addr) (s2 : Addr) (s3 : Addr) (rx : Addr) (z : Addr) (h : Heap) (F : Str Z h z [82, 101, 115, 111, 117, 114, 99, 101, 91, t1, t2, 47, i1, 44, 32, 111, 119, 110, 101, 114, 32, o1, o2, 93]) (rt1 : ¬ t1 < 0 ∧ ¬ (255 : Int32) < t1) (rt2 : ¬ t2 < 0 ∧ ¬ (255 : Int32) < t2) (ri1 : ¬ i1 < 0 ∧ ¬ (255 : Int32) < i1) (ri2 : ¬ i2 < 0 ∧ ¬ (255 : Int32) < i2) (ro1 : ¬ o1 < 0 ∧ ¬ (255 : Int32) < o1) (ro2 : ¬ o2 < 0 ∧ ¬ (255 : Int32) < o2) :
    Seg l Z a0 EL1 x code maxLocals ret room_1 (fun v h => v = some (.int 1)) h 50 6000 [] 176 #[.val (.int p1), .val (.int p2), .val (.int p3), .val (.int p4), .val (.int (2 : Int32)), .val (.int (1 : Int32)), .val (.int (2 : Int32)), .val (.int t1), .val (.int t2), .val (.int i1), .val (.int i2), .val (.int o1), .val (.int o2), .val (.ref s1), .val (.ref s2), .val (.ref s3), .val (.ref rx), .unset, .unset, .unset] [(.ref z)] := by
  have f1 := F.exa
  have hall : ∀ c ∈ [82, 101, 115, 111, 117, 114, 99, 101, 91, t1, t2, 47, i1, 44, 32, 111, 119, 110, 101, 114, 32, o1, o2, 93], ¬ c < 0 ∧ ¬ (255 : Int32) < c := by
    intro c hc
    simp only [List.mem_cons, List.not_mem_nil, or_false] at hc
    rcases hc with rfl | rfl | rfl | rfl | rfl | rfl | rfl | rfl | rfl | rfl | rfl | rfl | rfl | rfl | rfl | rfl | rfl | rfl | rfl | rfl | rfl | rfl | rfl | rfl <;> first | assumption | decide
  refine Seg.astore (L' := #[.val (.int p1), .val (.int p2), .val (.int p3), .val (.int p4), .val (.int (2 : Int32)), .val (.int (1 : Int32)), .val (.int (2 : Int32)), .val (.int t1), .val (.int t2), .val (.int i1), .val (.int i2), .val (.int o1), .val (.int o2), .val (.ref s1), .val (.ref s2), .val (.ref s3), .val (.ref rx), .val (.ref z), .unset, .unset]) at_176 rfl rfl (pc' := 178) rfl ?_
  refine Seg.aload at_178 rfl rfl (pc' := 180) rfl ?_
  refine Seg.callV (y' := (⟨"java/lang/String", "length", "()I"⟩ : MethodName)) (z := (⟨"java/lang/String", "length", "()I"⟩ : MethodName)) (a := z) (wd G 272 rfl) (wd G 79 rfl) (nf_sel (wd G 81 rfl)) (wd G 81 rfl) (wd G 80 rfl) ⟨by decide, by decide⟩ f1 ((pays_len (W := 0) G h F (by decide) (by decide)).post (Q' := fun v h' => v = some (.int 24) ∧ h = h') fun v h' q => ⟨q.1, q.2⟩) (argsL := []) (rest := []) rfl (lenOf pd_0 rfl) rfl (Nat.le_of_eq rfl) rfl at_180 (pc' := 183) rfl (k' := 50) (n' := 6000) rfl rfl (by decide) (by decide) ?_
  intro v_1 h_4 sz_2 q_3
  obtain ⟨rfl, rfl⟩ := q_3
  refine Seg.bipush (v := 19) at_183 (by decide) (pc' := 185) rfl ?_
  refine Seg.iload at_185 rfl (pc' := 187) rfl ?_
  refine Seg.iadd (v := (21 : Int32)) at_187 (by decide) (pc' := 188) rfl ?_
  refine Seg.iload at_188 rfl (pc' := 190) rfl ?_
  refine Seg.iadd (v := (22 : Int32)) at_190 (by decide) (pc' := 191) rfl ?_
  refine Seg.iload at_191 rfl (pc' := 193) rfl ?_
  refine Seg.iadd (v := (24 : Int32)) at_193 (by decide) (pc' := 194) rfl ?_
  refine Seg.icN at_194 (by decide) (pc' := 197) rfl ?_
  refine Seg.iconst (v := 1) at_197 (by decide) (pc' := 198) rfl ?_
  refine Seg.goto (pc' := 202) at_198 (by decide) (by decide) ?_
  refine Seg.istore (L' := #[.val (.int p1), .val (.int p2), .val (.int p3), .val (.int p4), .val (.int (2 : Int32)), .val (.int (1 : Int32)), .val (.int (2 : Int32)), .val (.int t1), .val (.int t2), .val (.int i1), .val (.int i2), .val (.int o1), .val (.int o2), .val (.ref s1), .val (.ref s2), .val (.ref s3), .val (.ref rx), .val (.ref z), .val (.int (1 : Int32)), .unset]) at_202 rfl (pc' := 204) rfl ?_
  refine Seg.iload at_204 rfl (pc' := 206) rfl ?_
  refine Seg.ifN at_206 (by decide) (pc' := 209) rfl ?_
  refine Seg.aload at_209 rfl rfl (pc' := 211) rfl ?_
  refine Seg.iconst (v := 0) at_211 (by decide) (pc' := 212) rfl ?_
  refine Seg.bipush (v := 82) at_212 (by decide) (pc' := 214) rfl ?_
  refine Seg.callS (y' := (⟨"com/example/kredential/kredential/ResourceToStringPinLaw", "at", "(Ljava/lang/String;IC)Z"⟩ : MethodName)) (wd G 273 rfl) (wd G 274 rfl) (wd G 3 rfl) (wd G 275 rfl) ⟨by decide, by decide⟩ (Pays.of_ct (W := 0) (ct_at G z [82, 101, 115, 111, 117, 114, 99, 101, 91, t1, t2, 47, i1, 44, 32, 111, 119, 110, 101, 114, 32, o1, o2, 93] 0 (82 : Int32) h F hall (by decide : 0 < 24) rfl) all0 (wd G 275 rfl) (wd G 3 rfl) (by decide) (by decide) rfl rfl) (argsL := [(.ref z), (.int (0 : Int32)), (.int (82 : Int32))]) (rest := []) rfl (lenOf pd_28 rfl) rfl (Nat.le_of_eq rfl) rfl at_214 (pc' := 217) rfl (k' := 50) (n' := 6000) rfl rfl (by decide) (by decide) ?_
  intro v_5 h_8 sz_6 q_7
  obtain ⟨rfl, rfl⟩ := q_7
  refine Seg.ifN at_217 (by decide) (pc' := 220) rfl ?_
  refine Seg.aload at_220 rfl rfl (pc' := 222) rfl ?_
  refine Seg.iconst (v := 1) at_222 (by decide) (pc' := 223) rfl ?_
  refine Seg.bipush (v := 101) at_223 (by decide) (pc' := 225) rfl ?_
  refine Seg.callS (y' := (⟨"com/example/kredential/kredential/ResourceToStringPinLaw", "at", "(Ljava/lang/String;IC)Z"⟩ : MethodName)) (wd G 273 rfl) (wd G 274 rfl) (wd G 3 rfl) (wd G 275 rfl) ⟨by decide, by decide⟩ (Pays.of_ct (W := 0) (ct_at G z [82, 101, 115, 111, 117, 114, 99, 101, 91, t1, t2, 47, i1, 44, 32, 111, 119, 110, 101, 114, 32, o1, o2, 93] 1 (101 : Int32) h F hall (by decide : 1 < 24) rfl) all0 (wd G 275 rfl) (wd G 3 rfl) (by decide) (by decide) rfl rfl) (argsL := [(.ref z), (.int (1 : Int32)), (.int (101 : Int32))]) (rest := []) rfl (lenOf pd_28 rfl) rfl (Nat.le_of_eq rfl) rfl at_225 (pc' := 228) rfl (k' := 50) (n' := 6000) rfl rfl (by decide) (by decide) ?_
  intro v_9 h_12 sz_10 q_11
  obtain ⟨rfl, rfl⟩ := q_11
  refine Seg.ifN at_228 (by decide) (pc' := 231) rfl ?_
  refine Seg.aload at_231 rfl rfl (pc' := 233) rfl ?_
  refine Seg.iconst (v := 2) at_233 (by decide) (pc' := 234) rfl ?_
  refine Seg.bipush (v := 115) at_234 (by decide) (pc' := 236) rfl ?_
  refine Seg.callS (y' := (⟨"com/example/kredential/kredential/ResourceToStringPinLaw", "at", "(Ljava/lang/String;IC)Z"⟩ : MethodName)) (wd G 273 rfl) (wd G 274 rfl) (wd G 3 rfl) (wd G 275 rfl) ⟨by decide, by decide⟩ (Pays.of_ct (W := 0) (ct_at G z [82, 101, 115, 111, 117, 114, 99, 101, 91, t1, t2, 47, i1, 44, 32, 111, 119, 110, 101, 114, 32, o1, o2, 93] 2 (115 : Int32) h F hall (by decide : 2 < 24) rfl) all0 (wd G 275 rfl) (wd G 3 rfl) (by decide) (by decide) rfl rfl) (argsL := [(.ref z), (.int (2 : Int32)), (.int (115 : Int32))]) (rest := []) rfl (lenOf pd_28 rfl) rfl (Nat.le_of_eq rfl) rfl at_236 (pc' := 239) rfl (k' := 50) (n' := 6000) rfl rfl (by decide) (by decide) ?_
  intro v_13 h_16 sz_14 q_15
  obtain ⟨rfl, rfl⟩ := q_15
  refine Seg.ifN at_239 (by decide) (pc' := 242) rfl ?_
  refine Seg.aload at_242 rfl rfl (pc' := 244) rfl ?_
  refine Seg.iconst (v := 3) at_244 (by decide) (pc' := 245) rfl ?_
  refine Seg.bipush (v := 111) at_245 (by decide) (pc' := 247) rfl ?_
  refine Seg.callS (y' := (⟨"com/example/kredential/kredential/ResourceToStringPinLaw", "at", "(Ljava/lang/String;IC)Z"⟩ : MethodName)) (wd G 273 rfl) (wd G 274 rfl) (wd G 3 rfl) (wd G 275 rfl) ⟨by decide, by decide⟩ (Pays.of_ct (W := 0) (ct_at G z [82, 101, 115, 111, 117, 114, 99, 101, 91, t1, t2, 47, i1, 44, 32, 111, 119, 110, 101, 114, 32, o1, o2, 93] 3 (111 : Int32) h F hall (by decide : 3 < 24) rfl) all0 (wd G 275 rfl) (wd G 3 rfl) (by decide) (by decide) rfl rfl) (argsL := [(.ref z), (.int (3 : Int32)), (.int (111 : Int32))]) (rest := []) rfl (lenOf pd_28 rfl) rfl (Nat.le_of_eq rfl) rfl at_247 (pc' := 250) rfl (k' := 50) (n' := 6000) rfl rfl (by decide) (by decide) ?_
  intro v_17 h_20 sz_18 q_19
  obtain ⟨rfl, rfl⟩ := q_19
  refine Seg.ifN at_250 (by decide) (pc' := 253) rfl ?_
  refine Seg.aload at_253 rfl rfl (pc' := 255) rfl ?_
  refine Seg.iconst (v := 4) at_255 (by decide) (pc' := 256) rfl ?_
  refine Seg.bipush (v := 117) at_256 (by decide) (pc' := 258) rfl ?_
  refine Seg.callS (y' := (⟨"com/example/kredential/kredential/ResourceToStringPinLaw", "at", "(Ljava/lang/String;IC)Z"⟩ : MethodName)) (wd G 273 rfl) (wd G 274 rfl) (wd G 3 rfl) (wd G 275 rfl) ⟨by decide, by decide⟩ (Pays.of_ct (W := 0) (ct_at G z [82, 101, 115, 111, 117, 114, 99, 101, 91, t1, t2, 47, i1, 44, 32, 111, 119, 110, 101, 114, 32, o1, o2, 93] 4 (117 : Int32) h F hall (by decide : 4 < 24) rfl) all0 (wd G 275 rfl) (wd G 3 rfl) (by decide) (by decide) rfl rfl) (argsL := [(.ref z), (.int (4 : Int32)), (.int (117 : Int32))]) (rest := []) rfl (lenOf pd_28 rfl) rfl (Nat.le_of_eq rfl) rfl at_258 (pc' := 261) rfl (k' := 50) (n' := 6000) rfl rfl (by decide) (by decide) ?_
  intro v_21 h_24 sz_22 q_23
  obtain ⟨rfl, rfl⟩ := q_23
  refine Seg.ifN at_261 (by decide) (pc' := 264) rfl ?_
  refine Seg.aload at_264 rfl rfl (pc' := 266) rfl ?_
  refine Seg.iconst (v := 5) at_266 (by decide) (pc' := 267) rfl ?_
  refine Seg.bipush (v := 114) at_267 (by decide) (pc' := 269) rfl ?_
  refine Seg.callS (y' := (⟨"com/example/kredential/kredential/ResourceToStringPinLaw", "at", "(Ljava/lang/String;IC)Z"⟩ : MethodName)) (wd G 273 rfl) (wd G 274 rfl) (wd G 3 rfl) (wd G 275 rfl) ⟨by decide, by decide⟩ (Pays.of_ct (W := 0) (ct_at G z [82, 101, 115, 111, 117, 114, 99, 101, 91, t1, t2, 47, i1, 44, 32, 111, 119, 110, 101, 114, 32, o1, o2, 93] 5 (114 : Int32) h F hall (by decide : 5 < 24) rfl) all0 (wd G 275 rfl) (wd G 3 rfl) (by decide) (by decide) rfl rfl) (argsL := [(.ref z), (.int (5 : Int32)), (.int (114 : Int32))]) (rest := []) rfl (lenOf pd_28 rfl) rfl (Nat.le_of_eq rfl) rfl at_269 (pc' := 272) rfl (k' := 50) (n' := 6000) rfl rfl (by decide) (by decide) ?_
  intro v_25 h_28 sz_26 q_27
  obtain ⟨rfl, rfl⟩ := q_27
  refine Seg.ifN at_272 (by decide) (pc' := 275) rfl ?_
  refine Seg.aload at_275 rfl rfl (pc' := 277) rfl ?_
  refine Seg.bipush (v := 6) at_277 (by decide) (pc' := 279) rfl ?_
  refine Seg.bipush (v := 99) at_279 (by decide) (pc' := 281) rfl ?_
  refine Seg.callS (y' := (⟨"com/example/kredential/kredential/ResourceToStringPinLaw", "at", "(Ljava/lang/String;IC)Z"⟩ : MethodName)) (wd G 273 rfl) (wd G 274 rfl) (wd G 3 rfl) (wd G 275 rfl) ⟨by decide, by decide⟩ (Pays.of_ct (W := 0) (ct_at G z [82, 101, 115, 111, 117, 114, 99, 101, 91, t1, t2, 47, i1, 44, 32, 111, 119, 110, 101, 114, 32, o1, o2, 93] 6 (99 : Int32) h F hall (by decide : 6 < 24) rfl) all0 (wd G 275 rfl) (wd G 3 rfl) (by decide) (by decide) rfl rfl) (argsL := [(.ref z), (.int (6 : Int32)), (.int (99 : Int32))]) (rest := []) rfl (lenOf pd_28 rfl) rfl (Nat.le_of_eq rfl) rfl at_281 (pc' := 284) rfl (k' := 50) (n' := 6000) rfl rfl (by decide) (by decide) ?_
  intro v_29 h_32 sz_30 q_31
  obtain ⟨rfl, rfl⟩ := q_31
  refine Seg.ifN at_284 (by decide) (pc' := 287) rfl ?_
  refine Seg.aload at_287 rfl rfl (pc' := 289) rfl ?_
  refine Seg.bipush (v := 7) at_289 (by decide) (pc' := 291) rfl ?_
  refine Seg.bipush (v := 101) at_291 (by decide) (pc' := 293) rfl ?_
  refine Seg.callS (y' := (⟨"com/example/kredential/kredential/ResourceToStringPinLaw", "at", "(Ljava/lang/String;IC)Z"⟩ : MethodName)) (wd G 273 rfl) (wd G 274 rfl) (wd G 3 rfl) (wd G 275 rfl) ⟨by decide, by decide⟩ (Pays.of_ct (W := 0) (ct_at G z [82, 101, 115, 111, 117, 114, 99, 101, 91, t1, t2, 47, i1, 44, 32, 111, 119, 110, 101, 114, 32, o1, o2, 93] 7 (101 : Int32) h F hall (by decide : 7 < 24) rfl) all0 (wd G 275 rfl) (wd G 3 rfl) (by decide) (by decide) rfl rfl) (argsL := [(.ref z), (.int (7 : Int32)), (.int (101 : Int32))]) (rest := []) rfl (lenOf pd_28 rfl) rfl (Nat.le_of_eq rfl) rfl at_293 (pc' := 296) rfl (k' := 50) (n' := 6000) rfl rfl (by decide) (by decide) ?_
  intro v_33 h_36 sz_34 q_35
  obtain ⟨rfl, rfl⟩ := q_35
  refine Seg.ifN at_296 (by decide) (pc' := 299) rfl ?_
  refine Seg.aload at_299 rfl rfl (pc' := 301) rfl ?_
  refine Seg.bipush (v := 8) at_301 (by decide) (pc' := 303) rfl ?_
  refine Seg.bipush (v := 91) at_303 (by decide) (pc' := 305) rfl ?_
  refine Seg.callS (y' := (⟨"com/example/kredential/kredential/ResourceToStringPinLaw", "at", "(Ljava/lang/String;IC)Z"⟩ : MethodName)) (wd G 273 rfl) (wd G 274 rfl) (wd G 3 rfl) (wd G 275 rfl) ⟨by decide, by decide⟩ (Pays.of_ct (W := 0) (ct_at G z [82, 101, 115, 111, 117, 114, 99, 101, 91, t1, t2, 47, i1, 44, 32, 111, 119, 110, 101, 114, 32, o1, o2, 93] 8 (91 : Int32) h F hall (by decide : 8 < 24) rfl) all0 (wd G 275 rfl) (wd G 3 rfl) (by decide) (by decide) rfl rfl) (argsL := [(.ref z), (.int (8 : Int32)), (.int (91 : Int32))]) (rest := []) rfl (lenOf pd_28 rfl) rfl (Nat.le_of_eq rfl) rfl at_305 (pc' := 308) rfl (k' := 50) (n' := 6000) rfl rfl (by decide) (by decide) ?_
  intro v_37 h_40 sz_38 q_39
  obtain ⟨rfl, rfl⟩ := q_39
  refine Seg.ifN at_308 (by decide) (pc' := 311) rfl ?_
  refine Seg.iconst (v := 1) at_311 (by decide) (pc' := 312) rfl ?_
  refine Seg.goto (pc' := 316) at_312 (by decide) (by decide) ?_
  refine Seg.istore (L' := #[.val (.int p1), .val (.int p2), .val (.int p3), .val (.int p4), .val (.int (2 : Int32)), .val (.int (1 : Int32)), .val (.int (2 : Int32)), .val (.int t1), .val (.int t2), .val (.int i1), .val (.int i2), .val (.int o1), .val (.int o2), .val (.ref s1), .val (.ref s2), .val (.ref s3), .val (.ref rx), .val (.ref z), .val (.int (1 : Int32)), .unset]) at_316 rfl (pc' := 318) rfl ?_
  refine Seg.bipush (v := 9) at_318 (by decide) (pc' := 320) rfl ?_
  refine Seg.istore (L' := #[.val (.int p1), .val (.int p2), .val (.int p3), .val (.int p4), .val (.int (2 : Int32)), .val (.int (1 : Int32)), .val (.int (2 : Int32)), .val (.int t1), .val (.int t2), .val (.int i1), .val (.int i2), .val (.int o1), .val (.int o2), .val (.ref s1), .val (.ref s2), .val (.ref s3), .val (.ref rx), .val (.ref z), .val (.int (1 : Int32)), .val (.int (9 : Int32))]) at_320 rfl (pc' := 322) rfl ?_
  refine Seg.iload at_322 rfl (pc' := 324) rfl ?_
  refine Seg.ifN at_324 (by decide) (pc' := 327) rfl ?_
  refine Seg.aload at_327 rfl rfl (pc' := 329) rfl ?_
  refine Seg.iload at_329 rfl (pc' := 331) rfl ?_
  refine Seg.iload at_331 rfl (pc' := 333) rfl ?_
  refine Seg.callS (y' := (⟨"com/example/kredential/kredential/ResourceToStringPinLaw", "at", "(Ljava/lang/String;IC)Z"⟩ : MethodName)) (wd G 273 rfl) (wd G 274 rfl) (wd G 3 rfl) (wd G 275 rfl) ⟨by decide, by decide⟩ (Pays.of_ct (W := 0) (ct_at G z [82, 101, 115, 111, 117, 114, 99, 101, 91, t1, t2, 47, i1, 44, 32, 111, 119, 110, 101, 114, 32, o1, o2, 93] 9 t1 h F hall (by decide : 9 < 24) rfl) all0 (wd G 275 rfl) (wd G 3 rfl) (by decide) (by decide) rfl rfl) (argsL := [(.ref z), (.int (9 : Int32)), (.int t1)]) (rest := []) rfl (lenOf pd_28 rfl) rfl (Nat.le_of_eq rfl) rfl at_333 (pc' := 336) rfl (k' := 50) (n' := 6000) rfl rfl (by decide) (by decide) ?_
  intro v_41 h_44 sz_42 q_43
  obtain ⟨rfl, rfl⟩ := q_43
  refine Seg.ifN at_336 (by decide) (pc' := 339) rfl ?_
  refine Seg.iconst (v := 1) at_339 (by decide) (pc' := 340) rfl ?_
  refine Seg.goto (pc' := 344) at_340 (by decide) (by decide) ?_
  refine Seg.istore (L' := #[.val (.int p1), .val (.int p2), .val (.int p3), .val (.int p4), .val (.int (2 : Int32)), .val (.int (1 : Int32)), .val (.int (2 : Int32)), .val (.int t1), .val (.int t2), .val (.int i1), .val (.int i2), .val (.int o1), .val (.int o2), .val (.ref s1), .val (.ref s2), .val (.ref s3), .val (.ref rx), .val (.ref z), .val (.int (1 : Int32)), .val (.int (9 : Int32))]) at_344 rfl (pc' := 346) rfl ?_
  refine Seg.iload at_346 rfl (pc' := 348) rfl ?_
  refine Seg.iconst (v := 2) at_348 (by decide) (pc' := 349) rfl ?_
  refine Seg.icN at_349 (by decide) (pc' := 352) rfl ?_
  refine Seg.iload at_352 rfl (pc' := 354) rfl ?_
  refine Seg.ifN at_354 (by decide) (pc' := 357) rfl ?_
  refine Seg.aload at_357 rfl rfl (pc' := 359) rfl ?_
  refine Seg.iload at_359 rfl (pc' := 361) rfl ?_
  refine Seg.iconst (v := 1) at_361 (by decide) (pc' := 362) rfl ?_
  refine Seg.iadd (v := (10 : Int32)) at_362 (by decide) (pc' := 363) rfl ?_
  refine Seg.iload at_363 rfl (pc' := 365) rfl ?_
  refine Seg.callS (y' := (⟨"com/example/kredential/kredential/ResourceToStringPinLaw", "at", "(Ljava/lang/String;IC)Z"⟩ : MethodName)) (wd G 273 rfl) (wd G 274 rfl) (wd G 3 rfl) (wd G 275 rfl) ⟨by decide, by decide⟩ (Pays.of_ct (W := 0) (ct_at G z [82, 101, 115, 111, 117, 114, 99, 101, 91, t1, t2, 47, i1, 44, 32, 111, 119, 110, 101, 114, 32, o1, o2, 93] 10 t2 h F hall (by decide : 10 < 24) rfl) all0 (wd G 275 rfl) (wd G 3 rfl) (by decide) (by decide) rfl rfl) (argsL := [(.ref z), (.int (10 : Int32)), (.int t2)]) (rest := []) rfl (lenOf pd_28 rfl) rfl (Nat.le_of_eq rfl) rfl at_365 (pc' := 368) rfl (k' := 50) (n' := 6000) rfl rfl (by decide) (by decide) ?_
  intro v_45 h_48 sz_46 q_47
  obtain ⟨rfl, rfl⟩ := q_47
  refine Seg.ifN at_368 (by decide) (pc' := 371) rfl ?_
  refine Seg.iconst (v := 1) at_371 (by decide) (pc' := 372) rfl ?_
  refine Seg.goto (pc' := 376) at_372 (by decide) (by decide) ?_
  refine Seg.istore (L' := #[.val (.int p1), .val (.int p2), .val (.int p3), .val (.int p4), .val (.int (2 : Int32)), .val (.int (1 : Int32)), .val (.int (2 : Int32)), .val (.int t1), .val (.int t2), .val (.int i1), .val (.int i2), .val (.int o1), .val (.int o2), .val (.ref s1), .val (.ref s2), .val (.ref s3), .val (.ref rx), .val (.ref z), .val (.int (1 : Int32)), .val (.int (9 : Int32))]) at_376 rfl (pc' := 378) rfl ?_
  refine Seg.iload at_378 rfl (pc' := 380) rfl ?_
  refine Seg.iload at_380 rfl (pc' := 382) rfl ?_
  refine Seg.iadd (v := (11 : Int32)) at_382 (by decide) (pc' := 383) rfl ?_
  refine Seg.istore (L' := #[.val (.int p1), .val (.int p2), .val (.int p3), .val (.int p4), .val (.int (2 : Int32)), .val (.int (1 : Int32)), .val (.int (2 : Int32)), .val (.int t1), .val (.int t2), .val (.int i1), .val (.int i2), .val (.int o1), .val (.int o2), .val (.ref s1), .val (.ref s2), .val (.ref s3), .val (.ref rx), .val (.ref z), .val (.int (1 : Int32)), .val (.int (11 : Int32))]) at_383 rfl (pc' := 385) rfl ?_
  refine Seg.iload at_385 rfl (pc' := 387) rfl ?_
  refine Seg.ifN at_387 (by decide) (pc' := 390) rfl ?_
  refine Seg.aload at_390 rfl rfl (pc' := 392) rfl ?_
  refine Seg.iload at_392 rfl (pc' := 394) rfl ?_
  refine Seg.bipush (v := 47) at_394 (by decide) (pc' := 396) rfl ?_
  refine Seg.callS (y' := (⟨"com/example/kredential/kredential/ResourceToStringPinLaw", "at", "(Ljava/lang/String;IC)Z"⟩ : MethodName)) (wd G 273 rfl) (wd G 274 rfl) (wd G 3 rfl) (wd G 275 rfl) ⟨by decide, by decide⟩ (Pays.of_ct (W := 0) (ct_at G z [82, 101, 115, 111, 117, 114, 99, 101, 91, t1, t2, 47, i1, 44, 32, 111, 119, 110, 101, 114, 32, o1, o2, 93] 11 (47 : Int32) h F hall (by decide : 11 < 24) rfl) all0 (wd G 275 rfl) (wd G 3 rfl) (by decide) (by decide) rfl rfl) (argsL := [(.ref z), (.int (11 : Int32)), (.int (47 : Int32))]) (rest := []) rfl (lenOf pd_28 rfl) rfl (Nat.le_of_eq rfl) rfl at_396 (pc' := 399) rfl (k' := 50) (n' := 6000) rfl rfl (by decide) (by decide) ?_
  intro v_49 h_52 sz_50 q_51
  obtain ⟨rfl, rfl⟩ := q_51
  refine Seg.ifN at_399 (by decide) (pc' := 402) rfl ?_
  refine Seg.iconst (v := 1) at_402 (by decide) (pc' := 403) rfl ?_
  refine Seg.goto (pc' := 407) at_403 (by decide) (by decide) ?_
  refine Seg.istore (L' := #[.val (.int p1), .val (.int p2), .val (.int p3), .val (.int p4), .val (.int (2 : Int32)), .val (.int (1 : Int32)), .val (.int (2 : Int32)), .val (.int t1), .val (.int t2), .val (.int i1), .val (.int i2), .val (.int o1), .val (.int o2), .val (.ref s1), .val (.ref s2), .val (.ref s3), .val (.ref rx), .val (.ref z), .val (.int (1 : Int32)), .val (.int (11 : Int32))]) at_407 rfl (pc' := 409) rfl ?_
  refine Seg.iload at_409 rfl (pc' := 411) rfl ?_
  refine Seg.iconst (v := 1) at_411 (by decide) (pc' := 412) rfl ?_
  refine Seg.iadd (v := (12 : Int32)) at_412 (by decide) (pc' := 413) rfl ?_
  refine Seg.istore (L' := #[.val (.int p1), .val (.int p2), .val (.int p3), .val (.int p4), .val (.int (2 : Int32)), .val (.int (1 : Int32)), .val (.int (2 : Int32)), .val (.int t1), .val (.int t2), .val (.int i1), .val (.int i2), .val (.int o1), .val (.int o2), .val (.ref s1), .val (.ref s2), .val (.ref s3), .val (.ref rx), .val (.ref z), .val (.int (1 : Int32)), .val (.int (12 : Int32))]) at_413 rfl (pc' := 415) rfl ?_
  refine Seg.iload at_415 rfl (pc' := 417) rfl ?_
  refine Seg.ifN at_417 (by decide) (pc' := 420) rfl ?_
  refine Seg.aload at_420 rfl rfl (pc' := 422) rfl ?_
  refine Seg.iload at_422 rfl (pc' := 424) rfl ?_
  refine Seg.iload at_424 rfl (pc' := 426) rfl ?_
  refine Seg.callS (y' := (⟨"com/example/kredential/kredential/ResourceToStringPinLaw", "at", "(Ljava/lang/String;IC)Z"⟩ : MethodName)) (wd G 273 rfl) (wd G 274 rfl) (wd G 3 rfl) (wd G 275 rfl) ⟨by decide, by decide⟩ (Pays.of_ct (W := 0) (ct_at G z [82, 101, 115, 111, 117, 114, 99, 101, 91, t1, t2, 47, i1, 44, 32, 111, 119, 110, 101, 114, 32, o1, o2, 93] 12 i1 h F hall (by decide : 12 < 24) rfl) all0 (wd G 275 rfl) (wd G 3 rfl) (by decide) (by decide) rfl rfl) (argsL := [(.ref z), (.int (12 : Int32)), (.int i1)]) (rest := []) rfl (lenOf pd_28 rfl) rfl (Nat.le_of_eq rfl) rfl at_426 (pc' := 429) rfl (k' := 50) (n' := 6000) rfl rfl (by decide) (by decide) ?_
  intro v_53 h_56 sz_54 q_55
  obtain ⟨rfl, rfl⟩ := q_55
  refine Seg.ifN at_429 (by decide) (pc' := 432) rfl ?_
  refine Seg.iconst (v := 1) at_432 (by decide) (pc' := 433) rfl ?_
  refine Seg.goto (pc' := 437) at_433 (by decide) (by decide) ?_
  refine Seg.istore (L' := #[.val (.int p1), .val (.int p2), .val (.int p3), .val (.int p4), .val (.int (2 : Int32)), .val (.int (1 : Int32)), .val (.int (2 : Int32)), .val (.int t1), .val (.int t2), .val (.int i1), .val (.int i2), .val (.int o1), .val (.int o2), .val (.ref s1), .val (.ref s2), .val (.ref s3), .val (.ref rx), .val (.ref z), .val (.int (1 : Int32)), .val (.int (12 : Int32))]) at_437 rfl (pc' := 439) rfl ?_
  refine Seg.iload at_439 rfl (pc' := 441) rfl ?_
  refine Seg.iconst (v := 2) at_441 (by decide) (pc' := 442) rfl ?_
  refine Seg.icY (pc' := 471) at_442 (by decide) (by decide) (by decide) ?_
  refine Seg.iload at_471 rfl (pc' := 473) rfl ?_
  refine Seg.iload at_473 rfl (pc' := 475) rfl ?_
  refine Seg.iadd (v := (13 : Int32)) at_475 (by decide) (pc' := 476) rfl ?_
  refine Seg.istore (L' := #[.val (.int p1), .val (.int p2), .val (.int p3), .val (.int p4), .val (.int (2 : Int32)), .val (.int (1 : Int32)), .val (.int (2 : Int32)), .val (.int t1), .val (.int t2), .val (.int i1), .val (.int i2), .val (.int o1), .val (.int o2), .val (.ref s1), .val (.ref s2), .val (.ref s3), .val (.ref rx), .val (.ref z), .val (.int (1 : Int32)), .val (.int (13 : Int32))]) at_476 rfl (pc' := 478) rfl ?_
  refine Seg.iload at_478 rfl (pc' := 480) rfl ?_
  refine Seg.ifN at_480 (by decide) (pc' := 483) rfl ?_
  refine Seg.aload at_483 rfl rfl (pc' := 485) rfl ?_
  refine Seg.iload at_485 rfl (pc' := 487) rfl ?_
  refine Seg.bipush (v := 44) at_487 (by decide) (pc' := 489) rfl ?_
  refine Seg.callS (y' := (⟨"com/example/kredential/kredential/ResourceToStringPinLaw", "at", "(Ljava/lang/String;IC)Z"⟩ : MethodName)) (wd G 273 rfl) (wd G 274 rfl) (wd G 3 rfl) (wd G 275 rfl) ⟨by decide, by decide⟩ (Pays.of_ct (W := 0) (ct_at G z [82, 101, 115, 111, 117, 114, 99, 101, 91, t1, t2, 47, i1, 44, 32, 111, 119, 110, 101, 114, 32, o1, o2, 93] 13 (44 : Int32) h F hall (by decide : 13 < 24) rfl) all0 (wd G 275 rfl) (wd G 3 rfl) (by decide) (by decide) rfl rfl) (argsL := [(.ref z), (.int (13 : Int32)), (.int (44 : Int32))]) (rest := []) rfl (lenOf pd_28 rfl) rfl (Nat.le_of_eq rfl) rfl at_489 (pc' := 492) rfl (k' := 50) (n' := 6000) rfl rfl (by decide) (by decide) ?_
  intro v_57 h_60 sz_58 q_59
  obtain ⟨rfl, rfl⟩ := q_59
  refine Seg.ifN at_492 (by decide) (pc' := 495) rfl ?_
  refine Seg.aload at_495 rfl rfl (pc' := 497) rfl ?_
  refine Seg.iload at_497 rfl (pc' := 499) rfl ?_
  refine Seg.iconst (v := 1) at_499 (by decide) (pc' := 500) rfl ?_
  refine Seg.iadd (v := (14 : Int32)) at_500 (by decide) (pc' := 501) rfl ?_
  refine Seg.bipush (v := 32) at_501 (by decide) (pc' := 503) rfl ?_
  refine Seg.callS (y' := (⟨"com/example/kredential/kredential/ResourceToStringPinLaw", "at", "(Ljava/lang/String;IC)Z"⟩ : MethodName)) (wd G 273 rfl) (wd G 274 rfl) (wd G 3 rfl) (wd G 275 rfl) ⟨by decide, by decide⟩ (Pays.of_ct (W := 0) (ct_at G z [82, 101, 115, 111, 117, 114, 99, 101, 91, t1, t2, 47, i1, 44, 32, 111, 119, 110, 101, 114, 32, o1, o2, 93] 14 (32 : Int32) h F hall (by decide : 14 < 24) rfl) all0 (wd G 275 rfl) (wd G 3 rfl) (by decide) (by decide) rfl rfl) (argsL := [(.ref z), (.int (14 : Int32)), (.int (32 : Int32))]) (rest := []) rfl (lenOf pd_28 rfl) rfl (Nat.le_of_eq rfl) rfl at_503 (pc' := 506) rfl (k' := 50) (n' := 6000) rfl rfl (by decide) (by decide) ?_
  intro v_61 h_64 sz_62 q_63
  obtain ⟨rfl, rfl⟩ := q_63
  refine Seg.ifN at_506 (by decide) (pc' := 509) rfl ?_
  refine Seg.aload at_509 rfl rfl (pc' := 511) rfl ?_
  refine Seg.iload at_511 rfl (pc' := 513) rfl ?_
  refine Seg.iconst (v := 2) at_513 (by decide) (pc' := 514) rfl ?_
  refine Seg.iadd (v := (15 : Int32)) at_514 (by decide) (pc' := 515) rfl ?_
  refine Seg.bipush (v := 111) at_515 (by decide) (pc' := 517) rfl ?_
  refine Seg.callS (y' := (⟨"com/example/kredential/kredential/ResourceToStringPinLaw", "at", "(Ljava/lang/String;IC)Z"⟩ : MethodName)) (wd G 273 rfl) (wd G 274 rfl) (wd G 3 rfl) (wd G 275 rfl) ⟨by decide, by decide⟩ (Pays.of_ct (W := 0) (ct_at G z [82, 101, 115, 111, 117, 114, 99, 101, 91, t1, t2, 47, i1, 44, 32, 111, 119, 110, 101, 114, 32, o1, o2, 93] 15 (111 : Int32) h F hall (by decide : 15 < 24) rfl) all0 (wd G 275 rfl) (wd G 3 rfl) (by decide) (by decide) rfl rfl) (argsL := [(.ref z), (.int (15 : Int32)), (.int (111 : Int32))]) (rest := []) rfl (lenOf pd_28 rfl) rfl (Nat.le_of_eq rfl) rfl at_517 (pc' := 520) rfl (k' := 50) (n' := 6000) rfl rfl (by decide) (by decide) ?_
  intro v_65 h_68 sz_66 q_67
  obtain ⟨rfl, rfl⟩ := q_67
  refine Seg.ifN at_520 (by decide) (pc' := 523) rfl ?_
  refine Seg.aload at_523 rfl rfl (pc' := 525) rfl ?_
  refine Seg.iload at_525 rfl (pc' := 527) rfl ?_
  refine Seg.iconst (v := 3) at_527 (by decide) (pc' := 528) rfl ?_
  refine Seg.iadd (v := (16 : Int32)) at_528 (by decide) (pc' := 529) rfl ?_
  refine Seg.bipush (v := 119) at_529 (by decide) (pc' := 531) rfl ?_
  refine Seg.callS (y' := (⟨"com/example/kredential/kredential/ResourceToStringPinLaw", "at", "(Ljava/lang/String;IC)Z"⟩ : MethodName)) (wd G 273 rfl) (wd G 274 rfl) (wd G 3 rfl) (wd G 275 rfl) ⟨by decide, by decide⟩ (Pays.of_ct (W := 0) (ct_at G z [82, 101, 115, 111, 117, 114, 99, 101, 91, t1, t2, 47, i1, 44, 32, 111, 119, 110, 101, 114, 32, o1, o2, 93] 16 (119 : Int32) h F hall (by decide : 16 < 24) rfl) all0 (wd G 275 rfl) (wd G 3 rfl) (by decide) (by decide) rfl rfl) (argsL := [(.ref z), (.int (16 : Int32)), (.int (119 : Int32))]) (rest := []) rfl (lenOf pd_28 rfl) rfl (Nat.le_of_eq rfl) rfl at_531 (pc' := 534) rfl (k' := 50) (n' := 6000) rfl rfl (by decide) (by decide) ?_
  intro v_69 h_72 sz_70 q_71
  obtain ⟨rfl, rfl⟩ := q_71
  refine Seg.ifN at_534 (by decide) (pc' := 537) rfl ?_
  refine Seg.aload at_537 rfl rfl (pc' := 539) rfl ?_
  refine Seg.iload at_539 rfl (pc' := 541) rfl ?_
  refine Seg.iconst (v := 4) at_541 (by decide) (pc' := 542) rfl ?_
  refine Seg.iadd (v := (17 : Int32)) at_542 (by decide) (pc' := 543) rfl ?_
  refine Seg.bipush (v := 110) at_543 (by decide) (pc' := 545) rfl ?_
  refine Seg.callS (y' := (⟨"com/example/kredential/kredential/ResourceToStringPinLaw", "at", "(Ljava/lang/String;IC)Z"⟩ : MethodName)) (wd G 273 rfl) (wd G 274 rfl) (wd G 3 rfl) (wd G 275 rfl) ⟨by decide, by decide⟩ (Pays.of_ct (W := 0) (ct_at G z [82, 101, 115, 111, 117, 114, 99, 101, 91, t1, t2, 47, i1, 44, 32, 111, 119, 110, 101, 114, 32, o1, o2, 93] 17 (110 : Int32) h F hall (by decide : 17 < 24) rfl) all0 (wd G 275 rfl) (wd G 3 rfl) (by decide) (by decide) rfl rfl) (argsL := [(.ref z), (.int (17 : Int32)), (.int (110 : Int32))]) (rest := []) rfl (lenOf pd_28 rfl) rfl (Nat.le_of_eq rfl) rfl at_545 (pc' := 548) rfl (k' := 50) (n' := 6000) rfl rfl (by decide) (by decide) ?_
  intro v_73 h_76 sz_74 q_75
  obtain ⟨rfl, rfl⟩ := q_75
  refine Seg.ifN at_548 (by decide) (pc' := 551) rfl ?_
  refine Seg.aload at_551 rfl rfl (pc' := 553) rfl ?_
  refine Seg.iload at_553 rfl (pc' := 555) rfl ?_
  refine Seg.iconst (v := 5) at_555 (by decide) (pc' := 556) rfl ?_
  refine Seg.iadd (v := (18 : Int32)) at_556 (by decide) (pc' := 557) rfl ?_
  refine Seg.bipush (v := 101) at_557 (by decide) (pc' := 559) rfl ?_
  refine Seg.callS (y' := (⟨"com/example/kredential/kredential/ResourceToStringPinLaw", "at", "(Ljava/lang/String;IC)Z"⟩ : MethodName)) (wd G 273 rfl) (wd G 274 rfl) (wd G 3 rfl) (wd G 275 rfl) ⟨by decide, by decide⟩ (Pays.of_ct (W := 0) (ct_at G z [82, 101, 115, 111, 117, 114, 99, 101, 91, t1, t2, 47, i1, 44, 32, 111, 119, 110, 101, 114, 32, o1, o2, 93] 18 (101 : Int32) h F hall (by decide : 18 < 24) rfl) all0 (wd G 275 rfl) (wd G 3 rfl) (by decide) (by decide) rfl rfl) (argsL := [(.ref z), (.int (18 : Int32)), (.int (101 : Int32))]) (rest := []) rfl (lenOf pd_28 rfl) rfl (Nat.le_of_eq rfl) rfl at_559 (pc' := 562) rfl (k' := 50) (n' := 6000) rfl rfl (by decide) (by decide) ?_
  intro v_77 h_80 sz_78 q_79
  obtain ⟨rfl, rfl⟩ := q_79
  refine Seg.ifN at_562 (by decide) (pc' := 565) rfl ?_
  refine Seg.aload at_565 rfl rfl (pc' := 567) rfl ?_
  refine Seg.iload at_567 rfl (pc' := 569) rfl ?_
  refine Seg.bipush (v := 6) at_569 (by decide) (pc' := 571) rfl ?_
  refine Seg.iadd (v := (19 : Int32)) at_571 (by decide) (pc' := 572) rfl ?_
  refine Seg.bipush (v := 114) at_572 (by decide) (pc' := 574) rfl ?_
  refine Seg.callS (y' := (⟨"com/example/kredential/kredential/ResourceToStringPinLaw", "at", "(Ljava/lang/String;IC)Z"⟩ : MethodName)) (wd G 273 rfl) (wd G 274 rfl) (wd G 3 rfl) (wd G 275 rfl) ⟨by decide, by decide⟩ (Pays.of_ct (W := 0) (ct_at G z [82, 101, 115, 111, 117, 114, 99, 101, 91, t1, t2, 47, i1, 44, 32, 111, 119, 110, 101, 114, 32, o1, o2, 93] 19 (114 : Int32) h F hall (by decide : 19 < 24) rfl) all0 (wd G 275 rfl) (wd G 3 rfl) (by decide) (by decide) rfl rfl) (argsL := [(.ref z), (.int (19 : Int32)), (.int (114 : Int32))]) (rest := []) rfl (lenOf pd_28 rfl) rfl (Nat.le_of_eq rfl) rfl at_574 (pc' := 577) rfl (k' := 50) (n' := 6000) rfl rfl (by decide) (by decide) ?_
  intro v_81 h_84 sz_82 q_83
  obtain ⟨rfl, rfl⟩ := q_83
  refine Seg.ifN at_577 (by decide) (pc' := 580) rfl ?_
  refine Seg.aload at_580 rfl rfl (pc' := 582) rfl ?_
  refine Seg.iload at_582 rfl (pc' := 584) rfl ?_
  refine Seg.bipush (v := 7) at_584 (by decide) (pc' := 586) rfl ?_
  refine Seg.iadd (v := (20 : Int32)) at_586 (by decide) (pc' := 587) rfl ?_
  refine Seg.bipush (v := 32) at_587 (by decide) (pc' := 589) rfl ?_
  refine Seg.callS (y' := (⟨"com/example/kredential/kredential/ResourceToStringPinLaw", "at", "(Ljava/lang/String;IC)Z"⟩ : MethodName)) (wd G 273 rfl) (wd G 274 rfl) (wd G 3 rfl) (wd G 275 rfl) ⟨by decide, by decide⟩ (Pays.of_ct (W := 0) (ct_at G z [82, 101, 115, 111, 117, 114, 99, 101, 91, t1, t2, 47, i1, 44, 32, 111, 119, 110, 101, 114, 32, o1, o2, 93] 20 (32 : Int32) h F hall (by decide : 20 < 24) rfl) all0 (wd G 275 rfl) (wd G 3 rfl) (by decide) (by decide) rfl rfl) (argsL := [(.ref z), (.int (20 : Int32)), (.int (32 : Int32))]) (rest := []) rfl (lenOf pd_28 rfl) rfl (Nat.le_of_eq rfl) rfl at_589 (pc' := 592) rfl (k' := 50) (n' := 6000) rfl rfl (by decide) (by decide) ?_
  intro v_85 h_88 sz_86 q_87
  obtain ⟨rfl, rfl⟩ := q_87
  refine Seg.ifN at_592 (by decide) (pc' := 595) rfl ?_
  refine Seg.iconst (v := 1) at_595 (by decide) (pc' := 596) rfl ?_
  refine Seg.goto (pc' := 600) at_596 (by decide) (by decide) ?_
  refine Seg.istore (L' := #[.val (.int p1), .val (.int p2), .val (.int p3), .val (.int p4), .val (.int (2 : Int32)), .val (.int (1 : Int32)), .val (.int (2 : Int32)), .val (.int t1), .val (.int t2), .val (.int i1), .val (.int i2), .val (.int o1), .val (.int o2), .val (.ref s1), .val (.ref s2), .val (.ref s3), .val (.ref rx), .val (.ref z), .val (.int (1 : Int32)), .val (.int (13 : Int32))]) at_600 rfl (pc' := 602) rfl ?_
  refine Seg.iload at_602 rfl (pc' := 604) rfl ?_
  refine Seg.bipush (v := 8) at_604 (by decide) (pc' := 606) rfl ?_
  refine Seg.iadd (v := (21 : Int32)) at_606 (by decide) (pc' := 607) rfl ?_
  refine Seg.istore (L' := #[.val (.int p1), .val (.int p2), .val (.int p3), .val (.int p4), .val (.int (2 : Int32)), .val (.int (1 : Int32)), .val (.int (2 : Int32)), .val (.int t1), .val (.int t2), .val (.int i1), .val (.int i2), .val (.int o1), .val (.int o2), .val (.ref s1), .val (.ref s2), .val (.ref s3), .val (.ref rx), .val (.ref z), .val (.int (1 : Int32)), .val (.int (21 : Int32))]) at_607 rfl (pc' := 609) rfl ?_
  refine Seg.iload at_609 rfl (pc' := 611) rfl ?_
  refine Seg.ifN at_611 (by decide) (pc' := 614) rfl ?_
  refine Seg.aload at_614 rfl rfl (pc' := 616) rfl ?_
  refine Seg.iload at_616 rfl (pc' := 618) rfl ?_
  refine Seg.iload at_618 rfl (pc' := 620) rfl ?_
  refine Seg.callS (y' := (⟨"com/example/kredential/kredential/ResourceToStringPinLaw", "at", "(Ljava/lang/String;IC)Z"⟩ : MethodName)) (wd G 273 rfl) (wd G 274 rfl) (wd G 3 rfl) (wd G 275 rfl) ⟨by decide, by decide⟩ (Pays.of_ct (W := 0) (ct_at G z [82, 101, 115, 111, 117, 114, 99, 101, 91, t1, t2, 47, i1, 44, 32, 111, 119, 110, 101, 114, 32, o1, o2, 93] 21 o1 h F hall (by decide : 21 < 24) rfl) all0 (wd G 275 rfl) (wd G 3 rfl) (by decide) (by decide) rfl rfl) (argsL := [(.ref z), (.int (21 : Int32)), (.int o1)]) (rest := []) rfl (lenOf pd_28 rfl) rfl (Nat.le_of_eq rfl) rfl at_620 (pc' := 623) rfl (k' := 50) (n' := 6000) rfl rfl (by decide) (by decide) ?_
  intro v_89 h_92 sz_90 q_91
  obtain ⟨rfl, rfl⟩ := q_91
  refine Seg.ifN at_623 (by decide) (pc' := 626) rfl ?_
  refine Seg.iconst (v := 1) at_626 (by decide) (pc' := 627) rfl ?_
  refine Seg.goto (pc' := 631) at_627 (by decide) (by decide) ?_
  refine Seg.istore (L' := #[.val (.int p1), .val (.int p2), .val (.int p3), .val (.int p4), .val (.int (2 : Int32)), .val (.int (1 : Int32)), .val (.int (2 : Int32)), .val (.int t1), .val (.int t2), .val (.int i1), .val (.int i2), .val (.int o1), .val (.int o2), .val (.ref s1), .val (.ref s2), .val (.ref s3), .val (.ref rx), .val (.ref z), .val (.int (1 : Int32)), .val (.int (21 : Int32))]) at_631 rfl (pc' := 633) rfl ?_
  refine Seg.iload at_633 rfl (pc' := 635) rfl ?_
  refine Seg.iconst (v := 2) at_635 (by decide) (pc' := 636) rfl ?_
  refine Seg.icN at_636 (by decide) (pc' := 639) rfl ?_
  refine Seg.iload at_639 rfl (pc' := 641) rfl ?_
  refine Seg.ifN at_641 (by decide) (pc' := 644) rfl ?_
  refine Seg.aload at_644 rfl rfl (pc' := 646) rfl ?_
  refine Seg.iload at_646 rfl (pc' := 648) rfl ?_
  refine Seg.iconst (v := 1) at_648 (by decide) (pc' := 649) rfl ?_
  refine Seg.iadd (v := (22 : Int32)) at_649 (by decide) (pc' := 650) rfl ?_
  refine Seg.iload at_650 rfl (pc' := 652) rfl ?_
  refine Seg.callS (y' := (⟨"com/example/kredential/kredential/ResourceToStringPinLaw", "at", "(Ljava/lang/String;IC)Z"⟩ : MethodName)) (wd G 273 rfl) (wd G 274 rfl) (wd G 3 rfl) (wd G 275 rfl) ⟨by decide, by decide⟩ (Pays.of_ct (W := 0) (ct_at G z [82, 101, 115, 111, 117, 114, 99, 101, 91, t1, t2, 47, i1, 44, 32, 111, 119, 110, 101, 114, 32, o1, o2, 93] 22 o2 h F hall (by decide : 22 < 24) rfl) all0 (wd G 275 rfl) (wd G 3 rfl) (by decide) (by decide) rfl rfl) (argsL := [(.ref z), (.int (22 : Int32)), (.int o2)]) (rest := []) rfl (lenOf pd_28 rfl) rfl (Nat.le_of_eq rfl) rfl at_652 (pc' := 655) rfl (k' := 50) (n' := 6000) rfl rfl (by decide) (by decide) ?_
  intro v_93 h_96 sz_94 q_95
  obtain ⟨rfl, rfl⟩ := q_95
  refine Seg.ifN at_655 (by decide) (pc' := 658) rfl ?_
  refine Seg.iconst (v := 1) at_658 (by decide) (pc' := 659) rfl ?_
  refine Seg.goto (pc' := 663) at_659 (by decide) (by decide) ?_
  refine Seg.istore (L' := #[.val (.int p1), .val (.int p2), .val (.int p3), .val (.int p4), .val (.int (2 : Int32)), .val (.int (1 : Int32)), .val (.int (2 : Int32)), .val (.int t1), .val (.int t2), .val (.int i1), .val (.int i2), .val (.int o1), .val (.int o2), .val (.ref s1), .val (.ref s2), .val (.ref s3), .val (.ref rx), .val (.ref z), .val (.int (1 : Int32)), .val (.int (21 : Int32))]) at_663 rfl (pc' := 665) rfl ?_
  refine Seg.iload at_665 rfl (pc' := 667) rfl ?_
  refine Seg.iload at_667 rfl (pc' := 669) rfl ?_
  refine Seg.iadd (v := (23 : Int32)) at_669 (by decide) (pc' := 670) rfl ?_
  refine Seg.istore (L' := #[.val (.int p1), .val (.int p2), .val (.int p3), .val (.int p4), .val (.int (2 : Int32)), .val (.int (1 : Int32)), .val (.int (2 : Int32)), .val (.int t1), .val (.int t2), .val (.int i1), .val (.int i2), .val (.int o1), .val (.int o2), .val (.ref s1), .val (.ref s2), .val (.ref s3), .val (.ref rx), .val (.ref z), .val (.int (1 : Int32)), .val (.int (23 : Int32))]) at_670 rfl (pc' := 672) rfl ?_
  refine Seg.iload at_672 rfl (pc' := 674) rfl ?_
  refine Seg.ifN at_674 (by decide) (pc' := 677) rfl ?_
  refine Seg.aload at_677 rfl rfl (pc' := 679) rfl ?_
  refine Seg.iload at_679 rfl (pc' := 681) rfl ?_
  refine Seg.bipush (v := 93) at_681 (by decide) (pc' := 683) rfl ?_
  refine Seg.callS (y' := (⟨"com/example/kredential/kredential/ResourceToStringPinLaw", "at", "(Ljava/lang/String;IC)Z"⟩ : MethodName)) (wd G 273 rfl) (wd G 274 rfl) (wd G 3 rfl) (wd G 275 rfl) ⟨by decide, by decide⟩ (Pays.of_ct (W := 0) (ct_at G z [82, 101, 115, 111, 117, 114, 99, 101, 91, t1, t2, 47, i1, 44, 32, 111, 119, 110, 101, 114, 32, o1, o2, 93] 23 (93 : Int32) h F hall (by decide : 23 < 24) rfl) all0 (wd G 275 rfl) (wd G 3 rfl) (by decide) (by decide) rfl rfl) (argsL := [(.ref z), (.int (23 : Int32)), (.int (93 : Int32))]) (rest := []) rfl (lenOf pd_28 rfl) rfl (Nat.le_of_eq rfl) rfl at_683 (pc' := 686) rfl (k' := 50) (n' := 6000) rfl rfl (by decide) (by decide) ?_
  intro v_97 h_100 sz_98 q_99
  obtain ⟨rfl, rfl⟩ := q_99
  refine Seg.ifN at_686 (by decide) (pc' := 689) rfl ?_
  refine Seg.iconst (v := 1) at_689 (by decide) (pc' := 690) rfl ?_
  refine Seg.goto (pc' := 694) at_690 (by decide) (by decide) ?_
  refine Seg.istore (L' := #[.val (.int p1), .val (.int p2), .val (.int p3), .val (.int p4), .val (.int (2 : Int32)), .val (.int (1 : Int32)), .val (.int (2 : Int32)), .val (.int t1), .val (.int t2), .val (.int i1), .val (.int i2), .val (.int o1), .val (.int o2), .val (.ref s1), .val (.ref s2), .val (.ref s3), .val (.ref rx), .val (.ref z), .val (.int (1 : Int32)), .val (.int (23 : Int32))]) at_694 rfl (pc' := 696) rfl ?_
  refine Seg.iload at_696 rfl (pc' := 698) rfl ?_
  exact Seg.retN (t := .boolean) (w := (1 : Int32)) rfl (by decide) (by decide) at_698 (by decide) (by decide) rfl
set_option maxRecDepth 65536 in
set_option maxHeartbeats 4000000 in
theorem sgm212 {l : Launch} {Z : State} {a0 : Array Value} (G : Env1 Z a0) (p1 : Int32) (p2 : Int32) (p3 : Int32) (p4 : Int32) (t1 : Int32) (t2 : Int32) (i1 : Int32) (i2 : Int32) (o1 : Int32) (o2 : Int32) (h : Heap) (kt1 : okT t1) (kt2 : okT t2) (ki1 : okI i1) (ki2 : okI i2) (ko1 : okI o1) (ko2 : okI o2) (hI : ¬ (i1 = 46 ∧ ((1 : Int32) = 1 ∨ i2 = 46))) (hO : ¬ (o1 = 46 ∧ ((2 : Int32) = 1 ∨ o2 = 46))) :
    Seg l Z a0 EL1 x code maxLocals ret room_1 (fun v h => v = some (.int 1)) h 0 0 [] 123 #[.val (.int p1), .val (.int p2), .val (.int p3), .val (.int p4), .val (.int (2 : Int32)), .val (.int (1 : Int32)), .val (.int (2 : Int32)), .val (.int t1), .val (.int t2), .val (.int i1), .val (.int i2), .val (.int o1), .val (.int o2), .unset, .unset, .unset, .unset, .unset, .unset, .unset] [] := by
  have rt1 := (okI_r (okT_I kt1)).1
  have rt2 := (okI_r (okT_I kt2)).1
  have ri1 := (okI_r ki1).1
  have ri2 := (okI_r ki2).1
  have ro1 := (okI_r ko1).1
  have ro2 := (okI_r ko2).1
  refine Seg.iload at_123 rfl (pc' := 125) rfl ?_
  refine Seg.iload at_125 rfl (pc' := 127) rfl ?_
  refine Seg.iload at_127 rfl (pc' := 129) rfl ?_
  refine Seg.callS (y' := (⟨"com/example/kredential/kredential/ResourceToStringPinLaw", "make", "(ICC)Ljava/lang/String;"⟩ : MethodName)) (wd G 8 rfl) (wd G 9 rfl) (wd G 3 rfl) (wd G 10 rfl) ⟨by decide, by decide⟩ (Pays.of_ct (W := 0) (ct_mk2 G t1 t2 h rt1 rt2) all0 (wd G 10 rfl) (wd G 3 rfl) (by decide) (by decide) rfl rfl) (argsL := [(.int (2 : Int32)), (.int t1), (.int t2)]) (rest := []) rfl (lenOf pd_29 rfl) rfl (Nat.le_of_eq rfl) rfl at_129 (pc' := 132) rfl (k' := 3) (n' := 8) rfl rfl (by decide) (by decide) ?_
  intro v_1 h_4 sz_2 q_3
  obtain ⟨s1, rfl, E1, T1⟩ := q_3
  refine Seg.astore (L' := #[.val (.int p1), .val (.int p2), .val (.int p3), .val (.int p4), .val (.int (2 : Int32)), .val (.int (1 : Int32)), .val (.int (2 : Int32)), .val (.int t1), .val (.int t2), .val (.int i1), .val (.int i2), .val (.int o1), .val (.int o2), .val (.ref s1), .unset, .unset, .unset, .unset, .unset, .unset]) at_132 rfl rfl (pc' := 134) rfl ?_
  refine Seg.iload at_134 rfl (pc' := 136) rfl ?_
  refine Seg.iload at_136 rfl (pc' := 138) rfl ?_
  refine Seg.iload at_138 rfl (pc' := 140) rfl ?_
  refine Seg.callS (y' := (⟨"com/example/kredential/kredential/ResourceToStringPinLaw", "make", "(ICC)Ljava/lang/String;"⟩ : MethodName)) (wd G 8 rfl) (wd G 9 rfl) (wd G 3 rfl) (wd G 10 rfl) ⟨by decide, by decide⟩ (Pays.of_ct (W := 0) (ct_mk1 G i1 i2 h_4 ri1 ri2) all0 (wd G 10 rfl) (wd G 3 rfl) (by decide) (by decide) rfl rfl) (argsL := [(.int (1 : Int32)), (.int i1), (.int i2)]) (rest := []) rfl (lenOf pd_29 rfl) rfl (Nat.le_of_eq rfl) rfl at_140 (pc' := 143) rfl (k' := 5) (n' := 13) rfl rfl (by decide) (by decide) ?_
  intro v_5 h_8 sz_6 q_7
  obtain ⟨s2, rfl, E2, T2⟩ := q_7
  refine Seg.astore (L' := #[.val (.int p1), .val (.int p2), .val (.int p3), .val (.int p4), .val (.int (2 : Int32)), .val (.int (1 : Int32)), .val (.int (2 : Int32)), .val (.int t1), .val (.int t2), .val (.int i1), .val (.int i2), .val (.int o1), .val (.int o2), .val (.ref s1), .val (.ref s2), .unset, .unset, .unset, .unset, .unset]) at_143 rfl rfl (pc' := 145) rfl ?_
  refine Seg.iload at_145 rfl (pc' := 147) rfl ?_
  refine Seg.iload at_147 rfl (pc' := 149) rfl ?_
  refine Seg.iload at_149 rfl (pc' := 151) rfl ?_
  refine Seg.callS (y' := (⟨"com/example/kredential/kredential/ResourceToStringPinLaw", "make", "(ICC)Ljava/lang/String;"⟩ : MethodName)) (wd G 8 rfl) (wd G 9 rfl) (wd G 3 rfl) (wd G 10 rfl) ⟨by decide, by decide⟩ (Pays.of_ct (W := 0) (ct_mk2 G o1 o2 h_8 ro1 ro2) all0 (wd G 10 rfl) (wd G 3 rfl) (by decide) (by decide) rfl rfl) (argsL := [(.int (2 : Int32)), (.int o1), (.int o2)]) (rest := []) rfl (lenOf pd_29 rfl) rfl (Nat.le_of_eq rfl) rfl at_151 (pc' := 154) rfl (k' := 8) (n' := 21) rfl rfl (by decide) (by decide) ?_
  intro v_9 h_12 sz_10 q_11
  obtain ⟨s3, rfl, E3, T3⟩ := q_11
  refine Seg.astore (L' := #[.val (.int p1), .val (.int p2), .val (.int p3), .val (.int p4), .val (.int (2 : Int32)), .val (.int (1 : Int32)), .val (.int (2 : Int32)), .val (.int t1), .val (.int t2), .val (.int i1), .val (.int i2), .val (.int o1), .val (.int o2), .val (.ref s1), .val (.ref s2), .val (.ref s3), .unset, .unset, .unset, .unset]) at_154 rfl rfl (pc' := 156) rfl ?_
  refine Seg.newO (wd G 55 rfl) (wd G 56 rfl) (wd G 57 rfl) at_156 (pc' := 159) rfl (k' := 9) (n' := 24) rfl rfl (by decide) (by decide) ?_
  intro b_13 h_15 E_14 e_b_13 l_b_13 A_b_13 D_b_13
  have F_type_b_13 : Fld Z h_15 b_13 "com/example/kredential/kredential/Resource" "type" "Ljava/lang/String;" Value.null := D_b_13 (Or.inr (wd G 140 rfl)) (ty := (.object "java/lang/String")) (by decide)
  have F_id_b_13 : Fld Z h_15 b_13 "com/example/kredential/kredential/Resource" "id" "Ljava/lang/String;" Value.null := D_b_13 (Or.inr (wd G 142 rfl)) (ty := (.object "java/lang/String")) (by decide)
  have F_owner_b_13 : Fld Z h_15 b_13 "com/example/kredential/kredential/Resource" "owner" "Ljava/lang/String;" Value.null := D_b_13 (Or.inr (wd G 144 rfl)) (ty := (.object "java/lang/String")) (by decide)
  refine Seg.dup at_159 rfl (pc' := 160) rfl ?_
  refine Seg.aload at_160 rfl rfl (pc' := 162) rfl ?_
  refine Seg.aload at_162 rfl rfl (pc' := 164) rfl ?_
  refine Seg.aload at_164 rfl rfl (pc' := 166) rfl ?_
  have E_16 : Ext h_4 h_12 := ext_tr E2 E3
  have E_17 : Ext h_4 h_15 := ext_tr E_16 E_14
  have F_18 := T1.ext E_17
  have E_19 : Ext h_8 h_15 := ext_tr E3 E_14
  have F_20 := T2.ext E_19
  have F_21 := T3.ext E_14
  refine Seg.callN (y' := (⟨"com/example/kredential/kredential/Resource", "<init>", "(Ljava/lang/String;Ljava/lang/String;Ljava/lang/String;)V"⟩ : MethodName)) (a := b_13) rfl (wd G 58 rfl) (wd G 59 rfl) (wd G 60 rfl) ⟨by decide, by decide⟩ (Pays.of_ct (W := 1) (ct_rinit G b_13 s1 s2 s3 [t1, t2] [i1] [o1, o2] .null .null .null h_15 A_b_13 F_type_b_13 F_id_b_13 F_owner_b_13 F_18 F_20 F_21 ⟨(fun c hc => by simp only [List.mem_cons, List.not_mem_nil, or_false] at hc; rcases hc with rfl | rfl <;> assumption), (by decide : 0 < 2), (by decide : 2 ≤ 2)⟩ ⟨⟨(fun c hc => by simp only [List.mem_cons, List.not_mem_nil, or_false] at hc; rcases hc with rfl <;> assumption), (by decide : 0 < 1), (by decide : 1 ≤ 2)⟩, (fun q => hI ⟨(List.cons.inj q).1, Or.inl rfl⟩), (fun q => nomatch (List.cons.inj q).2)⟩ ⟨⟨(fun c hc => by simp only [List.mem_cons, List.not_mem_nil, or_false] at hc; rcases hc with rfl | rfl <;> assumption), (by decide : 0 < 2), (by decide : 2 ≤ 2)⟩, (fun q => nomatch (List.cons.inj q).2), (fun q => hO ⟨(List.cons.inj q).1, Or.inr (List.cons.inj (List.cons.inj q).2).1⟩)⟩) (allS (List.mem_of_getElem? (i := 0) rfl) all0) (wd G 60 rfl) (wd G 57 rfl) (by decide) (by decide) rfl rfl) (argsL := [(.ref s1), (.ref s2), (.ref s3)]) (rest := [(.ref b_13)]) rfl (lenOf pd_30 rfl) rfl (Nat.le_of_eq rfl) rfl at_166 (pc' := 169) rfl (k' := 21) (n' := 84) rfl rfl (by decide) (by decide) ?_
  intro v_22 h_25 sz_23 q_24
  obtain ⟨rfl, K1, G0, G1, G2⟩ := q_24
  refine Seg.astore (L' := #[.val (.int p1), .val (.int p2), .val (.int p3), .val (.int p4), .val (.int (2 : Int32)), .val (.int (1 : Int32)), .val (.int (2 : Int32)), .val (.int t1), .val (.int t2), .val (.int i1), .val (.int i2), .val (.int o1), .val (.int o2), .val (.ref s1), .val (.ref s2), .val (.ref s3), .val (.ref b_13), .unset, .unset, .unset]) at_169 rfl rfl (pc' := 171) rfl ?_
  refine Seg.aload at_171 rfl rfl (pc' := 173) rfl ?_
  have F_26 := (A_b_13.keep K1)
  have E_27 : Ext h_4 h_25 := ext_kp E_17 K1 (allS (Nat.le_trans E_16.1 (Nat.le_of_eq e_b_13)) all0)
  have F_28 := T1.ext E_27
  have E_29 : Ext h_8 h_25 := ext_kp E_19 K1 (allS (Nat.le_trans E3.1 (Nat.le_of_eq e_b_13)) all0)
  have F_30 := T2.ext E_29
  have E_31 : Ext h_12 h_25 := ext_kp E_14 K1 (allS (Nat.le_trans (ext_rfl _).1 (Nat.le_of_eq e_b_13)) all0)
  have F_32 := T3.ext E_31
  refine Seg.callV (y' := (⟨"com/example/kredential/kredential/Resource", "toString", "()Ljava/lang/String;"⟩ : MethodName)) (z := (⟨"com/example/kredential/kredential/Resource", "toString", "()Ljava/lang/String;"⟩ : MethodName)) (a := b_13) (wd G 145 rfl) (wd G 146 rfl) (nf_sel (wd G 148 rfl)) (wd G 148 rfl) (wd G 147 rfl) ⟨by decide, by decide⟩ F_26 (Pays.of_ct (W := 0) (ct_rts G b_13 s1 s2 s3 [t1, t2] [i1] [o1, o2] h_25 F_26 G0 G1 G2 F_28 F_30 F_32 (fun c hc => by simp only [List.mem_cons, List.not_mem_nil, or_false] at hc; rcases hc with rfl | rfl <;> assumption) (fun c hc => by simp only [List.mem_cons, List.not_mem_nil, or_false] at hc; rcases hc with rfl <;> assumption) (fun c hc => by simp only [List.mem_cons, List.not_mem_nil, or_false] at hc; rcases hc with rfl | rfl <;> assumption) (by decide : 2 ≤ 2) (by decide : 1 ≤ 2) (by decide : 2 ≤ 2)) all0 (wd G 149 rfl) (wd G 57 rfl) (by decide) (by decide) rfl rfl) (argsL := []) (rest := []) rfl (lenOf pd_22 rfl) rfl (Nat.le_of_eq rfl) rfl at_173 (pc' := 176) rfl (k' := 34) (n' := 334) rfl rfl (by decide) (by decide) ?_
  intro v_33 h_36 sz_34 q_35
  obtain ⟨z, rfl, E9, F9⟩ := q_35
  exact (sgt212 G p1 p2 p3 p4 t1 t2 i1 i2 o1 o2 s1 s2 s3 b_13 z h_36 F9 rt1 rt2 ri1 ri2 ro1 ro2).mono (by decide) (by decide) all0
set_option maxRecDepth 65536 in
set_option maxHeartbeats 4000000 in
theorem sgt221 {l : Launch} {Z : State} {a0 : Array Value} (G : Env1 Z a0) (p1 : Int32) (p2 : Int32) (p3 : Int32) (p4 : Int32) (t1 : Int32) (t2 : Int32) (i1 : Int32) (i2 : Int32) (o1 : Int32) (o2 : Int32) (s1 : Addr) (s2 : Addr) (s3 : Addr) (rx : Addr) (z : Addr) (h : Heap) (F : Str Z h z [82, 101, 115, 111, 117, 114, 99, 101, 91, t1, t2, 47, i1, i2, 44, 32, 111, 119, 110, 101, 114, 32, o1, 93]) (rt1 : ¬ t1 < 0 ∧ ¬ (255 : Int32) < t1) (rt2 : ¬ t2 < 0 ∧ ¬ (255 : Int32) < t2) (ri1 : ¬ i1 < 0 ∧ ¬ (255 : Int32) < i1) (ri2 : ¬ i2 < 0 ∧ ¬ (255 : Int32) < i2) (ro1 : ¬ o1 < 0 ∧ ¬ (255 : Int32) < o1) (ro2 : ¬ o2 < 0 ∧ ¬ (255 : Int32) < o2) :
    Seg l Z a0 EL1 x code maxLocals ret room_1 (fun v h => v = some (.int 1)) h 50 6000 [] 176 #[.val (.int p1), .val (.int p2), .val (.int p3), .val (.int p4), .val (.int (2 : Int32)), .val (.int (2 : Int32)), .val (.int (1 : Int32)), .val (.int t1), .val (.int t2), .val (.int i1), .val (.int i2), .val (.int o1), .val (.int o2), .val (.ref s1), .val (.ref s2), .val (.ref s3), .val (.ref rx), .unset, .unset, .unset] [(.ref z)] := by
  have f1 := F.exa
  have hall : ∀ c ∈ [82, 101, 115, 111, 117, 114, 99, 101, 91, t1, t2, 47, i1, i2, 44, 32, 111, 119, 110, 101, 114, 32, o1, 93], ¬ c < 0 ∧ ¬ (255 : Int32) < c := by
    intro c hc
    simp only [List.mem_cons, List.not_mem_nil, or_false] at hc
    rcases hc with rfl | rfl | rfl | rfl | rfl | rfl | rfl | rfl | rfl | rfl | rfl | rfl | rfl | rfl | rfl | rfl | rfl | rfl | rfl | rfl | rfl | rfl | rfl | rfl <;> first | assumption | decide
  refine Seg.astore (L' := #[.val (.int p1), .val (.int p2), .val (.int p3), .val (.int p4), .val (.int (2 : Int32)), .val (.int (2 : Int32)), .val (.int (1 : Int32)), .val (.int t1), .val (.int t2), .val (.int i1), .val (.int i2), .val (.int o1), .val (.int o2), .val (.ref s1), .val (.ref s2), .val (.ref s3), .val (.ref rx), .val (.ref z), .unset, .unset]) at_176 rfl rfl (pc' := 178) rfl ?_
  refine Seg.aload at_178 rfl rfl (pc' := 180) rfl ?_
  refine Seg.callV (y' := (⟨"java/lang/String", "length", "()I"⟩ : MethodName)) (z := (⟨"java/lang/String", "length", "()I"⟩ : MethodName)) (a := z) (wd G 272 rfl) (wd G 79 rfl) (nf_sel (wd G 81 rfl)) (wd G 81 rfl) (wd G 80 rfl) ⟨by decide, by decide⟩ f1 ((pays_len (W := 0) G h F (by decide) (by decide)).post (Q' := fun v h' => v = some (.int 24) ∧ h = h') fun v h' q => ⟨q.1, q.2⟩) (argsL := []) (rest := []) rfl (lenOf pd_0 rfl) rfl (Nat.le_of_eq rfl) rfl at_180 (pc' := 183) rfl (k' := 50) (n' := 6000) rfl rfl (by decide) (by decide) ?_
  intro v_1 h_4 sz_2 q_3
  obtain ⟨rfl, rfl⟩ := q_3
  refine Seg.bipush (v := 19) at_183 (by decide) (pc' := 185) rfl ?_
  refine Seg.iload at_185 rfl (pc' := 187) rfl ?_
  refine Seg.iadd (v := (21 : Int32)) at_187 (by decide) (pc' := 188) rfl ?_
  refine Seg.iload at_188 rfl (pc' := 190) rfl ?_
  refine Seg.iadd (v := (23 : Int32)) at_190 (by decide) (pc' := 191) rfl ?_
  refine Seg.iload at_191 rfl (pc' := 193) rfl ?_
  refine Seg.iadd (v := (24 : Int32)) at_193 (by decide) (pc' := 194) rfl ?_
  refine Seg.icN at_194 (by decide) (pc' := 197) rfl ?_
  refine Seg.iconst (v := 1) at_197 (by decide) (pc' := 198) rfl ?_
  refine Seg.goto (pc' := 202) at_198 (by decide) (by decide) ?_
  refine Seg.istore (L' := #[.val (.int p1), .val (.int p2), .val (.int p3), .val (.int p4), .val (.int (2 : Int32)), .val (.int (2 : Int32)), .val (.int (1 : Int32)), .val (.int t1), .val (.int t2), .val (.int i1), .val (.int i2), .val (.int o1), .val (.int o2), .val (.ref s1), .val (.ref s2), .val (.ref s3), .val (.ref rx), .val (.ref z), .val (.int (1 : Int32)), .unset]) at_202 rfl (pc' := 204) rfl ?_
  refine Seg.iload at_204 rfl (pc' := 206) rfl ?_
  refine Seg.ifN at_206 (by decide) (pc' := 209) rfl ?_
  refine Seg.aload at_209 rfl rfl (pc' := 211) rfl ?_
  refine Seg.iconst (v := 0) at_211 (by decide) (pc' := 212) rfl ?_
  refine Seg.bipush (v := 82) at_212 (by decide) (pc' := 214) rfl ?_
  refine Seg.callS (y' := (⟨"com/example/kredential/kredential/ResourceToStringPinLaw", "at", "(Ljava/lang/String;IC)Z"⟩ : MethodName)) (wd G 273 rfl) (wd G 274 rfl) (wd G 3 rfl) (wd G 275 rfl) ⟨by decide, by decide⟩ (Pays.of_ct (W := 0) (ct_at G z [82, 101, 115, 111, 117, 114, 99, 101, 91, t1, t2, 47, i1, i2, 44, 32, 111, 119, 110, 101, 114, 32, o1, 93] 0 (82 : Int32) h F hall (by decide : 0 < 24) rfl) all0 (wd G 275 rfl) (wd G 3 rfl) (by decide) (by decide) rfl rfl) (argsL := [(.ref z), (.int (0 : Int32)), (.int (82 : Int32))]) (rest := []) rfl (lenOf pd_28 rfl) rfl (Nat.le_of_eq rfl) rfl at_214 (pc' := 217) rfl (k' := 50) (n' := 6000) rfl rfl (by decide) (by decide) ?_
  intro v_5 h_8 sz_6 q_7
  obtain ⟨rfl, rfl⟩ := q_7
  refine Seg.ifN at_217 (by decide) (pc' := 220) rfl ?_
  refine Seg.aload at_220 rfl rfl (pc' := 222) rfl ?_
  refine Seg.iconst (v := 1) at_222 (by decide) (pc' := 223) rfl ?_
  refine Seg.bipush (v := 101) at_223 (by decide) (pc' := 225) rfl ?_
  refine Seg.callS (y' := (⟨"com/example/kredential/kredential/ResourceToStringPinLaw", "at", "(Ljava/lang/String;IC)Z"⟩ : MethodName)) (wd G 273 rfl) (wd G 274 rfl) (wd G 3 rfl) (wd G 275 rfl) ⟨by decide, by decide⟩ (Pays.of_ct (W := 0) (ct_at G z [82, 101, 115, 111, 117, 114, 99, 101, 91, t1, t2, 47, i1, i2, 44, 32, 111, 119, 110, 101, 114, 32, o1, 93] 1 (101 : Int32) h F hall (by decide : 1 < 24) rfl) all0 (wd G 275 rfl) (wd G 3 rfl) (by decide) (by decide) rfl rfl) (argsL := [(.ref z), (.int (1 : Int32)), (.int (101 : Int32))]) (rest := []) rfl (lenOf pd_28 rfl) rfl (Nat.le_of_eq rfl) rfl at_225 (pc' := 228) rfl (k' := 50) (n' := 6000) rfl rfl (by decide) (by decide) ?_
  intro v_9 h_12 sz_10 q_11
  obtain ⟨rfl, rfl⟩ := q_11
  refine Seg.ifN at_228 (by decide) (pc' := 231) rfl ?_
  refine Seg.aload at_231 rfl rfl (pc' := 233) rfl ?_
  refine Seg.iconst (v := 2) at_233 (by decide) (pc' := 234) rfl ?_
  refine Seg.bipush (v := 115) at_234 (by decide) (pc' := 236) rfl ?_
  refine Seg.callS (y' := (⟨"com/example/kredential/kredential/ResourceToStringPinLaw", "at", "(Ljava/lang/String;IC)Z"⟩ : MethodName)) (wd G 273 rfl) (wd G 274 rfl) (wd G 3 rfl) (wd G 275 rfl) ⟨by decide, by decide⟩ (Pays.of_ct (W := 0) (ct_at G z [82, 101, 115, 111, 117, 114, 99, 101, 91, t1, t2, 47, i1, i2, 44, 32, 111, 119, 110, 101, 114, 32, o1, 93] 2 (115 : Int32) h F hall (by decide : 2 < 24) rfl) all0 (wd G 275 rfl) (wd G 3 rfl) (by decide) (by decide) rfl rfl) (argsL := [(.ref z), (.int (2 : Int32)), (.int (115 : Int32))]) (rest := []) rfl (lenOf pd_28 rfl) rfl (Nat.le_of_eq rfl) rfl at_236 (pc' := 239) rfl (k' := 50) (n' := 6000) rfl rfl (by decide) (by decide) ?_
  intro v_13 h_16 sz_14 q_15
  obtain ⟨rfl, rfl⟩ := q_15
  refine Seg.ifN at_239 (by decide) (pc' := 242) rfl ?_
  refine Seg.aload at_242 rfl rfl (pc' := 244) rfl ?_
  refine Seg.iconst (v := 3) at_244 (by decide) (pc' := 245) rfl ?_
  refine Seg.bipush (v := 111) at_245 (by decide) (pc' := 247) rfl ?_
  refine Seg.callS (y' := (⟨"com/example/kredential/kredential/ResourceToStringPinLaw", "at", "(Ljava/lang/String;IC)Z"⟩ : MethodName)) (wd G 273 rfl) (wd G 274 rfl) (wd G 3 rfl) (wd G 275 rfl) ⟨by decide, by decide⟩ (Pays.of_ct (W := 0) (ct_at G z [82, 101, 115, 111, 117, 114, 99, 101, 91, t1, t2, 47, i1, i2, 44, 32, 111, 119, 110, 101, 114, 32, o1, 93] 3 (111 : Int32) h F hall (by decide : 3 < 24) rfl) all0 (wd G 275 rfl) (wd G 3 rfl) (by decide) (by decide) rfl rfl) (argsL := [(.ref z), (.int (3 : Int32)), (.int (111 : Int32))]) (rest := []) rfl (lenOf pd_28 rfl) rfl (Nat.le_of_eq rfl) rfl at_247 (pc' := 250) rfl (k' := 50) (n' := 6000) rfl rfl (by decide) (by decide) ?_
  intro v_17 h_20 sz_18 q_19
  obtain ⟨rfl, rfl⟩ := q_19
  refine Seg.ifN at_250 (by decide) (pc' := 253) rfl ?_
  refine Seg.aload at_253 rfl rfl (pc' := 255) rfl ?_
  refine Seg.iconst (v := 4) at_255 (by decide) (pc' := 256) rfl ?_
  refine Seg.bipush (v := 117) at_256 (by decide) (pc' := 258) rfl ?_
  refine Seg.callS (y' := (⟨"com/example/kredential/kredential/ResourceToStringPinLaw", "at", "(Ljava/lang/String;IC)Z"⟩ : MethodName)) (wd G 273 rfl) (wd G 274 rfl) (wd G 3 rfl) (wd G 275 rfl) ⟨by decide, by decide⟩ (Pays.of_ct (W := 0) (ct_at G z [82, 101, 115, 111, 117, 114, 99, 101, 91, t1, t2, 47, i1, i2, 44, 32, 111, 119, 110, 101, 114, 32, o1, 93] 4 (117 : Int32) h F hall (by decide : 4 < 24) rfl) all0 (wd G 275 rfl) (wd G 3 rfl) (by decide) (by decide) rfl rfl) (argsL := [(.ref z), (.int (4 : Int32)), (.int (117 : Int32))]) (rest := []) rfl (lenOf pd_28 rfl) rfl (Nat.le_of_eq rfl) rfl at_258 (pc' := 261) rfl (k' := 50) (n' := 6000) rfl rfl (by decide) (by decide) ?_
  intro v_21 h_24 sz_22 q_23
  obtain ⟨rfl, rfl⟩ := q_23
  refine Seg.ifN at_261 (by decide) (pc' := 264) rfl ?_
  refine Seg.aload at_264 rfl rfl (pc' := 266) rfl ?_
  refine Seg.iconst (v := 5) at_266 (by decide) (pc' := 267) rfl ?_
  refine Seg.bipush (v := 114) at_267 (by decide) (pc' := 269) rfl ?_
  refine Seg.callS (y' := (⟨"com/example/kredential/kredential/ResourceToStringPinLaw", "at", "(Ljava/lang/String;IC)Z"⟩ : MethodName)) (wd G 273 rfl) (wd G 274 rfl) (wd G 3 rfl) (wd G 275 rfl) ⟨by decide, by decide⟩ (Pays.of_ct (W := 0) (ct_at G z [82, 101, 115, 111, 117, 114, 99, 101, 91, t1, t2, 47, i1, i2, 44, 32, 111, 119, 110, 101, 114, 32, o1, 93] 5 (114 : Int32) h F hall (by decide : 5 < 24) rfl) all0 (wd G 275 rfl) (wd G 3 rfl) (by decide) (by decide) rfl rfl) (argsL := [(.ref z), (.int (5 : Int32)), (.int (114 : Int32))]) (rest := []) rfl (lenOf pd_28 rfl) rfl (Nat.le_of_eq rfl) rfl at_269 (pc' := 272) rfl (k' := 50) (n' := 6000) rfl rfl (by decide) (by decide) ?_
  intro v_25 h_28 sz_26 q_27
  obtain ⟨rfl, rfl⟩ := q_27
  refine Seg.ifN at_272 (by decide) (pc' := 275) rfl ?_
  refine Seg.aload at_275 rfl rfl (pc' := 277) rfl ?_
  refine Seg.bipush (v := 6) at_277 (by decide) (pc' := 279) rfl ?_
  refine Seg.bipush (v := 99) at_279 (by decide) (pc' := 281) rfl ?_
  refine Seg.callS (y' := (⟨"com/example/kredential/kredential/ResourceToStringPinLaw", "at", "(Ljava/lang/String;IC)Z"⟩ : MethodName)) (wd G 273 rfl) (wd G 274 rfl) (wd G 3 rfl) (wd G 275 rfl) ⟨by decide, by decide⟩ (Pays.of_ct (W := 0) (ct_at G z [82, 101, 115, 111, 117, 114, 99, 101, 91, t1, t2, 47, i1, i2, 44, 32, 111, 119, 110, 101, 114, 32, o1, 93] 6 (99 : Int32) h F hall (by decide : 6 < 24) rfl) all0 (wd G 275 rfl) (wd G 3 rfl) (by decide) (by decide) rfl rfl) (argsL := [(.ref z), (.int (6 : Int32)), (.int (99 : Int32))]) (rest := []) rfl (lenOf pd_28 rfl) rfl (Nat.le_of_eq rfl) rfl at_281 (pc' := 284) rfl (k' := 50) (n' := 6000) rfl rfl (by decide) (by decide) ?_
  intro v_29 h_32 sz_30 q_31
  obtain ⟨rfl, rfl⟩ := q_31
  refine Seg.ifN at_284 (by decide) (pc' := 287) rfl ?_
  refine Seg.aload at_287 rfl rfl (pc' := 289) rfl ?_
  refine Seg.bipush (v := 7) at_289 (by decide) (pc' := 291) rfl ?_
  refine Seg.bipush (v := 101) at_291 (by decide) (pc' := 293) rfl ?_
  refine Seg.callS (y' := (⟨"com/example/kredential/kredential/ResourceToStringPinLaw", "at", "(Ljava/lang/String;IC)Z"⟩ : MethodName)) (wd G 273 rfl) (wd G 274 rfl) (wd G 3 rfl) (wd G 275 rfl) ⟨by decide, by decide⟩ (Pays.of_ct (W := 0) (ct_at G z [82, 101, 115, 111, 117, 114, 99, 101, 91, t1, t2, 47, i1, i2, 44, 32, 111, 119, 110, 101, 114, 32, o1, 93] 7 (101 : Int32) h F hall (by decide : 7 < 24) rfl) all0 (wd G 275 rfl) (wd G 3 rfl) (by decide) (by decide) rfl rfl) (argsL := [(.ref z), (.int (7 : Int32)), (.int (101 : Int32))]) (rest := []) rfl (lenOf pd_28 rfl) rfl (Nat.le_of_eq rfl) rfl at_293 (pc' := 296) rfl (k' := 50) (n' := 6000) rfl rfl (by decide) (by decide) ?_
  intro v_33 h_36 sz_34 q_35
  obtain ⟨rfl, rfl⟩ := q_35
  refine Seg.ifN at_296 (by decide) (pc' := 299) rfl ?_
  refine Seg.aload at_299 rfl rfl (pc' := 301) rfl ?_
  refine Seg.bipush (v := 8) at_301 (by decide) (pc' := 303) rfl ?_
  refine Seg.bipush (v := 91) at_303 (by decide) (pc' := 305) rfl ?_
  refine Seg.callS (y' := (⟨"com/example/kredential/kredential/ResourceToStringPinLaw", "at", "(Ljava/lang/String;IC)Z"⟩ : MethodName)) (wd G 273 rfl) (wd G 274 rfl) (wd G 3 rfl) (wd G 275 rfl) ⟨by decide, by decide⟩ (Pays.of_ct (W := 0) (ct_at G z [82, 101, 115, 111, 117, 114, 99, 101, 91, t1, t2, 47, i1, i2, 44, 32, 111, 119, 110, 101, 114, 32, o1, 93] 8 (91 : Int32) h F hall (by decide : 8 < 24) rfl) all0 (wd G 275 rfl) (wd G 3 rfl) (by decide) (by decide) rfl rfl) (argsL := [(.ref z), (.int (8 : Int32)), (.int (91 : Int32))]) (rest := []) rfl (lenOf pd_28 rfl) rfl (Nat.le_of_eq rfl) rfl at_305 (pc' := 308) rfl (k' := 50) (n' := 6000) rfl rfl (by decide) (by decide) ?_
  intro v_37 h_40 sz_38 q_39
  obtain ⟨rfl, rfl⟩ := q_39
  refine Seg.ifN at_308 (by decide) (pc' := 311) rfl ?_
  refine Seg.iconst (v := 1) at_311 (by decide) (pc' := 312) rfl ?_
  refine Seg.goto (pc' := 316) at_312 (by decide) (by decide) ?_
  refine Seg.istore (L' := #[.val (.int p1), .val (.int p2), .val (.int p3), .val (.int p4), .val (.int (2 : Int32)), .val (.int (2 : Int32)), .val (.int (1 : Int32)), .val (.int t1), .val (.int t2), .val (.int i1), .val (.int i2), .val (.int o1), .val (.int o2), .val (.ref s1), .val (.ref s2), .val (.ref s3), .val (.ref rx), .val (.ref z), .val (.int (1 : Int32)), .unset]) at_316 rfl (pc' := 318) rfl ?_
  refine Seg.bipush (v := 9) at_318 (by decide) (pc' := 320) rfl ?_
  refine Seg.istore (L' := #[.val (.int p1), .val (.int p2), .val (.int p3), .val (.int p4), .val (.int (2 : Int32)), .val (.int (2 : Int32)), .val (.int (1 : Int32)), .val (.int t1), .val (.int t2), .val (.int i1), .val (.int i2), .val (.int o1), .val (.int o2), .val (.ref s1), .val (.ref s2), .val (.ref s3), .val (.ref rx), .val (.ref z), .val (.int (1 : Int32)), .val (.int (9 : Int32))]) at_320 rfl (pc' := 322) rfl ?_
  refine Seg.iload at_322 rfl (pc' := 324) rfl ?_
  refine Seg.ifN at_324 (by decide) (pc' := 327) rfl ?_
  refine Seg.aload at_327 rfl rfl (pc' := 329) rfl ?_
  refine Seg.iload at_329 rfl (pc' := 331) rfl ?_
  refine Seg.iload at_331 rfl (pc' := 333) rfl ?_
  refine Seg.callS (y' := (⟨"com/example/kredential/kredential/ResourceToStringPinLaw", "at", "(Ljava/lang/String;IC)Z"⟩ : MethodName)) (wd G 273 rfl) (wd G 274 rfl) (wd G 3 rfl) (wd G 275 rfl) ⟨by decide, by decide⟩ (Pays.of_ct (W := 0) (ct_at G z [82, 101, 115, 111, 117, 114, 99, 101, 91, t1, t2, 47, i1, i2, 44, 32, 111, 119, 110, 101, 114, 32, o1, 93] 9 t1 h F hall (by decide : 9 < 24) rfl) all0 (wd G 275 rfl) (wd G 3 rfl) (by decide) (by decide) rfl rfl) (argsL := [(.ref z), (.int (9 : Int32)), (.int t1)]) (rest := []) rfl (lenOf pd_28 rfl) rfl (Nat.le_of_eq rfl) rfl at_333 (pc' := 336) rfl (k' := 50) (n' := 6000) rfl rfl (by decide) (by decide) ?_
  intro v_41 h_44 sz_42 q_43
  obtain ⟨rfl, rfl⟩ := q_43
  refine Seg.ifN at_336 (by decide) (pc' := 339) rfl ?_
  refine Seg.iconst (v := 1) at_339 (by decide) (pc' := 340) rfl ?_
  refine Seg.goto (pc' := 344) at_340 (by decide) (by decide) ?_
  refine Seg.istore (L' := #[.val (.int p1), .val (.int p2), .val (.int p3), .val (.int p4), .val (.int (2 : Int32)), .val (.int (2 : Int32)), .val (.int (1 : Int32)), .val (.int t1), .val (.int t2), .val (.int i1), .val (.int i2), .val (.int o1), .val (.int o2), .val (.ref s1), .val (.ref s2), .val (.ref s3), .val (.ref rx), .val (.ref z), .val (.int (1 : Int32)), .val (.int (9 : Int32))]) at_344 rfl (pc' := 346) rfl ?_
  refine Seg.iload at_346 rfl (pc' := 348) rfl ?_
  refine Seg.iconst (v := 2) at_348 (by decide) (pc' := 349) rfl ?_
  refine Seg.icN at_349 (by decide) (pc' := 352) rfl ?_
  refine Seg.iload at_352 rfl (pc' := 354) rfl ?_
  refine Seg.ifN at_354 (by decide) (pc' := 357) rfl ?_
  refine Seg.aload at_357 rfl rfl (pc' := 359) rfl ?_
  refine Seg.iload at_359 rfl (pc' := 361) rfl ?_
  refine Seg.iconst (v := 1) at_361 (by decide) (pc' := 362) rfl ?_
  refine Seg.iadd (v := (10 : Int32)) at_362 (by decide) (pc' := 363) rfl ?_
  refine Seg.iload at_363 rfl (pc' := 365) rfl ?_
  refine Seg.callS (y' := (⟨"com/example/kredential/kredential/ResourceToStringPinLaw", "at", "(Ljava/lang/String;IC)Z"⟩ : MethodName)) (wd G 273 rfl) (wd G 274 rfl) (wd G 3 rfl) (wd G 275 rfl) ⟨by decide, by decide⟩ (Pays.of_ct (W := 0) (ct_at G z [82, 101, 115, 111, 117, 114, 99, 101, 91, t1, t2, 47, i1, i2, 44, 32, 111, 119, 110, 101, 114, 32, o1, 93] 10 t2 h F hall (by decide : 10 < 24) rfl) all0 (wd G 275 rfl) (wd G 3 rfl) (by decide) (by decide) rfl rfl) (argsL := [(.ref z), (.int (10 : Int32)), (.int t2)]) (rest := []) rfl (lenOf pd_28 rfl) rfl (Nat.le_of_eq rfl) rfl at_365 (pc' := 368) rfl (k' := 50) (n' := 6000) rfl rfl (by decide) (by decide) ?_
  intro v_45 h_48 sz_46 q_47
  obtain ⟨rfl, rfl⟩ := q_47
  refine Seg.ifN at_368 (by decide) (pc' := 371) rfl ?_
  refine Seg.iconst (v := 1) at_371 (by decide) (pc' := 372) rfl ?_
  refine Seg.goto (pc' := 376) at_372 (by decide) (by decide) ?_
  refine Seg.istore (L' := #[.val (.int p1), .val (.int p2), .val (.int p3), .val (.int p4), .val (.int (2 : Int32)), .val (.int (2 : Int32)), .val (.int (1 : Int32)), .val (.int t1), .val (.int t2), .val (.int i1), .val (.int i2), .val (.int o1), .val (.int o2), .val (.ref s1), .val (.ref s2), .val (.ref s3), .val (.ref rx), .val (.ref z), .val (.int (1 : Int32)), .val (.int (9 : Int32))]) at_376 rfl (pc' := 378) rfl ?_
  refine Seg.iload at_378 rfl (pc' := 380) rfl ?_
  refine Seg.iload at_380 rfl (pc' := 382) rfl ?_
  refine Seg.iadd (v := (11 : Int32)) at_382 (by decide) (pc' := 383) rfl ?_
  refine Seg.istore (L' := #[.val (.int p1), .val (.int p2), .val (.int p3), .val (.int p4), .val (.int (2 : Int32)), .val (.int (2 : Int32)), .val (.int (1 : Int32)), .val (.int t1), .val (.int t2), .val (.int i1), .val (.int i2), .val (.int o1), .val (.int o2), .val (.ref s1), .val (.ref s2), .val (.ref s3), .val (.ref rx), .val (.ref z), .val (.int (1 : Int32)), .val (.int (11 : Int32))]) at_383 rfl (pc' := 385) rfl ?_
  refine Seg.iload at_385 rfl (pc' := 387) rfl ?_
  refine Seg.ifN at_387 (by decide) (pc' := 390) rfl ?_
  refine Seg.aload at_390 rfl rfl (pc' := 392) rfl ?_
  refine Seg.iload at_392 rfl (pc' := 394) rfl ?_
  refine Seg.bipush (v := 47) at_394 (by decide) (pc' := 396) rfl ?_
  refine Seg.callS (y' := (⟨"com/example/kredential/kredential/ResourceToStringPinLaw", "at", "(Ljava/lang/String;IC)Z"⟩ : MethodName)) (wd G 273 rfl) (wd G 274 rfl) (wd G 3 rfl) (wd G 275 rfl) ⟨by decide, by decide⟩ (Pays.of_ct (W := 0) (ct_at G z [82, 101, 115, 111, 117, 114, 99, 101, 91, t1, t2, 47, i1, i2, 44, 32, 111, 119, 110, 101, 114, 32, o1, 93] 11 (47 : Int32) h F hall (by decide : 11 < 24) rfl) all0 (wd G 275 rfl) (wd G 3 rfl) (by decide) (by decide) rfl rfl) (argsL := [(.ref z), (.int (11 : Int32)), (.int (47 : Int32))]) (rest := []) rfl (lenOf pd_28 rfl) rfl (Nat.le_of_eq rfl) rfl at_396 (pc' := 399) rfl (k' := 50) (n' := 6000) rfl rfl (by decide) (by decide) ?_
  intro v_49 h_52 sz_50 q_51
  obtain ⟨rfl, rfl⟩ := q_51
  refine Seg.ifN at_399 (by decide) (pc' := 402) rfl ?_
  refine Seg.iconst (v := 1) at_402 (by decide) (pc' := 403) rfl ?_
  refine Seg.goto (pc' := 407) at_403 (by decide) (by decide) ?_
  refine Seg.istore (L' := #[.val (.int p1), .val (.int p2), .val (.int p3), .val (.int p4), .val (.int (2 : Int32)), .val (.int (2 : Int32)), .val (.int (1 : Int32)), .val (.int t1), .val (.int t2), .val (.int i1), .val (.int i2), .val (.int o1), .val (.int o2), .val (.ref s1), .val (.ref s2), .val (.ref s3), .val (.ref rx), .val (.ref z), .val (.int (1 : Int32)), .val (.int (11 : Int32))]) at_407 rfl (pc' := 409) rfl ?_
  refine Seg.iload at_409 rfl (pc' := 411) rfl ?_
  refine Seg.iconst (v := 1) at_411 (by decide) (pc' := 412) rfl ?_
  refine Seg.iadd (v := (12 : Int32)) at_412 (by decide) (pc' := 413) rfl ?_
  refine Seg.istore (L' := #[.val (.int p1), .val (.int p2), .val (.int p3), .val (.int p4), .val (.int (2 : Int32)), .val (.int (2 : Int32)), .val (.int (1 : Int32)), .val (.int t1), .val (.int t2), .val (.int i1), .val (.int i2), .val (.int o1), .val (.int o2), .val (.ref s1), .val (.ref s2), .val (.ref s3), .val (.ref rx), .val (.ref z), .val (.int (1 : Int32)), .val (.int (12 : Int32))]) at_413 rfl (pc' := 415) rfl ?_
  refine Seg.iload at_415 rfl (pc' := 417) rfl ?_
  refine Seg.ifN at_417 (by decide) (pc' := 420) rfl ?_
  refine Seg.aload at_420 rfl rfl (pc' := 422) rfl ?_
  refine Seg.iload at_422 rfl (pc' := 424) rfl ?_
  refine Seg.iload at_424 rfl (pc' := 426) rfl ?_
  refine Seg.callS (y' := (⟨"com/example/kredential/kredential/ResourceToStringPinLaw", "at", "(Ljava/lang/String;IC)Z"⟩ : MethodName)) (wd G 273 rfl) (wd G 274 rfl) (wd G 3 rfl) (wd G 275 rfl) ⟨by decide, by decide⟩ (Pays.of_ct (W := 0) (ct_at G z [82, 101, 115, 111, 117, 114, 99, 101, 91, t1, t2, 47, i1, i2, 44, 32, 111, 119, 110, 101, 114, 32, o1, 93] 12 i1 h F hall (by decide : 12 < 24) rfl) all0 (wd G 275 rfl) (wd G 3 rfl) (by decide) (by decide) rfl rfl) (argsL := [(.ref z), (.int (12 : Int32)), (.int i1)]) (rest := []) rfl (lenOf pd_28 rfl) rfl (Nat.le_of_eq rfl) rfl at_426 (pc' := 429) rfl (k' := 50) (n' := 6000) rfl rfl (by decide) (by decide) ?_
  intro v_53 h_56 sz_54 q_55
  obtain ⟨rfl, rfl⟩ := q_55
  refine Seg.ifN at_429 (by decide) (pc' := 432) rfl ?_
  refine Seg.iconst (v := 1) at_432 (by decide) (pc' := 433) rfl ?_
  refine Seg.goto (pc' := 437) at_433 (by decide) (by decide) ?_
  refine Seg.istore (L' := #[.val (.int p1), .val (.int p2), .val (.int p3), .val (.int p4), .val (.int (2 : Int32)), .val (.int (2 : Int32)), .val (.int (1 : Int32)), .val (.int t1), .val (.int t2), .val (.int i1), .val (.int i2), .val (.int o1), .val (.int o2), .val (.ref s1), .val (.ref s2), .val (.ref s3), .val (.ref rx), .val (.ref z), .val (.int (1 : Int32)), .val (.int (12 : Int32))]) at_437 rfl (pc' := 439) rfl ?_
  refine Seg.iload at_439 rfl (pc' := 441) rfl ?_
  refine Seg.iconst (v := 2) at_441 (by decide) (pc' := 442) rfl ?_
  refine Seg.icN at_442 (by decide) (pc' := 445) rfl ?_
  refine Seg.iload at_445 rfl (pc' := 447) rfl ?_
  refine Seg.ifN at_447 (by decide) (pc' := 450) rfl ?_
  refine Seg.aload at_450 rfl rfl (pc' := 452) rfl ?_
  refine Seg.iload at_452 rfl (pc' := 454) rfl ?_
  refine Seg.iconst (v := 1) at_454 (by decide) (pc' := 455) rfl ?_
  refine Seg.iadd (v := (13 : Int32)) at_455 (by decide) (pc' := 456) rfl ?_
  refine Seg.iload at_456 rfl (pc' := 458) rfl ?_
  refine Seg.callS (y' := (⟨"com/example/kredential/kredential/ResourceToStringPinLaw", "at", "(Ljava/lang/String;IC)Z"⟩ : MethodName)) (wd G 273 rfl) (wd G 274 rfl) (wd G 3 rfl) (wd G 275 rfl) ⟨by decide, by decide⟩ (Pays.of_ct (W := 0) (ct_at G z [82, 101, 115, 111, 117, 114, 99, 101, 91, t1, t2, 47, i1, i2, 44, 32, 111, 119, 110, 101, 114, 32, o1, 93] 13 i2 h F hall (by decide : 13 < 24) rfl) all0 (wd G 275 rfl) (wd G 3 rfl) (by decide) (by decide) rfl rfl) (argsL := [(.ref z), (.int (13 : Int32)), (.int i2)]) (rest := []) rfl (lenOf pd_28 rfl) rfl (Nat.le_of_eq rfl) rfl at_458 (pc' := 461) rfl (k' := 50) (n' := 6000) rfl rfl (by decide) (by decide) ?_
  intro v_57 h_60 sz_58 q_59
  obtain ⟨rfl, rfl⟩ := q_59
  refine Seg.ifN at_461 (by decide) (pc' := 464) rfl ?_
  refine Seg.iconst (v := 1) at_464 (by decide) (pc' := 465) rfl ?_
  refine Seg.goto (pc' := 469) at_465 (by decide) (by decide) ?_
  refine Seg.istore (L' := #[.val (.int p1), .val (.int p2), .val (.int p3), .val (.int p4), .val (.int (2 : Int32)), .val (.int (2 : Int32)), .val (.int (1 : Int32)), .val (.int t1), .val (.int t2), .val (.int i1), .val (.int i2), .val (.int o1), .val (.int o2), .val (.ref s1), .val (.ref s2), .val (.ref s3), .val (.ref rx), .val (.ref z), .val (.int (1 : Int32)), .val (.int (12 : Int32))]) at_469 rfl (pc' := 471) rfl ?_
  refine Seg.iload at_471 rfl (pc' := 473) rfl ?_
  refine Seg.iload at_473 rfl (pc' := 475) rfl ?_
  refine Seg.iadd (v := (14 : Int32)) at_475 (by decide) (pc' := 476) rfl ?_
  refine Seg.istore (L' := #[.val (.int p1), .val (.int p2), .val (.int p3), .val (.int p4), .val (.int (2 : Int32)), .val (.int (2 : Int32)), .val (.int (1 : Int32)), .val (.int t1), .val (.int t2), .val (.int i1), .val (.int i2), .val (.int o1), .val (.int o2), .val (.ref s1), .val (.ref s2), .val (.ref s3), .val (.ref rx), .val (.ref z), .val (.int (1 : Int32)), .val (.int (14 : Int32))]) at_476 rfl (pc' := 478) rfl ?_
  refine Seg.iload at_478 rfl (pc' := 480) rfl ?_
  refine Seg.ifN at_480 (by decide) (pc' := 483) rfl ?_
  refine Seg.aload at_483 rfl rfl (pc' := 485) rfl ?_
  refine Seg.iload at_485 rfl (pc' := 487) rfl ?_
  refine Seg.bipush (v := 44) at_487 (by decide) (pc' := 489) rfl ?_
  refine Seg.callS (y' := (⟨"com/example/kredential/kredential/ResourceToStringPinLaw", "at", "(Ljava/lang/String;IC)Z"⟩ : MethodName)) (wd G 273 rfl) (wd G 274 rfl) (wd G 3 rfl) (wd G 275 rfl) ⟨by decide, by decide⟩ (Pays.of_ct (W := 0) (ct_at G z [82, 101, 115, 111, 117, 114, 99, 101, 91, t1, t2, 47, i1, i2, 44, 32, 111, 119, 110, 101, 114, 32, o1, 93] 14 (44 : Int32) h F hall (by decide : 14 < 24) rfl) all0 (wd G 275 rfl) (wd G 3 rfl) (by decide) (by decide) rfl rfl) (argsL := [(.ref z), (.int (14 : Int32)), (.int (44 : Int32))]) (rest := []) rfl (lenOf pd_28 rfl) rfl (Nat.le_of_eq rfl) rfl at_489 (pc' := 492) rfl (k' := 50) (n' := 6000) rfl rfl (by decide) (by decide) ?_
  intro v_61 h_64 sz_62 q_63
  obtain ⟨rfl, rfl⟩ := q_63
  refine Seg.ifN at_492 (by decide) (pc' := 495) rfl ?_
  refine Seg.aload at_495 rfl rfl (pc' := 497) rfl ?_
  refine Seg.iload at_497 rfl (pc' := 499) rfl ?_
  refine Seg.iconst (v := 1) at_499 (by decide) (pc' := 500) rfl ?_
  refine Seg.iadd (v := (15 : Int32)) at_500 (by decide) (pc' := 501) rfl ?_
  refine Seg.bipush (v := 32) at_501 (by decide) (pc' := 503) rfl ?_
  refine Seg.callS (y' := (⟨"com/example/kredential/kredential/ResourceToStringPinLaw", "at", "(Ljava/lang/String;IC)Z"⟩ : MethodName)) (wd G 273 rfl) (wd G 274 rfl) (wd G 3 rfl) (wd G 275 rfl) ⟨by decide, by decide⟩ (Pays.of_ct (W := 0) (ct_at G z [82, 101, 115, 111, 117, 114, 99, 101, 91, t1, t2, 47, i1, i2, 44, 32, 111, 119, 110, 101, 114, 32, o1, 93] 15 (32 : Int32) h F hall (by decide : 15 < 24) rfl) all0 (wd G 275 rfl) (wd G 3 rfl) (by decide) (by decide) rfl rfl) (argsL := [(.ref z), (.int (15 : Int32)), (.int (32 : Int32))]) (rest := []) rfl (lenOf pd_28 rfl) rfl (Nat.le_of_eq rfl) rfl at_503 (pc' := 506) rfl (k' := 50) (n' := 6000) rfl rfl (by decide) (by decide) ?_
  intro v_65 h_68 sz_66 q_67
  obtain ⟨rfl, rfl⟩ := q_67
  refine Seg.ifN at_506 (by decide) (pc' := 509) rfl ?_
  refine Seg.aload at_509 rfl rfl (pc' := 511) rfl ?_
  refine Seg.iload at_511 rfl (pc' := 513) rfl ?_
  refine Seg.iconst (v := 2) at_513 (by decide) (pc' := 514) rfl ?_
  refine Seg.iadd (v := (16 : Int32)) at_514 (by decide) (pc' := 515) rfl ?_
  refine Seg.bipush (v := 111) at_515 (by decide) (pc' := 517) rfl ?_
  refine Seg.callS (y' := (⟨"com/example/kredential/kredential/ResourceToStringPinLaw", "at", "(Ljava/lang/String;IC)Z"⟩ : MethodName)) (wd G 273 rfl) (wd G 274 rfl) (wd G 3 rfl) (wd G 275 rfl) ⟨by decide, by decide⟩ (Pays.of_ct (W := 0) (ct_at G z [82, 101, 115, 111, 117, 114, 99, 101, 91, t1, t2, 47, i1, i2, 44, 32, 111, 119, 110, 101, 114, 32, o1, 93] 16 (111 : Int32) h F hall (by decide : 16 < 24) rfl) all0 (wd G 275 rfl) (wd G 3 rfl) (by decide) (by decide) rfl rfl) (argsL := [(.ref z), (.int (16 : Int32)), (.int (111 : Int32))]) (rest := []) rfl (lenOf pd_28 rfl) rfl (Nat.le_of_eq rfl) rfl at_517 (pc' := 520) rfl (k' := 50) (n' := 6000) rfl rfl (by decide) (by decide) ?_
  intro v_69 h_72 sz_70 q_71
  obtain ⟨rfl, rfl⟩ := q_71
  refine Seg.ifN at_520 (by decide) (pc' := 523) rfl ?_
  refine Seg.aload at_523 rfl rfl (pc' := 525) rfl ?_
  refine Seg.iload at_525 rfl (pc' := 527) rfl ?_
  refine Seg.iconst (v := 3) at_527 (by decide) (pc' := 528) rfl ?_
  refine Seg.iadd (v := (17 : Int32)) at_528 (by decide) (pc' := 529) rfl ?_
  refine Seg.bipush (v := 119) at_529 (by decide) (pc' := 531) rfl ?_
  refine Seg.callS (y' := (⟨"com/example/kredential/kredential/ResourceToStringPinLaw", "at", "(Ljava/lang/String;IC)Z"⟩ : MethodName)) (wd G 273 rfl) (wd G 274 rfl) (wd G 3 rfl) (wd G 275 rfl) ⟨by decide, by decide⟩ (Pays.of_ct (W := 0) (ct_at G z [82, 101, 115, 111, 117, 114, 99, 101, 91, t1, t2, 47, i1, i2, 44, 32, 111, 119, 110, 101, 114, 32, o1, 93] 17 (119 : Int32) h F hall (by decide : 17 < 24) rfl) all0 (wd G 275 rfl) (wd G 3 rfl) (by decide) (by decide) rfl rfl) (argsL := [(.ref z), (.int (17 : Int32)), (.int (119 : Int32))]) (rest := []) rfl (lenOf pd_28 rfl) rfl (Nat.le_of_eq rfl) rfl at_531 (pc' := 534) rfl (k' := 50) (n' := 6000) rfl rfl (by decide) (by decide) ?_
  intro v_73 h_76 sz_74 q_75
  obtain ⟨rfl, rfl⟩ := q_75
  refine Seg.ifN at_534 (by decide) (pc' := 537) rfl ?_
  refine Seg.aload at_537 rfl rfl (pc' := 539) rfl ?_
  refine Seg.iload at_539 rfl (pc' := 541) rfl ?_
  refine Seg.iconst (v := 4) at_541 (by decide) (pc' := 542) rfl ?_
  refine Seg.iadd (v := (18 : Int32)) at_542 (by decide) (pc' := 543) rfl ?_
  refine Seg.bipush (v := 110) at_543 (by decide) (pc' := 545) rfl ?_
  refine Seg.callS (y' := (⟨"com/example/kredential/kredential/ResourceToStringPinLaw", "at", "(Ljava/lang/String;IC)Z"⟩ : MethodName)) (wd G 273 rfl) (wd G 274 rfl) (wd G 3 rfl) (wd G 275 rfl) ⟨by decide, by decide⟩ (Pays.of_ct (W := 0) (ct_at G z [82, 101, 115, 111, 117, 114, 99, 101, 91, t1, t2, 47, i1, i2, 44, 32, 111, 119, 110, 101, 114, 32, o1, 93] 18 (110 : Int32) h F hall (by decide : 18 < 24) rfl) all0 (wd G 275 rfl) (wd G 3 rfl) (by decide) (by decide) rfl rfl) (argsL := [(.ref z), (.int (18 : Int32)), (.int (110 : Int32))]) (rest := []) rfl (lenOf pd_28 rfl) rfl (Nat.le_of_eq rfl) rfl at_545 (pc' := 548) rfl (k' := 50) (n' := 6000) rfl rfl (by decide) (by decide) ?_
  intro v_77 h_80 sz_78 q_79
  obtain ⟨rfl, rfl⟩ := q_79
  refine Seg.ifN at_548 (by decide) (pc' := 551) rfl ?_
  refine Seg.aload at_551 rfl rfl (pc' := 553) rfl ?_
  refine Seg.iload at_553 rfl (pc' := 555) rfl ?_
  refine Seg.iconst (v := 5) at_555 (by decide) (pc' := 556) rfl ?_
  refine Seg.iadd (v := (19 : Int32)) at_556 (by decide) (pc' := 557) rfl ?_
  refine Seg.bipush (v := 101) at_557 (by decide) (pc' := 559) rfl ?_
  refine Seg.callS (y' := (⟨"com/example/kredential/kredential/ResourceToStringPinLaw", "at", "(Ljava/lang/String;IC)Z"⟩ : MethodName)) (wd G 273 rfl) (wd G 274 rfl) (wd G 3 rfl) (wd G 275 rfl) ⟨by decide, by decide⟩ (Pays.of_ct (W := 0) (ct_at G z [82, 101, 115, 111, 117, 114, 99, 101, 91, t1, t2, 47, i1, i2, 44, 32, 111, 119, 110, 101, 114, 32, o1, 93] 19 (101 : Int32) h F hall (by decide : 19 < 24) rfl) all0 (wd G 275 rfl) (wd G 3 rfl) (by decide) (by decide) rfl rfl) (argsL := [(.ref z), (.int (19 : Int32)), (.int (101 : Int32))]) (rest := []) rfl (lenOf pd_28 rfl) rfl (Nat.le_of_eq rfl) rfl at_559 (pc' := 562) rfl (k' := 50) (n' := 6000) rfl rfl (by decide) (by decide) ?_
  intro v_81 h_84 sz_82 q_83
  obtain ⟨rfl, rfl⟩ := q_83
  refine Seg.ifN at_562 (by decide) (pc' := 565) rfl ?_
  refine Seg.aload at_565 rfl rfl (pc' := 567) rfl ?_
  refine Seg.iload at_567 rfl (pc' := 569) rfl ?_
  refine Seg.bipush (v := 6) at_569 (by decide) (pc' := 571) rfl ?_
  refine Seg.iadd (v := (20 : Int32)) at_571 (by decide) (pc' := 572) rfl ?_
  refine Seg.bipush (v := 114) at_572 (by decide) (pc' := 574) rfl ?_
  refine Seg.callS (y' := (⟨"com/example/kredential/kredential/ResourceToStringPinLaw", "at", "(Ljava/lang/String;IC)Z"⟩ : MethodName)) (wd G 273 rfl) (wd G 274 rfl) (wd G 3 rfl) (wd G 275 rfl) ⟨by decide, by decide⟩ (Pays.of_ct (W := 0) (ct_at G z [82, 101, 115, 111, 117, 114, 99, 101, 91, t1, t2, 47, i1, i2, 44, 32, 111, 119, 110, 101, 114, 32, o1, 93] 20 (114 : Int32) h F hall (by decide : 20 < 24) rfl) all0 (wd G 275 rfl) (wd G 3 rfl) (by decide) (by decide) rfl rfl) (argsL := [(.ref z), (.int (20 : Int32)), (.int (114 : Int32))]) (rest := []) rfl (lenOf pd_28 rfl) rfl (Nat.le_of_eq rfl) rfl at_574 (pc' := 577) rfl (k' := 50) (n' := 6000) rfl rfl (by decide) (by decide) ?_
  intro v_85 h_88 sz_86 q_87
  obtain ⟨rfl, rfl⟩ := q_87
  refine Seg.ifN at_577 (by decide) (pc' := 580) rfl ?_
  refine Seg.aload at_580 rfl rfl (pc' := 582) rfl ?_
  refine Seg.iload at_582 rfl (pc' := 584) rfl ?_
  refine Seg.bipush (v := 7) at_584 (by decide) (pc' := 586) rfl ?_
  refine Seg.iadd (v := (21 : Int32)) at_586 (by decide) (pc' := 587) rfl ?_
  refine Seg.bipush (v := 32) at_587 (by decide) (pc' := 589) rfl ?_
  refine Seg.callS (y' := (⟨"com/example/kredential/kredential/ResourceToStringPinLaw", "at", "(Ljava/lang/String;IC)Z"⟩ : MethodName)) (wd G 273 rfl) (wd G 274 rfl) (wd G 3 rfl) (wd G 275 rfl) ⟨by decide, by decide⟩ (Pays.of_ct (W := 0) (ct_at G z [82, 101, 115, 111, 117, 114, 99, 101, 91, t1, t2, 47, i1, i2, 44, 32, 111, 119, 110, 101, 114, 32, o1, 93] 21 (32 : Int32) h F hall (by decide : 21 < 24) rfl) all0 (wd G 275 rfl) (wd G 3 rfl) (by decide) (by decide) rfl rfl) (argsL := [(.ref z), (.int (21 : Int32)), (.int (32 : Int32))]) (rest := []) rfl (lenOf pd_28 rfl) rfl (Nat.le_of_eq rfl) rfl at_589 (pc' := 592) rfl (k' := 50) (n' := 6000) rfl rfl (by decide) (by decide) ?_
  intro v_89 h_92 sz_90 q_91
  obtain ⟨rfl, rfl⟩ := q_91
  refine Seg.ifN at_592 (by decide) (pc' := 595) rfl ?_
  refine Seg.iconst (v := 1) at_595 (by decide) (pc' := 596) rfl ?_
  refine Seg.goto (pc' := 600) at_596 (by decide) (by decide) ?_
  refine Seg.istore (L' := #[.val (.int p1), .val (.int p2), .val (.int p3), .val (.int p4), .val (.int (2 : Int32)), .val (.int (2 : Int32)), .val (.int (1 : Int32)), .val (.int t1), .val (.int t2), .val (.int i1), .val (.int i2), .val (.int o1), .val (.int o2), .val (.ref s1), .val (.ref s2), .val (.ref s3), .val (.ref rx), .val (.ref z), .val (.int (1 : Int32)), .val (.int (14 : Int32))]) at_600 rfl (pc' := 602) rfl ?_
  refine Seg.iload at_602 rfl (pc' := 604) rfl ?_
  refine Seg.bipush (v := 8) at_604 (by decide) (pc' := 606) rfl ?_
  refine Seg.iadd (v := (22 : Int32)) at_606 (by decide) (pc' := 607) rfl ?_
  refine Seg.istore (L' := #[.val (.int p1), .val (.int p2), .val (.int p3), .val (.int p4), .val (.int (2 : Int32)), .val (.int (2 : Int32)), .val (.int (1 : Int32)), .val (.int t1), .val (.int t2), .val (.int i1), .val (.int i2), .val (.int o1), .val (.int o2), .val (.ref s1), .val (.ref s2), .val (.ref s3), .val (.ref rx), .val (.ref z), .val (.int (1 : Int32)), .val (.int (22 : Int32))]) at_607 rfl (pc' := 609) rfl ?_
  refine Seg.iload at_609 rfl (pc' := 611) rfl ?_
  refine Seg.ifN at_611 (by decide) (pc' := 614) rfl ?_
  refine Seg.aload at_614 rfl rfl (pc' := 616) rfl ?_
  refine Seg.iload at_616 rfl (pc' := 618) rfl ?_
  refine Seg.iload at_618 rfl (pc' := 620) rfl ?_
  refine Seg.callS (y' := (⟨"com/example/kredential/kredential/ResourceToStringPinLaw", "at", "(Ljava/lang/String;IC)Z"⟩ : MethodName)) (wd G 273 rfl) (wd G 274 rfl) (wd G 3 rfl) (wd G 275 rfl) ⟨by decide, by decide⟩ (Pays.of_ct (W := 0) (ct_at G z [82, 101, 115, 111, 117, 114, 99, 101, 91, t1, t2, 47, i1, i2, 44, 32, 111, 119, 110, 101, 114, 32, o1, 93] 22 o1 h F hall (by decide : 22 < 24) rfl) all0 (wd G 275 rfl) (wd G 3 rfl) (by decide) (by decide) rfl rfl) (argsL := [(.ref z), (.int (22 : Int32)), (.int o1)]) (rest := []) rfl (lenOf pd_28 rfl) rfl (Nat.le_of_eq rfl) rfl at_620 (pc' := 623) rfl (k' := 50) (n' := 6000) rfl rfl (by decide) (by decide) ?_
  intro v_93 h_96 sz_94 q_95
  obtain ⟨rfl, rfl⟩ := q_95
  refine Seg.ifN at_623 (by decide) (pc' := 626) rfl ?_
  refine Seg.iconst (v := 1) at_626 (by decide) (pc' := 627) rfl ?_
  refine Seg.goto (pc' := 631) at_627 (by decide) (by decide) ?_
  refine Seg.istore (L' := #[.val (.int p1), .val (.int p2), .val (.int p3), .val (.int p4), .val (.int (2 : Int32)), .val (.int (2 : Int32)), .val (.int (1 : Int32)), .val (.int t1), .val (.int t2), .val (.int i1), .val (.int i2), .val (.int o1), .val (.int o2), .val (.ref s1), .val (.ref s2), .val (.ref s3), .val (.ref rx), .val (.ref z), .val (.int (1 : Int32)), .val (.int (22 : Int32))]) at_631 rfl (pc' := 633) rfl ?_
  refine Seg.iload at_633 rfl (pc' := 635) rfl ?_
  refine Seg.iconst (v := 2) at_635 (by decide) (pc' := 636) rfl ?_
  refine Seg.icY (pc' := 665) at_636 (by decide) (by decide) (by decide) ?_
  refine Seg.iload at_665 rfl (pc' := 667) rfl ?_
  refine Seg.iload at_667 rfl (pc' := 669) rfl ?_
  refine Seg.iadd (v := (23 : Int32)) at_669 (by decide) (pc' := 670) rfl ?_
  refine Seg.istore (L' := #[.val (.int p1), .val (.int p2), .val (.int p3), .val (.int p4), .val (.int (2 : Int32)), .val (.int (2 : Int32)), .val (.int (1 : Int32)), .val (.int t1), .val (.int t2), .val (.int i1), .val (.int i2), .val (.int o1), .val (.int o2), .val (.ref s1), .val (.ref s2), .val (.ref s3), .val (.ref rx), .val (.ref z), .val (.int (1 : Int32)), .val (.int (23 : Int32))]) at_670 rfl (pc' := 672) rfl ?_
  refine Seg.iload at_672 rfl (pc' := 674) rfl ?_
  refine Seg.ifN at_674 (by decide) (pc' := 677) rfl ?_
  refine Seg.aload at_677 rfl rfl (pc' := 679) rfl ?_
  refine Seg.iload at_679 rfl (pc' := 681) rfl ?_
  refine Seg.bipush (v := 93) at_681 (by decide) (pc' := 683) rfl ?_
  refine Seg.callS (y' := (⟨"com/example/kredential/kredential/ResourceToStringPinLaw", "at", "(Ljava/lang/String;IC)Z"⟩ : MethodName)) (wd G 273 rfl) (wd G 274 rfl) (wd G 3 rfl) (wd G 275 rfl) ⟨by decide, by decide⟩ (Pays.of_ct (W := 0) (ct_at G z [82, 101, 115, 111, 117, 114, 99, 101, 91, t1, t2, 47, i1, i2, 44, 32, 111, 119, 110, 101, 114, 32, o1, 93] 23 (93 : Int32) h F hall (by decide : 23 < 24) rfl) all0 (wd G 275 rfl) (wd G 3 rfl) (by decide) (by decide) rfl rfl) (argsL := [(.ref z), (.int (23 : Int32)), (.int (93 : Int32))]) (rest := []) rfl (lenOf pd_28 rfl) rfl (Nat.le_of_eq rfl) rfl at_683 (pc' := 686) rfl (k' := 50) (n' := 6000) rfl rfl (by decide) (by decide) ?_
  intro v_97 h_100 sz_98 q_99
  obtain ⟨rfl, rfl⟩ := q_99
  refine Seg.ifN at_686 (by decide) (pc' := 689) rfl ?_
  refine Seg.iconst (v := 1) at_689 (by decide) (pc' := 690) rfl ?_
  refine Seg.goto (pc' := 694) at_690 (by decide) (by decide) ?_
  refine Seg.istore (L' := #[.val (.int p1), .val (.int p2), .val (.int p3), .val (.int p4), .val (.int (2 : Int32)), .val (.int (2 : Int32)), .val (.int (1 : Int32)), .val (.int t1), .val (.int t2), .val (.int i1), .val (.int i2), .val (.int o1), .val (.int o2), .val (.ref s1), .val (.ref s2), .val (.ref s3), .val (.ref rx), .val (.ref z), .val (.int (1 : Int32)), .val (.int (23 : Int32))]) at_694 rfl (pc' := 696) rfl ?_
  refine Seg.iload at_696 rfl (pc' := 698) rfl ?_
  exact Seg.retN (t := .boolean) (w := (1 : Int32)) rfl (by decide) (by decide) at_698 (by decide) (by decide) rfl
set_option maxRecDepth 65536 in
set_option maxHeartbeats 4000000 in
theorem sgm221 {l : Launch} {Z : State} {a0 : Array Value} (G : Env1 Z a0) (p1 : Int32) (p2 : Int32) (p3 : Int32) (p4 : Int32) (t1 : Int32) (t2 : Int32) (i1 : Int32) (i2 : Int32) (o1 : Int32) (o2 : Int32) (h : Heap) (kt1 : okT t1) (kt2 : okT t2) (ki1 : okI i1) (ki2 : okI i2) (ko1 : okI o1) (ko2 : okI o2) (hI : ¬ (i1 = 46 ∧ ((2 : Int32) = 1 ∨ i2 = 46))) (hO : ¬ (o1 = 46 ∧ ((1 : Int32) = 1 ∨ o2 = 46))) :
    Seg l Z a0 EL1 x code maxLocals ret room_1 (fun v h => v = some (.int 1)) h 0 0 [] 123 #[.val (.int p1), .val (.int p2), .val (.int p3), .val (.int p4), .val (.int (2 : Int32)), .val (.int (2 : Int32)), .val (.int (1 : Int32)), .val (.int t1), .val (.int t2), .val (.int i1), .val (.int i2), .val (.int o1), .val (.int o2), .unset, .unset, .unset, .unset, .unset, .unset, .unset] [] := by
  have rt1 := (okI_r (okT_I kt1)).1
  have rt2 := (okI_r (okT_I kt2)).1
  have ri1 := (okI_r ki1).1
  have ri2 := (okI_r ki2).1
  have ro1 := (okI_r ko1).1
  have ro2 := (okI_r ko2).1
  refine Seg.iload at_123 rfl (pc' := 125) rfl ?_
  refine Seg.iload at_125 rfl (pc' := 127) rfl ?_
  refine Seg.iload at_127 rfl (pc' := 129) rfl ?_
  refine Seg.callS (y' := (⟨"com/example/kredential/kredential/ResourceToStringPinLaw", "make", "(ICC)Ljava/lang/String;"⟩ : MethodName)) (wd G 8 rfl) (wd G 9 rfl) (wd G 3 rfl) (wd G 10 rfl) ⟨by decide, by decide⟩ (Pays.of_ct (W := 0) (ct_mk2 G t1 t2 h rt1 rt2) all0 (wd G 10 rfl) (wd G 3 rfl) (by decide) (by decide) rfl rfl) (argsL := [(.int (2 : Int32)), (.int t1), (.int t2)]) (rest := []) rfl (lenOf pd_29 rfl) rfl (Nat.le_of_eq rfl) rfl at_129 (pc' := 132) rfl (k' := 3) (n' := 8) rfl rfl (by decide) (by decide) ?_
  intro v_1 h_4 sz_2 q_3
  obtain ⟨s1, rfl, E1, T1⟩ := q_3
  refine Seg.astore (L' := #[.val (.int p1), .val (.int p2), .val (.int p3), .val (.int p4), .val (.int (2 : Int32)), .val (.int (2 : Int32)), .val (.int (1 : Int32)), .val (.int t1), .val (.int t2), .val (.int i1), .val (.int i2), .val (.int o1), .val (.int o2), .val (.ref s1), .unset, .unset, .unset, .unset, .unset, .unset]) at_132 rfl rfl (pc' := 134) rfl ?_
  refine Seg.iload at_134 rfl (pc' := 136) rfl ?_
  refine Seg.iload at_136 rfl (pc' := 138) rfl ?_
  refine Seg.iload at_138 rfl (pc' := 140) rfl ?_
  refine Seg.callS (y' := (⟨"com/example/kredential/kredential/ResourceToStringPinLaw", "make", "(ICC)Ljava/lang/String;"⟩ : MethodName)) (wd G 8 rfl) (wd G 9 rfl) (wd G 3 rfl) (wd G 10 rfl) ⟨by decide, by decide⟩ (Pays.of_ct (W := 0) (ct_mk2 G i1 i2 h_4 ri1 ri2) all0 (wd G 10 rfl) (wd G 3 rfl) (by decide) (by decide) rfl rfl) (argsL := [(.int (2 : Int32)), (.int i1), (.int i2)]) (rest := []) rfl (lenOf pd_29 rfl) rfl (Nat.le_of_eq rfl) rfl at_140 (pc' := 143) rfl (k' := 6) (n' := 16) rfl rfl (by decide) (by decide) ?_
  intro v_5 h_8 sz_6 q_7
  obtain ⟨s2, rfl, E2, T2⟩ := q_7
  refine Seg.astore (L' := #[.val (.int p1), .val (.int p2), .val (.int p3), .val (.int p4), .val (.int (2 : Int32)), .val (.int (2 : Int32)), .val (.int (1 : Int32)), .val (.int t1), .val (.int t2), .val (.int i1), .val (.int i2), .val (.int o1), .val (.int o2), .val (.ref s1), .val (.ref s2), .unset, .unset, .unset, .unset, .unset]) at_143 rfl rfl (pc' := 145) rfl ?_
  refine Seg.iload at_145 rfl (pc' := 147) rfl ?_
  refine Seg.iload at_147 rfl (pc' := 149) rfl ?_
  refine Seg.iload at_149 rfl (pc' := 151) rfl ?_
  refine Seg.callS (y' := (⟨"com/example/kredential/kredential/ResourceToStringPinLaw", "make", "(ICC)Ljava/lang/String;"⟩ : MethodName)) (wd G 8 rfl) (wd G 9 rfl) (wd G 3 rfl) (wd G 10 rfl) ⟨by decide, by decide⟩ (Pays.of_ct (W := 0) (ct_mk1 G o1 o2 h_8 ro1 ro2) all0 (wd G 10 rfl) (wd G 3 rfl) (by decide) (by decide) rfl rfl) (argsL := [(.int (1 : Int32)), (.int o1), (.int o2)]) (rest := []) rfl (lenOf pd_29 rfl) rfl (Nat.le_of_eq rfl) rfl at_151 (pc' := 154) rfl (k' := 8) (n' := 21) rfl rfl (by decide) (by decide) ?_
  intro v_9 h_12 sz_10 q_11
  obtain ⟨s3, rfl, E3, T3⟩ := q_11
  refine Seg.astore (L' := #[.val (.int p1), .val (.int p2), .val (.int p3), .val (.int p4), .val (.int (2 : Int32)), .val (.int (2 : Int32)), .val (.int (1 : Int32)), .val (.int t1), .val (.int t2), .val (.int i1), .val (.int i2), .val (.int o1), .val (.int o2), .val (.ref s1), .val (.ref s2), .val (.ref s3), .unset, .unset, .unset, .unset]) at_154 rfl rfl (pc' := 156) rfl ?_
  refine Seg.newO (wd G 55 rfl) (wd G 56 rfl) (wd G 57 rfl) at_156 (pc' := 159) rfl (k' := 9) (n' := 24) rfl rfl (by decide) (by decide) ?_
  intro b_13 h_15 E_14 e_b_13 l_b_13 A_b_13 D_b_13
  have F_type_b_13 : Fld Z h_15 b_13 "com/example/kredential/kredential/Resource" "type" "Ljava/lang/String;" Value.null := D_b_13 (Or.inr (wd G 140 rfl)) (ty := (.object "java/lang/String")) (by decide)
  have F_id_b_13 : Fld Z h_15 b_13 "com/example/kredential/kredential/Resource" "id" "Ljava/lang/String;" Value.null := D_b_13 (Or.inr (wd G 142 rfl)) (ty := (.object "java/lang/String")) (by decide)
  have F_owner_b_13 : Fld Z h_15 b_13 "com/example/kredential/kredential/Resource" "owner" "Ljava/lang/String;" Value.null := D_b_13 (Or.inr (wd G 144 rfl)) (ty := (.object "java/lang/String")) (by decide)
  refine Seg.dup at_159 rfl (pc' := 160) rfl ?_
  refine Seg.aload at_160 rfl rfl (pc' := 162) rfl ?_
  refine Seg.aload at_162 rfl rfl (pc' := 164) rfl ?_
  refine Seg.aload at_164 rfl rfl (pc' := 166) rfl ?_
  have E_16 : Ext h_4 h_12 := ext_tr E2 E3
  have E_17 : Ext h_4 h_15 := ext_tr E_16 E_14
  have F_18 := T1.ext E_17
  have E_19 : Ext h_8 h_15 := ext_tr E3 E_14
  have F_20 := T2.ext E_19
  have F_21 := T3.ext E_14
  refine Seg.callN (y' := (⟨"com/example/kredential/kredential/Resource", "<init>", "(Ljava/lang/String;Ljava/lang/String;Ljava/lang/String;)V"⟩ : MethodName)) (a := b_13) rfl (wd G 58 rfl) (wd G 59 rfl) (wd G 60 rfl) ⟨by decide, by decide⟩ (Pays.of_ct (W := 1) (ct_rinit G b_13 s1 s2 s3 [t1, t2] [i1, i2] [o1] .null .null .null h_15 A_b_13 F_type_b_13 F_id_b_13 F_owner_b_13 F_18 F_20 F_21 ⟨(fun c hc => by simp only [List.mem_cons, List.not_mem_nil, or_false] at hc; rcases hc with rfl | rfl <;> assumption), (by decide : 0 < 2), (by decide : 2 ≤ 2)⟩ ⟨⟨(fun c hc => by simp only [List.mem_cons, List.not_mem_nil, or_false] at hc; rcases hc with rfl | rfl <;> assumption), (by decide : 0 < 2), (by decide : 2 ≤ 2)⟩, (fun q => nomatch (List.cons.inj q).2), (fun q => hI ⟨(List.cons.inj q).1, Or.inr (List.cons.inj (List.cons.inj q).2).1⟩)⟩ ⟨⟨(fun c hc => by simp only [List.mem_cons, List.not_mem_nil, or_false] at hc; rcases hc with rfl <;> assumption), (by decide : 0 < 1), (by decide : 1 ≤ 2)⟩, (fun q => hO ⟨(List.cons.inj q).1, Or.inl rfl⟩), (fun q => nomatch (List.cons.inj q).2)⟩) (allS (List.mem_of_getElem? (i := 0) rfl) all0) (wd G 60 rfl) (wd G 57 rfl) (by decide) (by decide) rfl rfl) (argsL := [(.ref s1), (.ref s2), (.ref s3)]) (rest := [(.ref b_13)]) rfl (lenOf pd_30 rfl) rfl (Nat.le_of_eq rfl) rfl at_166 (pc' := 169) rfl (k' := 21) (n' := 84) rfl rfl (by decide) (by decide) ?_
  intro v_22 h_25 sz_23 q_24
  obtain ⟨rfl, K1, G0, G1, G2⟩ := q_24
  refine Seg.astore (L' := #[.val (.int p1), .val (.int p2), .val (.int p3), .val (.int p4), .val (.int (2 : Int32)), .val (.int (2 : Int32)), .val (.int (1 : Int32)), .val (.int t1), .val (.int t2), .val (.int i1), .val (.int i2), .val (.int o1), .val (.int o2), .val (.ref s1), .val (.ref s2), .val (.ref s3), .val (.ref b_13), .unset, .unset, .unset]) at_169 rfl rfl (pc' := 171) rfl ?_
  refine Seg.aload at_171 rfl rfl (pc' := 173) rfl ?_
  have F_26 := (A_b_13.keep K1)
  have E_27 : Ext h_4 h_25 := ext_kp E_17 K1 (allS (Nat.le_trans E_16.1 (Nat.le_of_eq e_b_13)) all0)
  have F_28 := T1.ext E_27
  have E_29 : Ext h_8 h_25 := ext_kp E_19 K1 (allS (Nat.le_trans E3.1 (Nat.le_of_eq e_b_13)) all0)
  have F_30 := T2.ext E_29
  have E_31 : Ext h_12 h_25 := ext_kp E_14 K1 (allS (Nat.le_trans (ext_rfl _).1 (Nat.le_of_eq e_b_13)) all0)
  have F_32 := T3.ext E_31
  refine Seg.callV (y' := (⟨"com/example/kredential/kredential/Resource", "toString", "()Ljava/lang/String;"⟩ : MethodName)) (z := (⟨"com/example/kredential/kredential/Resource", "toString", "()Ljava/lang/String;"⟩ : MethodName)) (a := b_13) (wd G 145 rfl) (wd G 146 rfl) (nf_sel (wd G 148 rfl)) (wd G 148 rfl) (wd G 147 rfl) ⟨by decide, by decide⟩ F_26 (Pays.of_ct (W := 0) (ct_rts G b_13 s1 s2 s3 [t1, t2] [i1, i2] [o1] h_25 F_26 G0 G1 G2 F_28 F_30 F_32 (fun c hc => by simp only [List.mem_cons, List.not_mem_nil, or_false] at hc; rcases hc with rfl | rfl <;> assumption) (fun c hc => by simp only [List.mem_cons, List.not_mem_nil, or_false] at hc; rcases hc with rfl | rfl <;> assumption) (fun c hc => by simp only [List.mem_cons, List.not_mem_nil, or_false] at hc; rcases hc with rfl <;> assumption) (by decide : 2 ≤ 2) (by decide : 2 ≤ 2) (by decide : 1 ≤ 2)) all0 (wd G 149 rfl) (wd G 57 rfl) (by decide) (by decide) rfl rfl) (argsL := []) (rest := []) rfl (lenOf pd_22 rfl) rfl (Nat.le_of_eq rfl) rfl at_173 (pc' := 176) rfl (k' := 34) (n' := 334) rfl rfl (by decide) (by decide) ?_
  intro v_33 h_36 sz_34 q_35
  obtain ⟨z, rfl, E9, F9⟩ := q_35
  exact (sgt221 G p1 p2 p3 p4 t1 t2 i1 i2 o1 o2 s1 s2 s3 b_13 z h_36 F9 rt1 rt2 ri1 ri2 ro1 ro2).mono (by decide) (by decide) all0
set_option maxRecDepth 65536 in
set_option maxHeartbeats 4000000 in
theorem sgt222 {l : Launch} {Z : State} {a0 : Array Value} (G : Env1 Z a0) (p1 : Int32) (p2 : Int32) (p3 : Int32) (p4 : Int32) (t1 : Int32) (t2 : Int32) (i1 : Int32) (i2 : Int32) (o1 : Int32) (o2 : Int32) (s1 : Addr) (s2 : Addr) (s3 : Addr) (rx : Addr) (z : Addr) (h : Heap) (F : Str Z h z [82, 101, 115, 111, 117, 114, 99, 101, 91, t1, t2, 47, i1, i2, 44, 32, 111, 119, 110, 101, 114, 32, o1, o2, 93]) (rt1 : ¬ t1 < 0 ∧ ¬ (255 : Int32) < t1) (rt2 : ¬ t2 < 0 ∧ ¬ (255 : Int32) < t2) (ri1 : ¬ i1 < 0 ∧ ¬ (255 : Int32) < i1) (ri2 : ¬ i2 < 0 ∧ ¬ (255 : Int32) < i2) (ro1 : ¬ o1 < 0 ∧ ¬ (255 : Int32) < o1) (ro2 : ¬ o2 < 0 ∧ ¬ (255 : Int32) < o2) :
    Seg l Z a0 EL1 x code maxLocals ret room_1 (fun v h => v = some (.int 1)) h 50 6000 [] 176 #[.val (.int p1), .val (.int p2), .val (.int p3), .val (.int p4), .val (.int (2 : Int32)), .val (.int (2 : Int32)), .val (.int (2 : Int32)), .val (.int t1), .val (.int t2), .val (.int i1), .val (.int i2), .val (.int o1), .val (.int o2), .val (.ref s1), .val (.ref s2), .val (.ref s3), .val (.ref rx), .unset, .unset, .unset] [(.ref z)] := by
  have f1 := F.exa
  have hall : ∀ c ∈ [82, 101, 115, 111, 117, 114, 99, 101, 91, t1, t2, 47, i1, i2, 44, 32, 111, 119, 110, 101, 114, 32, o1, o2, 93], ¬ c < 0 ∧ ¬ (255 : Int32) < c := by
    intro c hc
    simp only [List.mem_cons, List.not_mem_nil, or_false] at hc
    rcases hc with rfl | rfl | rfl | rfl | rfl | rfl | rfl | rfl | rfl | rfl | rfl | rfl | rfl | rfl | rfl | rfl | rfl | rfl | rfl | rfl | rfl | rfl | rfl | rfl | rfl <;> first | assumption | decide
  refine Seg.astore (L' := #[.val (.int p1), .val (.int p2), .val (.int p3), .val (.int p4), .val (.int (2 : Int32)), .val (.int (2 : Int32)), .val (.int (2 : Int32)), .val (.int t1), .val (.int t2), .val (.int i1), .val (.int i2), .val (.int o1), .val (.int o2), .val (.ref s1), .val (.ref s2), .val (.ref s3), .val (.ref rx), .val (.ref z), .unset, .unset]) at_176 rfl rfl (pc' := 178) rfl ?_
  refine Seg.aload at_178 rfl rfl (pc' := 180) rfl ?_
  refine Seg.callV (y' := (⟨"java/lang/String", "length", "()I"⟩ : MethodName)) (z := (⟨"java/lang/String", "length", "()I"⟩ : MethodName)) (a := z) (wd G 272 rfl) (wd G 79 rfl) (nf_sel (wd G 81 rfl)) (wd G 81 rfl) (wd G 80 rfl) ⟨by decide, by decide⟩ f1 ((pays_len (W := 0) G h F (by decide) (by decide)).post (Q' := fun v h' => v = some (.int 25) ∧ h = h') fun v h' q => ⟨q.1, q.2⟩) (argsL := []) (rest := []) rfl (lenOf pd_0 rfl) rfl (Nat.le_of_eq rfl) rfl at_180 (pc' := 183) rfl (k' := 50) (n' := 6000) rfl rfl (by decide) (by decide) ?_
  intro v_1 h_4 sz_2 q_3
  obtain ⟨rfl, rfl⟩ := q_3
  refine Seg.bipush (v := 19) at_183 (by decide) (pc' := 185) rfl ?_
  refine Seg.iload at_185 rfl (pc' := 187) rfl ?_
  refine Seg.iadd (v := (21 : Int32)) at_187 (by decide) (pc' := 188) rfl ?_
  refine Seg.iload at_188 rfl (pc' := 190) rfl ?_
  refine Seg.iadd (v := (23 : Int32)) at_190 (by decide) (pc' := 191) rfl ?_
  refine Seg.iload at_191 rfl (pc' := 193) rfl ?_
  refine Seg.iadd (v := (25 : Int32)) at_193 (by decide) (pc' := 194) rfl ?_
  refine Seg.icN at_194 (by decide) (pc' := 197) rfl ?_
  refine Seg.iconst (v := 1) at_197 (by decide) (pc' := 198) rfl ?_
  refine Seg.goto (pc' := 202) at_198 (by decide) (by decide) ?_
  refine Seg.istore (L' := #[.val (.int p1), .val (.int p2), .val (.int p3), .val (.int p4), .val (.int (2 : Int32)), .val (.int (2 : Int32)), .val (.int (2 : Int32)), .val (.int t1), .val (.int t2), .val (.int i1), .val (.int i2), .val (.int o1), .val (.int o2), .val (.ref s1), .val (.ref s2), .val (.ref s3), .val (.ref rx), .val (.ref z), .val (.int (1 : Int32)), .unset]) at_202 rfl (pc' := 204) rfl ?_
  refine Seg.iload at_204 rfl (pc' := 206) rfl ?_
  refine Seg.ifN at_206 (by decide) (pc' := 209) rfl ?_
  refine Seg.aload at_209 rfl rfl (pc' := 211) rfl ?_
  refine Seg.iconst (v := 0) at_211 (by decide) (pc' := 212) rfl ?_
  refine Seg.bipush (v := 82) at_212 (by decide) (pc' := 214) rfl ?_
  refine Seg.callS (y' := (⟨"com/example/kredential/kredential/ResourceToStringPinLaw", "at", "(Ljava/lang/String;IC)Z"⟩ : MethodName)) (wd G 273 rfl) (wd G 274 rfl) (wd G 3 rfl) (wd G 275 rfl) ⟨by decide, by decide⟩ (Pays.of_ct (W := 0) (ct_at G z [82, 101, 115, 111, 117, 114, 99, 101, 91, t1, t2, 47, i1, i2, 44, 32, 111, 119, 110, 101, 114, 32, o1, o2, 93] 0 (82 : Int32) h F hall (by decide : 0 < 25) rfl) all0 (wd G 275 rfl) (wd G 3 rfl) (by decide) (by decide) rfl rfl) (argsL := [(.ref z), (.int (0 : Int32)), (.int (82 : Int32))]) (rest := []) rfl (lenOf pd_28 rfl) rfl (Nat.le_of_eq rfl) rfl at_214 (pc' := 217) rfl (k' := 50) (n' := 6000) rfl rfl (by decide) (by decide) ?_
  intro v_5 h_8 sz_6 q_7
  obtain ⟨rfl, rfl⟩ := q_7
  refine Seg.ifN at_217 (by decide) (pc' := 220) rfl ?_
  refine Seg.aload at_220 rfl rfl (pc' := 222) rfl ?_
  refine Seg.iconst (v := 1) at_222 (by decide) (pc' := 223) rfl ?_
  refine Seg.bipush (v := 101) at_223 (by decide) (pc' := 225) rfl ?_
  refine Seg.callS (y' := (⟨"com/example/kredential/kredential/ResourceToStringPinLaw", "at", "(Ljava/lang/String;IC)Z"⟩ : MethodName)) (wd G 273 rfl) (wd G 274 rfl) (wd G 3 rfl) (wd G 275 rfl) ⟨by decide, by decide⟩ (Pays.of_ct (W := 0) (ct_at G z [82, 101, 115, 111, 117, 114, 99, 101, 91, t1, t2, 47, i1, i2, 44, 32, 111, 119, 110, 101, 114, 32, o1, o2, 93] 1 (101 : Int32) h F hall (by decide : 1 < 25) rfl) all0 (wd G 275 rfl) (wd G 3 rfl) (by decide) (by decide) rfl rfl) (argsL := [(.ref z), (.int (1 : Int32)), (.int (101 : Int32))]) (rest := []) rfl (lenOf pd_28 rfl) rfl (Nat.le_of_eq rfl) rfl at_225 (pc' := 228) rfl (k' := 50) (n' := 6000) rfl rfl (by decide) (by decide) ?_
  intro v_9 h_12 sz_10 q_11
  obtain ⟨rfl, rfl⟩ := q_11
  refine Seg.ifN at_228 (by decide) (pc' := 231) rfl ?_
  refine Seg.aload at_231 rfl rfl (pc' := 233) rfl ?_
  refine Seg.iconst (v := 2) at_233 (by decide) (pc' := 234) rfl ?_
  refine Seg.bipush (v := 115) at_234 (by decide) (pc' := 236) rfl ?_
  refine Seg.callS (y' := (⟨"com/example/kredential/kredential/ResourceToStringPinLaw", "at", "(Ljava/lang/String;IC)Z"⟩ : MethodName)) (wd G 273 rfl) (wd G 274 rfl) (wd G 3 rfl) (wd G 275 rfl) ⟨by decide, by decide⟩ (Pays.of_ct (W := 0) (ct_at G z [82, 101, 115, 111, 117, 114, 99, 101, 91, t1, t2, 47, i1, i2, 44, 32, 111, 119, 110, 101, 114, 32, o1, o2, 93] 2 (115 : Int32) h F hall (by decide : 2 < 25) rfl) all0 (wd G 275 rfl) (wd G 3 rfl) (by decide) (by decide) rfl rfl) (argsL := [(.ref z), (.int (2 : Int32)), (.int (115 : Int32))]) (rest := []) rfl (lenOf pd_28 rfl) rfl (Nat.le_of_eq rfl) rfl at_236 (pc' := 239) rfl (k' := 50) (n' := 6000) rfl rfl (by decide) (by decide) ?_
  intro v_13 h_16 sz_14 q_15
  obtain ⟨rfl, rfl⟩ := q_15
  refine Seg.ifN at_239 (by decide) (pc' := 242) rfl ?_
  refine Seg.aload at_242 rfl rfl (pc' := 244) rfl ?_
  refine Seg.iconst (v := 3) at_244 (by decide) (pc' := 245) rfl ?_
  refine Seg.bipush (v := 111) at_245 (by decide) (pc' := 247) rfl ?_
  refine Seg.callS (y' := (⟨"com/example/kredential/kredential/ResourceToStringPinLaw", "at", "(Ljava/lang/String;IC)Z"⟩ : MethodName)) (wd G 273 rfl) (wd G 274 rfl) (wd G 3 rfl) (wd G 275 rfl) ⟨by decide, by decide⟩ (Pays.of_ct (W := 0) (ct_at G z [82, 101, 115, 111, 117, 114, 99, 101, 91, t1, t2, 47, i1, i2, 44, 32, 111, 119, 110, 101, 114, 32, o1, o2, 93] 3 (111 : Int32) h F hall (by decide : 3 < 25) rfl) all0 (wd G 275 rfl) (wd G 3 rfl) (by decide) (by decide) rfl rfl) (argsL := [(.ref z), (.int (3 : Int32)), (.int (111 : Int32))]) (rest := []) rfl (lenOf pd_28 rfl) rfl (Nat.le_of_eq rfl) rfl at_247 (pc' := 250) rfl (k' := 50) (n' := 6000) rfl rfl (by decide) (by decide) ?_
  intro v_17 h_20 sz_18 q_19
  obtain ⟨rfl, rfl⟩ := q_19
  refine Seg.ifN at_250 (by decide) (pc' := 253) rfl ?_
  refine Seg.aload at_253 rfl rfl (pc' := 255) rfl ?_
  refine Seg.iconst (v := 4) at_255 (by decide) (pc' := 256) rfl ?_
  refine Seg.bipush (v := 117) at_256 (by decide) (pc' := 258) rfl ?_
  refine Seg.callS (y' := (⟨"com/example/kredential/kredential/ResourceToStringPinLaw", "at", "(Ljava/lang/String;IC)Z"⟩ : MethodName)) (wd G 273 rfl) (wd G 274 rfl) (wd G 3 rfl) (wd G 275 rfl) ⟨by decide, by decide⟩ (Pays.of_ct (W := 0) (ct_at G z [82, 101, 115, 111, 117, 114, 99, 101, 91, t1, t2, 47, i1, i2, 44, 32, 111, 119, 110, 101, 114, 32, o1, o2, 93] 4 (117 : Int32) h F hall (by decide : 4 < 25) rfl) all0 (wd G 275 rfl) (wd G 3 rfl) (by decide) (by decide) rfl rfl) (argsL := [(.ref z), (.int (4 : Int32)), (.int (117 : Int32))]) (rest := []) rfl (lenOf pd_28 rfl) rfl (Nat.le_of_eq rfl) rfl at_258 (pc' := 261) rfl (k' := 50) (n' := 6000) rfl rfl (by decide) (by decide) ?_
  intro v_21 h_24 sz_22 q_23
  obtain ⟨rfl, rfl⟩ := q_23
  refine Seg.ifN at_261 (by decide) (pc' := 264) rfl ?_
  refine Seg.aload at_264 rfl rfl (pc' := 266) rfl ?_
  refine Seg.iconst (v := 5) at_266 (by decide) (pc' := 267) rfl ?_
  refine Seg.bipush (v := 114) at_267 (by decide) (pc' := 269) rfl ?_
  refine Seg.callS (y' := (⟨"com/example/kredential/kredential/ResourceToStringPinLaw", "at", "(Ljava/lang/String;IC)Z"⟩ : MethodName)) (wd G 273 rfl) (wd G 274 rfl) (wd G 3 rfl) (wd G 275 rfl) ⟨by decide, by decide⟩ (Pays.of_ct (W := 0) (ct_at G z [82, 101, 115, 111, 117, 114, 99, 101, 91, t1, t2, 47, i1, i2, 44, 32, 111, 119, 110, 101, 114, 32, o1, o2, 93] 5 (114 : Int32) h F hall (by decide : 5 < 25) rfl) all0 (wd G 275 rfl) (wd G 3 rfl) (by decide) (by decide) rfl rfl) (argsL := [(.ref z), (.int (5 : Int32)), (.int (114 : Int32))]) (rest := []) rfl (lenOf pd_28 rfl) rfl (Nat.le_of_eq rfl) rfl at_269 (pc' := 272) rfl (k' := 50) (n' := 6000) rfl rfl (by decide) (by decide) ?_
  intro v_25 h_28 sz_26 q_27
  obtain ⟨rfl, rfl⟩ := q_27
  refine Seg.ifN at_272 (by decide) (pc' := 275) rfl ?_
  refine Seg.aload at_275 rfl rfl (pc' := 277) rfl ?_
  refine Seg.bipush (v := 6) at_277 (by decide) (pc' := 279) rfl ?_
  refine Seg.bipush (v := 99) at_279 (by decide) (pc' := 281) rfl ?_
  refine Seg.callS (y' := (⟨"com/example/kredential/kredential/ResourceToStringPinLaw", "at", "(Ljava/lang/String;IC)Z"⟩ : MethodName)) (wd G 273 rfl) (wd G 274 rfl) (wd G 3 rfl) (wd G 275 rfl) ⟨by decide, by decide⟩ (Pays.of_ct (W := 0) (ct_at G z [82, 101, 115, 111, 117, 114, 99, 101, 91, t1, t2, 47, i1, i2, 44, 32, 111, 119, 110, 101, 114, 32, o1, o2, 93] 6 (99 : Int32) h F hall (by decide : 6 < 25) rfl) all0 (wd G 275 rfl) (wd G 3 rfl) (by decide) (by decide) rfl rfl) (argsL := [(.ref z), (.int (6 : Int32)), (.int (99 : Int32))]) (rest := []) rfl (lenOf pd_28 rfl) rfl (Nat.le_of_eq rfl) rfl at_281 (pc' := 284) rfl (k' := 50) (n' := 6000) rfl rfl (by decide) (by decide) ?_
  intro v_29 h_32 sz_30 q_31
  obtain ⟨rfl, rfl⟩ := q_31
  refine Seg.ifN at_284 (by decide) (pc' := 287) rfl ?_
  refine Seg.aload at_287 rfl rfl (pc' := 289) rfl ?_
  refine Seg.bipush (v := 7) at_289 (by decide) (pc' := 291) rfl ?_
  refine Seg.bipush (v := 101) at_291 (by decide) (pc' := 293) rfl ?_
  refine Seg.callS (y' := (⟨"com/example/kredential/kredential/ResourceToStringPinLaw", "at", "(Ljava/lang/String;IC)Z"⟩ : MethodName)) (wd G 273 rfl) (wd G 274 rfl) (wd G 3 rfl) (wd G 275 rfl) ⟨by decide, by decide⟩ (Pays.of_ct (W := 0) (ct_at G z [82, 101, 115, 111, 117, 114, 99, 101, 91, t1, t2, 47, i1, i2, 44, 32, 111, 119, 110, 101, 114, 32, o1, o2, 93] 7 (101 : Int32) h F hall (by decide : 7 < 25) rfl) all0 (wd G 275 rfl) (wd G 3 rfl) (by decide) (by decide) rfl rfl) (argsL := [(.ref z), (.int (7 : Int32)), (.int (101 : Int32))]) (rest := []) rfl (lenOf pd_28 rfl) rfl (Nat.le_of_eq rfl) rfl at_293 (pc' := 296) rfl (k' := 50) (n' := 6000) rfl rfl (by decide) (by decide) ?_
  intro v_33 h_36 sz_34 q_35
  obtain ⟨rfl, rfl⟩ := q_35
  refine Seg.ifN at_296 (by decide) (pc' := 299) rfl ?_
  refine Seg.aload at_299 rfl rfl (pc' := 301) rfl ?_
  refine Seg.bipush (v := 8) at_301 (by decide) (pc' := 303) rfl ?_
  refine Seg.bipush (v := 91) at_303 (by decide) (pc' := 305) rfl ?_
  refine Seg.callS (y' := (⟨"com/example/kredential/kredential/ResourceToStringPinLaw", "at", "(Ljava/lang/String;IC)Z"⟩ : MethodName)) (wd G 273 rfl) (wd G 274 rfl) (wd G 3 rfl) (wd G 275 rfl) ⟨by decide, by decide⟩ (Pays.of_ct (W := 0) (ct_at G z [82, 101, 115, 111, 117, 114, 99, 101, 91, t1, t2, 47, i1, i2, 44, 32, 111, 119, 110, 101, 114, 32, o1, o2, 93] 8 (91 : Int32) h F hall (by decide : 8 < 25) rfl) all0 (wd G 275 rfl) (wd G 3 rfl) (by decide) (by decide) rfl rfl) (argsL := [(.ref z), (.int (8 : Int32)), (.int (91 : Int32))]) (rest := []) rfl (lenOf pd_28 rfl) rfl (Nat.le_of_eq rfl) rfl at_305 (pc' := 308) rfl (k' := 50) (n' := 6000) rfl rfl (by decide) (by decide) ?_
  intro v_37 h_40 sz_38 q_39
  obtain ⟨rfl, rfl⟩ := q_39
  refine Seg.ifN at_308 (by decide) (pc' := 311) rfl ?_
  refine Seg.iconst (v := 1) at_311 (by decide) (pc' := 312) rfl ?_
  refine Seg.goto (pc' := 316) at_312 (by decide) (by decide) ?_
  refine Seg.istore (L' := #[.val (.int p1), .val (.int p2), .val (.int p3), .val (.int p4), .val (.int (2 : Int32)), .val (.int (2 : Int32)), .val (.int (2 : Int32)), .val (.int t1), .val (.int t2), .val (.int i1), .val (.int i2), .val (.int o1), .val (.int o2), .val (.ref s1), .val (.ref s2), .val (.ref s3), .val (.ref rx), .val (.ref z), .val (.int (1 : Int32)), .unset]) at_316 rfl (pc' := 318) rfl ?_
  refine Seg.bipush (v := 9) at_318 (by decide) (pc' := 320) rfl ?_
  refine Seg.istore (L' := #[.val (.int p1), .val (.int p2), .val (.int p3), .val (.int p4), .val (.int (2 : Int32)), .val (.int (2 : Int32)), .val (.int (2 : Int32)), .val (.int t1), .val (.int t2), .val (.int i1), .val (.int i2), .val (.int o1), .val (.int o2), .val (.ref s1), .val (.ref s2), .val (.ref s3), .val (.ref rx), .val (.ref z), .val (.int (1 : Int32)), .val (.int (9 : Int32))]) at_320 rfl (pc' := 322) rfl ?_
  refine Seg.iload at_322 rfl (pc' := 324) rfl ?_
  refine Seg.ifN at_324 (by decide) (pc' := 327) rfl ?_
  refine Seg.aload at_327 rfl rfl (pc' := 329) rfl ?_
  refine Seg.iload at_329 rfl (pc' := 331) rfl ?_
  refine Seg.iload at_331 rfl (pc' := 333) rfl ?_
  refine Seg.callS (y' := (⟨"com/example/kredential/kredential/ResourceToStringPinLaw", "at", "(Ljava/lang/String;IC)Z"⟩ : MethodName)) (wd G 273 rfl) (wd G 274 rfl) (wd G 3 rfl) (wd G 275 rfl) ⟨by decide, by decide⟩ (Pays.of_ct (W := 0) (ct_at G z [82, 101, 115, 111, 117, 114, 99, 101, 91, t1, t2, 47, i1, i2, 44, 32, 111, 119, 110, 101, 114, 32, o1, o2, 93] 9 t1 h F hall (by decide : 9 < 25) rfl) all0 (wd G 275 rfl) (wd G 3 rfl) (by decide) (by decide) rfl rfl) (argsL := [(.ref z), (.int (9 : Int32)), (.int t1)]) (rest := []) rfl (lenOf pd_28 rfl) rfl (Nat.le_of_eq rfl) rfl at_333 (pc' := 336) rfl (k' := 50) (n' := 6000) rfl rfl (by decide) (by decide) ?_
  intro v_41 h_44 sz_42 q_43
  obtain ⟨rfl, rfl⟩ := q_43
  refine Seg.ifN at_336 (by decide) (pc' := 339) rfl ?_
  refine Seg.iconst (v := 1) at_339 (by decide) (pc' := 340) rfl ?_
  refine Seg.goto (pc' := 344) at_340 (by decide) (by decide) ?_
  refine Seg.istore (L' := #[.val (.int p1), .val (.int p2), .val (.int p3), .val (.int p4), .val (.int (2 : Int32)), .val (.int (2 : Int32)), .val (.int (2 : Int32)), .val (.int t1), .val (.int t2), .val (.int i1), .val (.int i2), .val (.int o1), .val (.int o2), .val (.ref s1), .val (.ref s2), .val (.ref s3), .val (.ref rx), .val (.ref z), .val (.int (1 : Int32)), .val (.int (9 : Int32))]) at_344 rfl (pc' := 346) rfl ?_
  refine Seg.iload at_346 rfl (pc' := 348) rfl ?_
  refine Seg.iconst (v := 2) at_348 (by decide) (pc' := 349) rfl ?_
  refine Seg.icN at_349 (by decide) (pc' := 352) rfl ?_
  refine Seg.iload at_352 rfl (pc' := 354) rfl ?_
  refine Seg.ifN at_354 (by decide) (pc' := 357) rfl ?_
  refine Seg.aload at_357 rfl rfl (pc' := 359) rfl ?_
  refine Seg.iload at_359 rfl (pc' := 361) rfl ?_
  refine Seg.iconst (v := 1) at_361 (by decide) (pc' := 362) rfl ?_
  refine Seg.iadd (v := (10 : Int32)) at_362 (by decide) (pc' := 363) rfl ?_
  refine Seg.iload at_363 rfl (pc' := 365) rfl ?_
  refine Seg.callS (y' := (⟨"com/example/kredential/kredential/ResourceToStringPinLaw", "at", "(Ljava/lang/String;IC)Z"⟩ : MethodName)) (wd G 273 rfl) (wd G 274 rfl) (wd G 3 rfl) (wd G 275 rfl) ⟨by decide, by decide⟩ (Pays.of_ct (W := 0) (ct_at G z [82, 101, 115, 111, 117, 114, 99, 101, 91, t1, t2, 47, i1, i2, 44, 32, 111, 119, 110, 101, 114, 32, o1, o2, 93] 10 t2 h F hall (by decide : 10 < 25) rfl) all0 (wd G 275 rfl) (wd G 3 rfl) (by decide) (by decide) rfl rfl) (argsL := [(.ref z), (.int (10 : Int32)), (.int t2)]) (rest := []) rfl (lenOf pd_28 rfl) rfl (Nat.le_of_eq rfl) rfl at_365 (pc' := 368) rfl (k' := 50) (n' := 6000) rfl rfl (by decide) (by decide) ?_
  intro v_45 h_48 sz_46 q_47
  obtain ⟨rfl, rfl⟩ := q_47
  refine Seg.ifN at_368 (by decide) (pc' := 371) rfl ?_
  refine Seg.iconst (v := 1) at_371 (by decide) (pc' := 372) rfl ?_
  refine Seg.goto (pc' := 376) at_372 (by decide) (by decide) ?_
  refine Seg.istore (L' := #[.val (.int p1), .val (.int p2), .val (.int p3), .val (.int p4), .val (.int (2 : Int32)), .val (.int (2 : Int32)), .val (.int (2 : Int32)), .val (.int t1), .val (.int t2), .val (.int i1), .val (.int i2), .val (.int o1), .val (.int o2), .val (.ref s1), .val (.ref s2), .val (.ref s3), .val (.ref rx), .val (.ref z), .val (.int (1 : Int32)), .val (.int (9 : Int32))]) at_376 rfl (pc' := 378) rfl ?_
  refine Seg.iload at_378 rfl (pc' := 380) rfl ?_
  refine Seg.iload at_380 rfl (pc' := 382) rfl ?_
  refine Seg.iadd (v := (11 : Int32)) at_382 (by decide) (pc' := 383) rfl ?_
  refine Seg.istore (L' := #[.val (.int p1), .val (.int p2), .val (.int p3), .val (.int p4), .val (.int (2 : Int32)), .val (.int (2 : Int32)), .val (.int (2 : Int32)), .val (.int t1), .val (.int t2), .val (.int i1), .val (.int i2), .val (.int o1), .val (.int o2), .val (.ref s1), .val (.ref s2), .val (.ref s3), .val (.ref rx), .val (.ref z), .val (.int (1 : Int32)), .val (.int (11 : Int32))]) at_383 rfl (pc' := 385) rfl ?_
  refine Seg.iload at_385 rfl (pc' := 387) rfl ?_
  refine Seg.ifN at_387 (by decide) (pc' := 390) rfl ?_
  refine Seg.aload at_390 rfl rfl (pc' := 392) rfl ?_
  refine Seg.iload at_392 rfl (pc' := 394) rfl ?_
  refine Seg.bipush (v := 47) at_394 (by decide) (pc' := 396) rfl ?_
  refine Seg.callS (y' := (⟨"com/example/kredential/kredential/ResourceToStringPinLaw", "at", "(Ljava/lang/String;IC)Z"⟩ : MethodName)) (wd G 273 rfl) (wd G 274 rfl) (wd G 3 rfl) (wd G 275 rfl) ⟨by decide, by decide⟩ (Pays.of_ct (W := 0) (ct_at G z [82, 101, 115, 111, 117, 114, 99, 101, 91, t1, t2, 47, i1, i2, 44, 32, 111, 119, 110, 101, 114, 32, o1, o2, 93] 11 (47 : Int32) h F hall (by decide : 11 < 25) rfl) all0 (wd G 275 rfl) (wd G 3 rfl) (by decide) (by decide) rfl rfl) (argsL := [(.ref z), (.int (11 : Int32)), (.int (47 : Int32))]) (rest := []) rfl (lenOf pd_28 rfl) rfl (Nat.le_of_eq rfl) rfl at_396 (pc' := 399) rfl (k' := 50) (n' := 6000) rfl rfl (by decide) (by decide) ?_
  intro v_49 h_52 sz_50 q_51
  obtain ⟨rfl, rfl⟩ := q_51
  refine Seg.ifN at_399 (by decide) (pc' := 402) rfl ?_
  refine Seg.iconst (v := 1) at_402 (by decide) (pc' := 403) rfl ?_
  refine Seg.goto (pc' := 407) at_403 (by decide) (by decide) ?_
  refine Seg.istore (L' := #[.val (.int p1), .val (.int p2), .val (.int p3), .val (.int p4), .val (.int (2 : Int32)), .val (.int (2 : Int32)), .val (.int (2 : Int32)), .val (.int t1), .val (.int t2), .val (.int i1), .val (.int i2), .val (.int o1), .val (.int o2), .val (.ref s1), .val (.ref s2), .val (.ref s3), .val (.ref rx), .val (.ref z), .val (.int (1 : Int32)), .val (.int (11 : Int32))]) at_407 rfl (pc' := 409) rfl ?_
  refine Seg.iload at_409 rfl (pc' := 411) rfl ?_
  refine Seg.iconst (v := 1) at_411 (by decide) (pc' := 412) rfl ?_
  refine Seg.iadd (v := (12 : Int32)) at_412 (by decide) (pc' := 413) rfl ?_
  refine Seg.istore (L' := #[.val (.int p1), .val (.int p2), .val (.int p3), .val (.int p4), .val (.int (2 : Int32)), .val (.int (2 : Int32)), .val (.int (2 : Int32)), .val (.int t1), .val (.int t2), .val (.int i1), .val (.int i2), .val (.int o1), .val (.int o2), .val (.ref s1), .val (.ref s2), .val (.ref s3), .val (.ref rx), .val (.ref z), .val (.int (1 : Int32)), .val (.int (12 : Int32))]) at_413 rfl (pc' := 415) rfl ?_
  refine Seg.iload at_415 rfl (pc' := 417) rfl ?_
  refine Seg.ifN at_417 (by decide) (pc' := 420) rfl ?_
  refine Seg.aload at_420 rfl rfl (pc' := 422) rfl ?_
  refine Seg.iload at_422 rfl (pc' := 424) rfl ?_
  refine Seg.iload at_424 rfl (pc' := 426) rfl ?_
  refine Seg.callS (y' := (⟨"com/example/kredential/kredential/ResourceToStringPinLaw", "at", "(Ljava/lang/String;IC)Z"⟩ : MethodName)) (wd G 273 rfl) (wd G 274 rfl) (wd G 3 rfl) (wd G 275 rfl) ⟨by decide, by decide⟩ (Pays.of_ct (W := 0) (ct_at G z [82, 101, 115, 111, 117, 114, 99, 101, 91, t1, t2, 47, i1, i2, 44, 32, 111, 119, 110, 101, 114, 32, o1, o2, 93] 12 i1 h F hall (by decide : 12 < 25) rfl) all0 (wd G 275 rfl) (wd G 3 rfl) (by decide) (by decide) rfl rfl) (argsL := [(.ref z), (.int (12 : Int32)), (.int i1)]) (rest := []) rfl (lenOf pd_28 rfl) rfl (Nat.le_of_eq rfl) rfl at_426 (pc' := 429) rfl (k' := 50) (n' := 6000) rfl rfl (by decide) (by decide) ?_
  intro v_53 h_56 sz_54 q_55
  obtain ⟨rfl, rfl⟩ := q_55
  refine Seg.ifN at_429 (by decide) (pc' := 432) rfl ?_
  refine Seg.iconst (v := 1) at_432 (by decide) (pc' := 433) rfl ?_
  refine Seg.goto (pc' := 437) at_433 (by decide) (by decide) ?_
  refine Seg.istore (L' := #[.val (.int p1), .val (.int p2), .val (.int p3), .val (.int p4), .val (.int (2 : Int32)), .val (.int (2 : Int32)), .val (.int (2 : Int32)), .val (.int t1), .val (.int t2), .val (.int i1), .val (.int i2), .val (.int o1), .val (.int o2), .val (.ref s1), .val (.ref s2), .val (.ref s3), .val (.ref rx), .val (.ref z), .val (.int (1 : Int32)), .val (.int (12 : Int32))]) at_437 rfl (pc' := 439) rfl ?_
  refine Seg.iload at_439 rfl (pc' := 441) rfl ?_
  refine Seg.iconst (v := 2) at_441 (by decide) (pc' := 442) rfl ?_
  refine Seg.icN at_442 (by decide) (pc' := 445) rfl ?_
  refine Seg.iload at_445 rfl (pc' := 447) rfl ?_
  refine Seg.ifN at_447 (by decide) (pc' := 450) rfl ?_
  refine Seg.aload at_450 rfl rfl (pc' := 452) rfl ?_
  refine Seg.iload at_452 rfl (pc' := 454) rfl ?_
  refine Seg.iconst (v := 1) at_454 (by decide) (pc' := 455) rfl ?_
  refine Seg.iadd (v := (13 : Int32)) at_455 (by decide) (pc' := 456) rfl ?_
  refine Seg.iload at_456 rfl (pc' := 458) rfl ?_
  refine Seg.callS (y' := (⟨"com/example/kredential/kredential/ResourceToStringPinLaw", "at", "(Ljava/lang/String;IC)Z"⟩ : MethodName)) (wd G 273 rfl) (wd G 274 rfl) (wd G 3 rfl) (wd G 275 rfl) ⟨by decide, by decide⟩ (Pays.of_ct (W := 0) (ct_at G z [82, 101, 115, 111, 117, 114, 99, 101, 91, t1, t2, 47, i1, i2, 44, 32, 111, 119, 110, 101, 114, 32, o1, o2, 93] 13 i2 h F hall (by decide : 13 < 25) rfl) all0 (wd G 275 rfl) (wd G 3 rfl) (by decide) (by decide) rfl rfl) (argsL := [(.ref z), (.int (13 : Int32)), (.int i2)]) (rest := []) rfl (lenOf pd_28 rfl) rfl (Nat.le_of_eq rfl) rfl at_458 (pc' := 461) rfl (k' := 50) (n' := 6000) rfl rfl (by decide) (by decide) ?_
  intro v_57 h_60 sz_58 q_59
  obtain ⟨rfl, rfl⟩ := q_59
  refine Seg.ifN at_461 (by decide) (pc' := 464) rfl ?_
  refine Seg.iconst (v := 1) at_464 (by decide) (pc' := 465) rfl ?_
  refine Seg.goto (pc' := 469) at_465 (by decide) (by decide) ?_
  refine Seg.istore (L' := #[.val (.int p1), .val (.int p2), .val (.int p3), .val (.int p4), .val (.int (2 : Int32)), .val (.int (2 : Int32)), .val (.int (2 : Int32)), .val (.int t1), .val (.int t2), .val (.int i1), .val (.int i2), .val (.int o1), .val (.int o2), .val (.ref s1), .val (.ref s2), .val (.ref s3), .val (.ref rx), .val (.ref z), .val (.int (1 : Int32)), .val (.int (12 : Int32))]) at_469 rfl (pc' := 471) rfl ?_
  refine Seg.iload at_471 rfl (pc' := 473) rfl ?_
  refine Seg.iload at_473 rfl (pc' := 475) rfl ?_
  refine Seg.iadd (v := (14 : Int32)) at_475 (by decide) (pc' := 476) rfl ?_
  refine Seg.istore (L' := #[.val (.int p1), .val (.int p2), .val (.int p3), .val (.int p4), .val (.int (2 : Int32)), .val (.int (2 : Int32)), .val (.int (2 : Int32)), .val (.int t1), .val (.int t2), .val (.int i1), .val (.int i2), .val (.int o1), .val (.int o2), .val (.ref s1), .val (.ref s2), .val (.ref s3), .val (.ref rx), .val (.ref z), .val (.int (1 : Int32)), .val (.int (14 : Int32))]) at_476 rfl (pc' := 478) rfl ?_
  refine Seg.iload at_478 rfl (pc' := 480) rfl ?_
  refine Seg.ifN at_480 (by decide) (pc' := 483) rfl ?_
  refine Seg.aload at_483 rfl rfl (pc' := 485) rfl ?_
  refine Seg.iload at_485 rfl (pc' := 487) rfl ?_
  refine Seg.bipush (v := 44) at_487 (by decide) (pc' := 489) rfl ?_
  refine Seg.callS (y' := (⟨"com/example/kredential/kredential/ResourceToStringPinLaw", "at", "(Ljava/lang/String;IC)Z"⟩ : MethodName)) (wd G 273 rfl) (wd G 274 rfl) (wd G 3 rfl) (wd G 275 rfl) ⟨by decide, by decide⟩ (Pays.of_ct (W := 0) (ct_at G z [82, 101, 115, 111, 117, 114, 99, 101, 91, t1, t2, 47, i1, i2, 44, 32, 111, 119, 110, 101, 114, 32, o1, o2, 93] 14 (44 : Int32) h F hall (by decide : 14 < 25) rfl) all0 (wd G 275 rfl) (wd G 3 rfl) (by decide) (by decide) rfl rfl) (argsL := [(.ref z), (.int (14 : Int32)), (.int (44 : Int32))]) (rest := []) rfl (lenOf pd_28 rfl) rfl (Nat.le_of_eq rfl) rfl at_489 (pc' := 492) rfl (k' := 50) (n' := 6000) rfl rfl (by decide) (by decide) ?_
  intro v_61 h_64 sz_62 q_63
  obtain ⟨rfl, rfl⟩ := q_63
  refine Seg.ifN at_492 (by decide) (pc' := 495) rfl ?_
  refine Seg.aload at_495 rfl rfl (pc' := 497) rfl ?_
  refine Seg.iload at_497 rfl (pc' := 499) rfl ?_
  refine Seg.iconst (v := 1) at_499 (by decide) (pc' := 500) rfl ?_
  refine Seg.iadd (v := (15 : Int32)) at_500 (by decide) (pc' := 501) rfl ?_
  refine Seg.bipush (v := 32) at_501 (by decide) (pc' := 503) rfl ?_
  refine Seg.callS (y' := (⟨"com/example/kredential/kredential/ResourceToStringPinLaw", "at", "(Ljava/lang/String;IC)Z"⟩ : MethodName)) (wd G 273 rfl) (wd G 274 rfl) (wd G 3 rfl) (wd G 275 rfl) ⟨by decide, by decide⟩ (Pays.of_ct (W := 0) (ct_at G z [82, 101, 115, 111, 117, 114, 99, 101, 91, t1, t2, 47, i1, i2, 44, 32, 111, 119, 110, 101, 114, 32, o1, o2, 93] 15 (32 : Int32) h F hall (by decide : 15 < 25) rfl) all0 (wd G 275 rfl) (wd G 3 rfl) (by decide) (by decide) rfl rfl) (argsL := [(.ref z), (.int (15 : Int32)), (.int (32 : Int32))]) (rest := []) rfl (lenOf pd_28 rfl) rfl (Nat.le_of_eq rfl) rfl at_503 (pc' := 506) rfl (k' := 50) (n' := 6000) rfl rfl (by decide) (by decide) ?_
  intro v_65 h_68 sz_66 q_67
  obtain ⟨rfl, rfl⟩ := q_67
  refine Seg.ifN at_506 (by decide) (pc' := 509) rfl ?_
  refine Seg.aload at_509 rfl rfl (pc' := 511) rfl ?_
  refine Seg.iload at_511 rfl (pc' := 513) rfl ?_
  refine Seg.iconst (v := 2) at_513 (by decide) (pc' := 514) rfl ?_
  refine Seg.iadd (v := (16 : Int32)) at_514 (by decide) (pc' := 515) rfl ?_
  refine Seg.bipush (v := 111) at_515 (by decide) (pc' := 517) rfl ?_
  refine Seg.callS (y' := (⟨"com/example/kredential/kredential/ResourceToStringPinLaw", "at", "(Ljava/lang/String;IC)Z"⟩ : MethodName)) (wd G 273 rfl) (wd G 274 rfl) (wd G 3 rfl) (wd G 275 rfl) ⟨by decide, by decide⟩ (Pays.of_ct (W := 0) (ct_at G z [82, 101, 115, 111, 117, 114, 99, 101, 91, t1, t2, 47, i1, i2, 44, 32, 111, 119, 110, 101, 114, 32, o1, o2, 93] 16 (111 : Int32) h F hall (by decide : 16 < 25) rfl) all0 (wd G 275 rfl) (wd G 3 rfl) (by decide) (by decide) rfl rfl) (argsL := [(.ref z), (.int (16 : Int32)), (.int (111 : Int32))]) (rest := []) rfl (lenOf pd_28 rfl) rfl (Nat.le_of_eq rfl) rfl at_517 (pc' := 520) rfl (k' := 50) (n' := 6000) rfl rfl (by decide) (by decide) ?_
  intro v_69 h_72 sz_70 q_71
  obtain ⟨rfl, rfl⟩ := q_71
  refine Seg.ifN at_520 (by decide) (pc' := 523) rfl ?_
  refine Seg.aload at_523 rfl rfl (pc' := 525) rfl ?_
  refine Seg.iload at_525 rfl (pc' := 527) rfl ?_
  refine Seg.iconst (v := 3) at_527 (by decide) (pc' := 528) rfl ?_
  refine Seg.iadd (v := (17 : Int32)) at_528 (by decide) (pc' := 529) rfl ?_
  refine Seg.bipush (v := 119) at_529 (by decide) (pc' := 531) rfl ?_
  refine Seg.callS (y' := (⟨"com/example/kredential/kredential/ResourceToStringPinLaw", "at", "(Ljava/lang/String;IC)Z"⟩ : MethodName)) (wd G 273 rfl) (wd G 274 rfl) (wd G 3 rfl) (wd G 275 rfl) ⟨by decide, by decide⟩ (Pays.of_ct (W := 0) (ct_at G z [82, 101, 115, 111, 117, 114, 99, 101, 91, t1, t2, 47, i1, i2, 44, 32, 111, 119, 110, 101, 114, 32, o1, o2, 93] 17 (119 : Int32) h F hall (by decide : 17 < 25) rfl) all0 (wd G 275 rfl) (wd G 3 rfl) (by decide) (by decide) rfl rfl) (argsL := [(.ref z), (.int (17 : Int32)), (.int (119 : Int32))]) (rest := []) rfl (lenOf pd_28 rfl) rfl (Nat.le_of_eq rfl) rfl at_531 (pc' := 534) rfl (k' := 50) (n' := 6000) rfl rfl (by decide) (by decide) ?_
  intro v_73 h_76 sz_74 q_75
  obtain ⟨rfl, rfl⟩ := q_75
  refine Seg.ifN at_534 (by decide) (pc' := 537) rfl ?_
  refine Seg.aload at_537 rfl rfl (pc' := 539) rfl ?_
  refine Seg.iload at_539 rfl (pc' := 541) rfl ?_
  refine Seg.iconst (v := 4) at_541 (by decide) (pc' := 542) rfl ?_
  refine Seg.iadd (v := (18 : Int32)) at_542 (by decide) (pc' := 543) rfl ?_
  refine Seg.bipush (v := 110) at_543 (by decide) (pc' := 545) rfl ?_
  refine Seg.callS (y' := (⟨"com/example/kredential/kredential/ResourceToStringPinLaw", "at", "(Ljava/lang/String;IC)Z"⟩ : MethodName)) (wd G 273 rfl) (wd G 274 rfl) (wd G 3 rfl) (wd G 275 rfl) ⟨by decide, by decide⟩ (Pays.of_ct (W := 0) (ct_at G z [82, 101, 115, 111, 117, 114, 99, 101, 91, t1, t2, 47, i1, i2, 44, 32, 111, 119, 110, 101, 114, 32, o1, o2, 93] 18 (110 : Int32) h F hall (by decide : 18 < 25) rfl) all0 (wd G 275 rfl) (wd G 3 rfl) (by decide) (by decide) rfl rfl) (argsL := [(.ref z), (.int (18 : Int32)), (.int (110 : Int32))]) (rest := []) rfl (lenOf pd_28 rfl) rfl (Nat.le_of_eq rfl) rfl at_545 (pc' := 548) rfl (k' := 50) (n' := 6000) rfl rfl (by decide) (by decide) ?_
  intro v_77 h_80 sz_78 q_79
  obtain ⟨rfl, rfl⟩ := q_79
  refine Seg.ifN at_548 (by decide) (pc' := 551) rfl ?_
  refine Seg.aload at_551 rfl rfl (pc' := 553) rfl ?_
  refine Seg.iload at_553 rfl (pc' := 555) rfl ?_
  refine Seg.iconst (v := 5) at_555 (by decide) (pc' := 556) rfl ?_
  refine Seg.iadd (v := (19 : Int32)) at_556 (by decide) (pc' := 557) rfl ?_
  refine Seg.bipush (v := 101) at_557 (by decide) (pc' := 559) rfl ?_
  refine Seg.callS (y' := (⟨"com/example/kredential/kredential/ResourceToStringPinLaw", "at", "(Ljava/lang/String;IC)Z"⟩ : MethodName)) (wd G 273 rfl) (wd G 274 rfl) (wd G 3 rfl) (wd G 275 rfl) ⟨by decide, by decide⟩ (Pays.of_ct (W := 0) (ct_at G z [82, 101, 115, 111, 117, 114, 99, 101, 91, t1, t2, 47, i1, i2, 44, 32, 111, 119, 110, 101, 114, 32, o1, o2, 93] 19 (101 : Int32) h F hall (by decide : 19 < 25) rfl) all0 (wd G 275 rfl) (wd G 3 rfl) (by decide) (by decide) rfl rfl) (argsL := [(.ref z), (.int (19 : Int32)), (.int (101 : Int32))]) (rest := []) rfl (lenOf pd_28 rfl) rfl (Nat.le_of_eq rfl) rfl at_559 (pc' := 562) rfl (k' := 50) (n' := 6000) rfl rfl (by decide) (by decide) ?_
  intro v_81 h_84 sz_82 q_83
  obtain ⟨rfl, rfl⟩ := q_83
  refine Seg.ifN at_562 (by decide) (pc' := 565) rfl ?_
  refine Seg.aload at_565 rfl rfl (pc' := 567) rfl ?_
  refine Seg.iload at_567 rfl (pc' := 569) rfl ?_
  refine Seg.bipush (v := 6) at_569 (by decide) (pc' := 571) rfl ?_
  refine Seg.iadd (v := (20 : Int32)) at_571 (by decide) (pc' := 572) rfl ?_
  refine Seg.bipush (v := 114) at_572 (by decide) (pc' := 574) rfl ?_
  refine Seg.callS (y' := (⟨"com/example/kredential/kredential/ResourceToStringPinLaw", "at", "(Ljava/lang/String;IC)Z"⟩ : MethodName)) (wd G 273 rfl) (wd G 274 rfl) (wd G 3 rfl) (wd G 275 rfl) ⟨by decide, by decide⟩ (Pays.of_ct (W := 0) (ct_at G z [82, 101, 115, 111, 117, 114, 99, 101, 91, t1, t2, 47, i1, i2, 44, 32, 111, 119, 110, 101, 114, 32, o1, o2, 93] 20 (114 : Int32) h F hall (by decide : 20 < 25) rfl) all0 (wd G 275 rfl) (wd G 3 rfl) (by decide) (by decide) rfl rfl) (argsL := [(.ref z), (.int (20 : Int32)), (.int (114 : Int32))]) (rest := []) rfl (lenOf pd_28 rfl) rfl (Nat.le_of_eq rfl) rfl at_574 (pc' := 577) rfl (k' := 50) (n' := 6000) rfl rfl (by decide) (by decide) ?_
  intro v_85 h_88 sz_86 q_87
  obtain ⟨rfl, rfl⟩ := q_87
  refine Seg.ifN at_577 (by decide) (pc' := 580) rfl ?_
  refine Seg.aload at_580 rfl rfl (pc' := 582) rfl ?_
  refine Seg.iload at_582 rfl (pc' := 584) rfl ?_
  refine Seg.bipush (v := 7) at_584 (by decide) (pc' := 586) rfl ?_
  refine Seg.iadd (v := (21 : Int32)) at_586 (by decide) (pc' := 587) rfl ?_
  refine Seg.bipush (v := 32) at_587 (by decide) (pc' := 589) rfl ?_
  refine Seg.callS (y' := (⟨"com/example/kredential/kredential/ResourceToStringPinLaw", "at", "(Ljava/lang/String;IC)Z"⟩ : MethodName)) (wd G 273 rfl) (wd G 274 rfl) (wd G 3 rfl) (wd G 275 rfl) ⟨by decide, by decide⟩ (Pays.of_ct (W := 0) (ct_at G z [82, 101, 115, 111, 117, 114, 99, 101, 91, t1, t2, 47, i1, i2, 44, 32, 111, 119, 110, 101, 114, 32, o1, o2, 93] 21 (32 : Int32) h F hall (by decide : 21 < 25) rfl) all0 (wd G 275 rfl) (wd G 3 rfl) (by decide) (by decide) rfl rfl) (argsL := [(.ref z), (.int (21 : Int32)), (.int (32 : Int32))]) (rest := []) rfl (lenOf pd_28 rfl) rfl (Nat.le_of_eq rfl) rfl at_589 (pc' := 592) rfl (k' := 50) (n' := 6000) rfl rfl (by decide) (by decide) ?_
  intro v_89 h_92 sz_90 q_91
  obtain ⟨rfl, rfl⟩ := q_91
  refine Seg.ifN at_592 (by decide) (pc' := 595) rfl ?_
  refine Seg.iconst (v := 1) at_595 (by decide) (pc' := 596) rfl ?_
  refine Seg.goto (pc' := 600) at_596 (by decide) (by decide) ?_
  refine Seg.istore (L' := #[.val (.int p1), .val (.int p2), .val (.int p3), .val (.int p4), .val (.int (2 : Int32)), .val (.int (2 : Int32)), .val (.int (2 : Int32)), .val (.int t1), .val (.int t2), .val (.int i1), .val (.int i2), .val (.int o1), .val (.int o2), .val (.ref s1), .val (.ref s2), .val (.ref s3), .val (.ref rx), .val (.ref z), .val (.int (1 : Int32)), .val (.int (14 : Int32))]) at_600 rfl (pc' := 602) rfl ?_
  refine Seg.iload at_602 rfl (pc' := 604) rfl ?_
  refine Seg.bipush (v := 8) at_604 (by decide) (pc' := 606) rfl ?_
  refine Seg.iadd (v := (22 : Int32)) at_606 (by decide) (pc' := 607) rfl ?_
  refine Seg.istore (L' := #[.val (.int p1), .val (.int p2), .val (.int p3), .val (.int p4), .val (.int (2 : Int32)), .val (.int (2 : Int32)), .val (.int (2 : Int32)), .val (.int t1), .val (.int t2), .val (.int i1), .val (.int i2), .val (.int o1), .val (.int o2), .val (.ref s1), .val (.ref s2), .val (.ref s3), .val (.ref rx), .val (.ref z), .val (.int (1 : Int32)), .val (.int (22 : Int32))]) at_607 rfl (pc' := 609) rfl ?_
  refine Seg.iload at_609 rfl (pc' := 611) rfl ?_
  refine Seg.ifN at_611 (by decide) (pc' := 614) rfl ?_
  refine Seg.aload at_614 rfl rfl (pc' := 616) rfl ?_
  refine Seg.iload at_616 rfl (pc' := 618) rfl ?_
  refine Seg.iload at_618 rfl (pc' := 620) rfl ?_
  refine Seg.callS (y' := (⟨"com/example/kredential/kredential/ResourceToStringPinLaw", "at", "(Ljava/lang/String;IC)Z"⟩ : MethodName)) (wd G 273 rfl) (wd G 274 rfl) (wd G 3 rfl) (wd G 275 rfl) ⟨by decide, by decide⟩ (Pays.of_ct (W := 0) (ct_at G z [82, 101, 115, 111, 117, 114, 99, 101, 91, t1, t2, 47, i1, i2, 44, 32, 111, 119, 110, 101, 114, 32, o1, o2, 93] 22 o1 h F hall (by decide : 22 < 25) rfl) all0 (wd G 275 rfl) (wd G 3 rfl) (by decide) (by decide) rfl rfl) (argsL := [(.ref z), (.int (22 : Int32)), (.int o1)]) (rest := []) rfl (lenOf pd_28 rfl) rfl (Nat.le_of_eq rfl) rfl at_620 (pc' := 623) rfl (k' := 50) (n' := 6000) rfl rfl (by decide) (by decide) ?_
  intro v_93 h_96 sz_94 q_95
  obtain ⟨rfl, rfl⟩ := q_95
  refine Seg.ifN at_623 (by decide) (pc' := 626) rfl ?_
  refine Seg.iconst (v := 1) at_626 (by decide) (pc' := 627) rfl ?_
  refine Seg.goto (pc' := 631) at_627 (by decide) (by decide) ?_
  refine Seg.istore (L' := #[.val (.int p1), .val (.int p2), .val (.int p3), .val (.int p4), .val (.int (2 : Int32)), .val (.int (2 : Int32)), .val (.int (2 : Int32)), .val (.int t1), .val (.int t2), .val (.int i1), .val (.int i2), .val (.int o1), .val (.int o2), .val (.ref s1), .val (.ref s2), .val (.ref s3), .val (.ref rx), .val (.ref z), .val (.int (1 : Int32)), .val (.int (22 : Int32))]) at_631 rfl (pc' := 633) rfl ?_
  refine Seg.iload at_633 rfl (pc' := 635) rfl ?_
  refine Seg.iconst (v := 2) at_635 (by decide) (pc' := 636) rfl ?_
  refine Seg.icN at_636 (by decide) (pc' := 639) rfl ?_
  refine Seg.iload at_639 rfl (pc' := 641) rfl ?_
  refine Seg.ifN at_641 (by decide) (pc' := 644) rfl ?_
  refine Seg.aload at_644 rfl rfl (pc' := 646) rfl ?_
  refine Seg.iload at_646 rfl (pc' := 648) rfl ?_
  refine Seg.iconst (v := 1) at_648 (by decide) (pc' := 649) rfl ?_
  refine Seg.iadd (v := (23 : Int32)) at_649 (by decide) (pc' := 650) rfl ?_
  refine Seg.iload at_650 rfl (pc' := 652) rfl ?_
  refine Seg.callS (y' := (⟨"com/example/kredential/kredential/ResourceToStringPinLaw", "at", "(Ljava/lang/String;IC)Z"⟩ : MethodName)) (wd G 273 rfl) (wd G 274 rfl) (wd G 3 rfl) (wd G 275 rfl) ⟨by decide, by decide⟩ (Pays.of_ct (W := 0) (ct_at G z [82, 101, 115, 111, 117, 114, 99, 101, 91, t1, t2, 47, i1, i2, 44, 32, 111, 119, 110, 101, 114, 32, o1, o2, 93] 23 o2 h F hall (by decide : 23 < 25) rfl) all0 (wd G 275 rfl) (wd G 3 rfl) (by decide) (by decide) rfl rfl) (argsL := [(.ref z), (.int (23 : Int32)), (.int o2)]) (rest := []) rfl (lenOf pd_28 rfl) rfl (Nat.le_of_eq rfl) rfl at_652 (pc' := 655) rfl (k' := 50) (n' := 6000) rfl rfl (by decide) (by decide) ?_
  intro v_97 h_100 sz_98 q_99
  obtain ⟨rfl, rfl⟩ := q_99
  refine Seg.ifN at_655 (by decide) (pc' := 658) rfl ?_
  refine Seg.iconst (v := 1) at_658 (by decide) (pc' := 659) rfl ?_
  refine Seg.goto (pc' := 663) at_659 (by decide) (by decide) ?_
  refine Seg.istore (L' := #[.val (.int p1), .val (.int p2), .val (.int p3), .val (.int p4), .val (.int (2 : Int32)), .val (.int (2 : Int32)), .val (.int (2 : Int32)), .val (.int t1), .val (.int t2), .val (.int i1), .val (.int i2), .val (.int o1), .val (.int o2), .val (.ref s1), .val (.ref s2), .val (.ref s3), .val (.ref rx), .val (.ref z), .val (.int (1 : Int32)), .val (.int (22 : Int32))]) at_663 rfl (pc' := 665) rfl ?_
  refine Seg.iload at_665 rfl (pc' := 667) rfl ?_
  refine Seg.iload at_667 rfl (pc' := 669) rfl ?_
  refine Seg.iadd (v := (24 : Int32)) at_669 (by decide) (pc' := 670) rfl ?_
  refine Seg.istore (L' := #[.val (.int p1), .val (.int p2), .val (.int p3), .val (.int p4), .val (.int (2 : Int32)), .val (.int (2 : Int32)), .val (.int (2 : Int32)), .val (.int t1), .val (.int t2), .val (.int i1), .val (.int i2), .val (.int o1), .val (.int o2), .val (.ref s1), .val (.ref s2), .val (.ref s3), .val (.ref rx), .val (.ref z), .val (.int (1 : Int32)), .val (.int (24 : Int32))]) at_670 rfl (pc' := 672) rfl ?_
  refine Seg.iload at_672 rfl (pc' := 674) rfl ?_
  refine Seg.ifN at_674 (by decide) (pc' := 677) rfl ?_
  refine Seg.aload at_677 rfl rfl (pc' := 679) rfl ?_
  refine Seg.iload at_679 rfl (pc' := 681) rfl ?_
  refine Seg.bipush (v := 93) at_681 (by decide) (pc' := 683) rfl ?_
  refine Seg.callS (y' := (⟨"com/example/kredential/kredential/ResourceToStringPinLaw", "at", "(Ljava/lang/String;IC)Z"⟩ : MethodName)) (wd G 273 rfl) (wd G 274 rfl) (wd G 3 rfl) (wd G 275 rfl) ⟨by decide, by decide⟩ (Pays.of_ct (W := 0) (ct_at G z [82, 101, 115, 111, 117, 114, 99, 101, 91, t1, t2, 47, i1, i2, 44, 32, 111, 119, 110, 101, 114, 32, o1, o2, 93] 24 (93 : Int32) h F hall (by decide : 24 < 25) rfl) all0 (wd G 275 rfl) (wd G 3 rfl) (by decide) (by decide) rfl rfl) (argsL := [(.ref z), (.int (24 : Int32)), (.int (93 : Int32))]) (rest := []) rfl (lenOf pd_28 rfl) rfl (Nat.le_of_eq rfl) rfl at_683 (pc' := 686) rfl (k' := 50) (n' := 6000) rfl rfl (by decide) (by decide) ?_
  intro v_101 h_104 sz_102 q_103
  obtain ⟨rfl, rfl⟩ := q_103
  refine Seg.ifN at_686 (by decide) (pc' := 689) rfl ?_
  refine Seg.iconst (v := 1) at_689 (by decide) (pc' := 690) rfl ?_
  refine Seg.goto (pc' := 694) at_690 (by decide) (by decide) ?_
  refine Seg.istore (L' := #[.val (.int p1), .val (.int p2), .val (.int p3), .val (.int p4), .val (.int (2 : Int32)), .val (.int (2 : Int32)), .val (.int (2 : Int32)), .val (.int t1), .val (.int t2), .val (.int i1), .val (.int i2), .val (.int o1), .val (.int o2), .val (.ref s1), .val (.ref s2), .val (.ref s3), .val (.ref rx), .val (.ref z), .val (.int (1 : Int32)), .val (.int (24 : Int32))]) at_694 rfl (pc' := 696) rfl ?_
  refine Seg.iload at_696 rfl (pc' := 698) rfl ?_
  exact Seg.retN (t := .boolean) (w := (1 : Int32)) rfl (by decide) (by decide) at_698 (by decide) (by decide) rfl
set_option maxRecDepth 65536 in
set_option maxHeartbeats 4000000 in
theorem sgm222 {l : Launch} {Z : State} {a0 : Array Value} (G : Env1 Z a0) (p1 : Int32) (p2 : Int32) (p3 : Int32) (p4 : Int32) (t1 : Int32) (t2 : Int32) (i1 : Int32) (i2 : Int32) (o1 : Int32) (o2 : Int32) (h : Heap) (kt1 : okT t1) (kt2 : okT t2) (ki1 : okI i1) (ki2 : okI i2) (ko1 : okI o1) (ko2 : okI o2) (hI : ¬ (i1 = 46 ∧ ((2 : Int32) = 1 ∨ i2 = 46))) (hO : ¬ (o1 = 46 ∧ ((2 : Int32) = 1 ∨ o2 = 46))) :
    Seg l Z a0 EL1 x code maxLocals ret room_1 (fun v h => v = some (.int 1)) h 0 0 [] 123 #[.val (.int p1), .val (.int p2), .val (.int p3), .val (.int p4), .val (.int (2 : Int32)), .val (.int (2 : Int32)), .val (.int (2 : Int32)), .val (.int t1), .val (.int t2), .val (.int i1), .val (.int i2), .val (.int o1), .val (.int o2), .unset, .unset, .unset, .unset, .unset, .unset, .unset] [] := by
  have rt1 := (okI_r (okT_I kt1)).1
  have rt2 := (okI_r (okT_I kt2)).1
  have ri1 := (okI_r ki1).1
  have ri2 := (okI_r ki2).1
  have ro1 := (okI_r ko1).1
  have ro2 := (okI_r ko2).1
  refine Seg.iload at_123 rfl (pc' := 125) rfl ?_
  refine Seg.iload at_125 rfl (pc' := 127) rfl ?_
  refine Seg.iload at_127 rfl (pc' := 129) rfl ?_
  refine Seg.callS (y' := (⟨"com/example/kredential/kredential/ResourceToStringPinLaw", "make", "(ICC)Ljava/lang/String;"⟩ : MethodName)) (wd G 8 rfl) (wd G 9 rfl) (wd G 3 rfl) (wd G 10 rfl) ⟨by decide, by decide⟩ (Pays.of_ct (W := 0) (ct_mk2 G t1 t2 h rt1 rt2) all0 (wd G 10 rfl) (wd G 3 rfl) (by decide) (by decide) rfl rfl) (argsL := [(.int (2 : Int32)), (.int t1), (.int t2)]) (rest := []) rfl (lenOf pd_29 rfl) rfl (Nat.le_of_eq rfl) rfl at_129 (pc' := 132) rfl (k' := 3) (n' := 8) rfl rfl (by decide) (by decide) ?_
  intro v_1 h_4 sz_2 q_3
  obtain ⟨s1, rfl, E1, T1⟩ := q_3
  refine Seg.astore (L' := #[.val (.int p1), .val (.int p2), .val (.int p3), .val (.int p4), .val (.int (2 : Int32)), .val (.int (2 : Int32)), .val (.int (2 : Int32)), .val (.int t1), .val (.int t2), .val (.int i1), .val (.int i2), .val (.int o1), .val (.int o2), .val (.ref s1), .unset, .unset, .unset, .unset, .unset, .unset]) at_132 rfl rfl (pc' := 134) rfl ?_
  refine Seg.iload at_134 rfl (pc' := 136) rfl ?_
  refine Seg.iload at_136 rfl (pc' := 138) rfl ?_
  refine Seg.iload at_138 rfl (pc' := 140) rfl ?_
  refine Seg.callS (y' := (⟨"com/example/kredential/kredential/ResourceToStringPinLaw", "make", "(ICC)Ljava/lang/String;"⟩ : MethodName)) (wd G 8 rfl) (wd G 9 rfl) (wd G 3 rfl) (wd G 10 rfl) ⟨by decide, by decide⟩ (Pays.of_ct (W := 0) (ct_mk2 G i1 i2 h_4 ri1 ri2) all0 (wd G 10 rfl) (wd G 3 rfl) (by decide) (by decide) rfl rfl) (argsL := [(.int (2 : Int32)), (.int i1), (.int i2)]) (rest := []) rfl (lenOf pd_29 rfl) rfl (Nat.le_of_eq rfl) rfl at_140 (pc' := 143) rfl (k' := 6) (n' := 16) rfl rfl (by decide) (by decide) ?_
  intro v_5 h_8 sz_6 q_7
  obtain ⟨s2, rfl, E2, T2⟩ := q_7
  refine Seg.astore (L' := #[.val (.int p1), .val (.int p2), .val (.int p3), .val (.int p4), .val (.int (2 : Int32)), .val (.int (2 : Int32)), .val (.int (2 : Int32)), .val (.int t1), .val (.int t2), .val (.int i1), .val (.int i2), .val (.int o1), .val (.int o2), .val (.ref s1), .val (.ref s2), .unset, .unset, .unset, .unset, .unset]) at_143 rfl rfl (pc' := 145) rfl ?_
  refine Seg.iload at_145 rfl (pc' := 147) rfl ?_
  refine Seg.iload at_147 rfl (pc' := 149) rfl ?_
  refine Seg.iload at_149 rfl (pc' := 151) rfl ?_
  refine Seg.callS (y' := (⟨"com/example/kredential/kredential/ResourceToStringPinLaw", "make", "(ICC)Ljava/lang/String;"⟩ : MethodName)) (wd G 8 rfl) (wd G 9 rfl) (wd G 3 rfl) (wd G 10 rfl) ⟨by decide, by decide⟩ (Pays.of_ct (W := 0) (ct_mk2 G o1 o2 h_8 ro1 ro2) all0 (wd G 10 rfl) (wd G 3 rfl) (by decide) (by decide) rfl rfl) (argsL := [(.int (2 : Int32)), (.int o1), (.int o2)]) (rest := []) rfl (lenOf pd_29 rfl) rfl (Nat.le_of_eq rfl) rfl at_151 (pc' := 154) rfl (k' := 9) (n' := 24) rfl rfl (by decide) (by decide) ?_
  intro v_9 h_12 sz_10 q_11
  obtain ⟨s3, rfl, E3, T3⟩ := q_11
  refine Seg.astore (L' := #[.val (.int p1), .val (.int p2), .val (.int p3), .val (.int p4), .val (.int (2 : Int32)), .val (.int (2 : Int32)), .val (.int (2 : Int32)), .val (.int t1), .val (.int t2), .val (.int i1), .val (.int i2), .val (.int o1), .val (.int o2), .val (.ref s1), .val (.ref s2), .val (.ref s3), .unset, .unset, .unset, .unset]) at_154 rfl rfl (pc' := 156) rfl ?_
  refine Seg.newO (wd G 55 rfl) (wd G 56 rfl) (wd G 57 rfl) at_156 (pc' := 159) rfl (k' := 10) (n' := 27) rfl rfl (by decide) (by decide) ?_
  intro b_13 h_15 E_14 e_b_13 l_b_13 A_b_13 D_b_13
  have F_type_b_13 : Fld Z h_15 b_13 "com/example/kredential/kredential/Resource" "type" "Ljava/lang/String;" Value.null := D_b_13 (Or.inr (wd G 140 rfl)) (ty := (.object "java/lang/String")) (by decide)
  have F_id_b_13 : Fld Z h_15 b_13 "com/example/kredential/kredential/Resource" "id" "Ljava/lang/String;" Value.null := D_b_13 (Or.inr (wd G 142 rfl)) (ty := (.object "java/lang/String")) (by decide)
  have F_owner_b_13 : Fld Z h_15 b_13 "com/example/kredential/kredential/Resource" "owner" "Ljava/lang/String;" Value.null := D_b_13 (Or.inr (wd G 144 rfl)) (ty := (.object "java/lang/String")) (by decide)
  refine Seg.dup at_159 rfl (pc' := 160) rfl ?_
  refine Seg.aload at_160 rfl rfl (pc' := 162) rfl ?_
  refine Seg.aload at_162 rfl rfl (pc' := 164) rfl ?_
  refine Seg.aload at_164 rfl rfl (pc' := 166) rfl ?_
  have E_16 : Ext h_4 h_12 := ext_tr E2 E3
  have E_17 : Ext h_4 h_15 := ext_tr E_16 E_14
  have F_18 := T1.ext E_17
  have E_19 : Ext h_8 h_15 := ext_tr E3 E_14
  have F_20 := T2.ext E_19
  have F_21 := T3.ext E_14
  refine Seg.callN (y' := (⟨"com/example/kredential/kredential/Resource", "<init>", "(Ljava/lang/String;Ljava/lang/String;Ljava/lang/String;)V"⟩ : MethodName)) (a := b_13) rfl (wd G 58 rfl) (wd G 59 rfl) (wd G 60 rfl) ⟨by decide, by decide⟩ (Pays.of_ct (W := 1) (ct_rinit G b_13 s1 s2 s3 [t1, t2] [i1, i2] [o1, o2] .null .null .null h_15 A_b_13 F_type_b_13 F_id_b_13 F_owner_b_13 F_18 F_20 F_21 ⟨(fun c hc => by simp only [List.mem_cons, List.not_mem_nil, or_false] at hc; rcases hc with rfl | rfl <;> assumption), (by decide : 0 < 2), (by decide : 2 ≤ 2)⟩ ⟨⟨(fun c hc => by simp only [List.mem_cons, List.not_mem_nil, or_false] at hc; rcases hc with rfl | rfl <;> assumption), (by decide : 0 < 2), (by decide : 2 ≤ 2)⟩, (fun q => nomatch (List.cons.inj q).2), (fun q => hI ⟨(List.cons.inj q).1, Or.inr (List.cons.inj (List.cons.inj q).2).1⟩)⟩ ⟨⟨(fun c hc => by simp only [List.mem_cons, List.not_mem_nil, or_false] at hc; rcases hc with rfl | rfl <;> assumption), (by decide : 0 < 2), (by decide : 2 ≤ 2)⟩, (fun q => nomatch (List.cons.inj q).2), (fun q => hO ⟨(List.cons.inj q).1, Or.inr (List.cons.inj (List.cons.inj q).2).1⟩)⟩) (allS (List.mem_of_getElem? (i := 0) rfl) all0) (wd G 60 rfl) (wd G 57 rfl) (by decide) (by decide) rfl rfl) (argsL := [(.ref s1), (.ref s2), (.ref s3)]) (rest := [(.ref b_13)]) rfl (lenOf pd_30 rfl) rfl (Nat.le_of_eq rfl) rfl at_166 (pc' := 169) rfl (k' := 22) (n' := 87) rfl rfl (by decide) (by decide) ?_
  intro v_22 h_25 sz_23 q_24
  obtain ⟨rfl, K1, G0, G1, G2⟩ := q_24
  refine Seg.astore (L' := #[.val (.int p1), .val (.int p2), .val (.int p3), .val (.int p4), .val (.int (2 : Int32)), .val (.int (2 : Int32)), .val (.int (2 : Int32)), .val (.int t1), .val (.int t2), .val (.int i1), .val (.int i2), .val (.int o1), .val (.int o2), .val (.ref s1), .val (.ref s2), .val (.ref s3), .val (.ref b_13), .unset, .unset, .unset]) at_169 rfl rfl (pc' := 171) rfl ?_
  refine Seg.aload at_171 rfl rfl (pc' := 173) rfl ?_
  have F_26 := (A_b_13.keep K1)
  have E_27 : Ext h_4 h_25 := ext_kp E_17 K1 (allS (Nat.le_trans E_16.1 (Nat.le_of_eq e_b_13)) all0)
  have F_28 := T1.ext E_27
  have E_29 : Ext h_8 h_25 := ext_kp E_19 K1 (allS (Nat.le_trans E3.1 (Nat.le_of_eq e_b_13)) all0)
  have F_30 := T2.ext E_29
  have E_31 : Ext h_12 h_25 := ext_kp E_14 K1 (allS (Nat.le_trans (ext_rfl _).1 (Nat.le_of_eq e_b_13)) all0)
  have F_32 := T3.ext E_31
  refine Seg.callV (y' := (⟨"com/example/kredential/kredential/Resource", "toString", "()Ljava/lang/String;"⟩ : MethodName)) (z := (⟨"com/example/kredential/kredential/Resource", "toString", "()Ljava/lang/String;"⟩ : MethodName)) (a := b_13) (wd G 145 rfl) (wd G 146 rfl) (nf_sel (wd G 148 rfl)) (wd G 148 rfl) (wd G 147 rfl) ⟨by decide, by decide⟩ F_26 (Pays.of_ct (W := 0) (ct_rts G b_13 s1 s2 s3 [t1, t2] [i1, i2] [o1, o2] h_25 F_26 G0 G1 G2 F_28 F_30 F_32 (fun c hc => by simp only [List.mem_cons, List.not_mem_nil, or_false] at hc; rcases hc with rfl | rfl <;> assumption) (fun c hc => by simp only [List.mem_cons, List.not_mem_nil, or_false] at hc; rcases hc with rfl | rfl <;> assumption) (fun c hc => by simp only [List.mem_cons, List.not_mem_nil, or_false] at hc; rcases hc with rfl | rfl <;> assumption) (by decide : 2 ≤ 2) (by decide : 2 ≤ 2) (by decide : 2 ≤ 2)) all0 (wd G 149 rfl) (wd G 57 rfl) (by decide) (by decide) rfl rfl) (argsL := []) (rest := []) rfl (lenOf pd_22 rfl) rfl (Nat.le_of_eq rfl) rfl at_173 (pc' := 176) rfl (k' := 35) (n' := 337) rfl rfl (by decide) (by decide) ?_
  intro v_33 h_36 sz_34 q_35
  obtain ⟨z, rfl, E9, F9⟩ := q_35
  exact (sgt222 G p1 p2 p3 p4 t1 t2 i1 i2 o1 o2 s1 s2 s3 b_13 z h_36 F9 rt1 rt2 ri1 ri2 ro1 ro2).mono (by decide) (by decide) all0
set_option maxRecDepth 65536 in
set_option maxHeartbeats 4000000 in
theorem sg123 {l : Launch} {Z : State} {a0 : Array Value} (G : Env1 Z a0) (p1 : Int32) (p2 : Int32) (p3 : Int32) (p4 : Int32) (tl : Int32) (il : Int32) (ol : Int32) (t1 : Int32) (t2 : Int32) (i1 : Int32) (i2 : Int32) (o1 : Int32) (o2 : Int32) (h : Heap) (htl : tl = 1 ∨ tl = 2) (hil : il = 1 ∨ il = 2) (hol : ol = 1 ∨ ol = 2) (kt1 : okT t1) (kt2 : okT t2) (ki1 : okI i1) (ki2 : okI i2) (ko1 : okI o1) (ko2 : okI o2) (hI : ¬ (i1 = 46 ∧ (il = 1 ∨ i2 = 46))) (hO : ¬ (o1 = 46 ∧ (ol = 1 ∨ o2 = 46))) :
    Seg l Z a0 EL1 x code maxLocals ret room_1 (fun v h => v = some (.int 1)) h 0 0 [] 123 #[.val (.int p1), .val (.int p2), .val (.int p3), .val (.int p4), .val (.int tl), .val (.int il), .val (.int ol), .val (.int t1), .val (.int t2), .val (.int i1), .val (.int i2), .val (.int o1), .val (.int o2), .unset, .unset, .unset, .unset, .unset, .unset, .unset] [] := by
  rcases htl with rfl | rfl <;> rcases hil with rfl | rfl <;> rcases hol with rfl | rfl
  · exact sgm111 G p1 p2 p3 p4 t1 t2 i1 i2 o1 o2 h kt1 kt2 ki1 ki2 ko1 ko2 hI hO
  · exact sgm112 G p1 p2 p3 p4 t1 t2 i1 i2 o1 o2 h kt1 kt2 ki1 ki2 ko1 ko2 hI hO
  · exact sgm121 G p1 p2 p3 p4 t1 t2 i1 i2 o1 o2 h kt1 kt2 ki1 ki2 ko1 ko2 hI hO
  · exact sgm122 G p1 p2 p3 p4 t1 t2 i1 i2 o1 o2 h kt1 kt2 ki1 ki2 ko1 ko2 hI hO
  · exact sgm211 G p1 p2 p3 p4 t1 t2 i1 i2 o1 o2 h kt1 kt2 ki1 ki2 ko1 ko2 hI hO
  · exact sgm212 G p1 p2 p3 p4 t1 t2 i1 i2 o1 o2 h kt1 kt2 ki1 ki2 ko1 ko2 hI hO
  · exact sgm221 G p1 p2 p3 p4 t1 t2 i1 i2 o1 o2 h kt1 kt2 ki1 ki2 ko1 ko2 hI hO
  · exact sgm222 G p1 p2 p3 p4 t1 t2 i1 i2 o1 o2 h kt1 kt2 ki1 ki2 ko1 ko2 hI hO
set_option maxRecDepth 65536 in
set_option maxHeartbeats 4000000 in
theorem sg101 {l : Launch} {Z : State} {a0 : Array Value} (G : Env1 Z a0) (p1 : Int32) (p2 : Int32) (p3 : Int32) (p4 : Int32) (tl : Int32) (il : Int32) (ol : Int32) (t1 : Int32) (t2 : Int32) (i1 : Int32) (i2 : Int32) (o1 : Int32) (o2 : Int32) (h : Heap) (htl : tl = 1 ∨ tl = 2) (hil : il = 1 ∨ il = 2) (hol : ol = 1 ∨ ol = 2) (kt1 : okT t1) (kt2 : okT t2) (ki1 : okI i1) (ki2 : okI i2) (ko1 : okI o1) (ko2 : okI o2) (hI : ¬ (i1 = 46 ∧ (il = 1 ∨ i2 = 46))) :
    Seg l Z a0 EL1 x code maxLocals ret room_1 (fun v h => v = some (.int 1)) h 0 0 [] 101 #[.val (.int p1), .val (.int p2), .val (.int p3), .val (.int p4), .val (.int tl), .val (.int il), .val (.int ol), .val (.int t1), .val (.int t2), .val (.int i1), .val (.int i2), .val (.int o1), .val (.int o2), .unset, .unset, .unset, .unset, .unset, .unset, .unset] [] := by
  refine Seg.iload at_101 rfl (pc' := 103) rfl ?_
  refine Seg.bipush (v := 46) at_103 (by decide) (pc' := 105) rfl ?_
  by_cases d1 : o1 = 46
  · refine Seg.icN at_105 (XT.ii_ne_f d1) (pc' := 108) rfl ?_
    refine Seg.iload at_108 rfl (pc' := 110) rfl ?_
    refine Seg.iconst (v := 1) at_110 (by decide) (pc' := 111) rfl ?_
    by_cases d2 : ol = 1
    · refine Seg.icY (pc' := 121) at_111 (XT.ii_eq_t d2) (by decide) (by decide) ?_
      refine Seg.iconst (v := 1) at_121 (by decide) (pc' := 122) rfl ?_
      exact Seg.retN (t := .boolean) (w := (1 : Int32)) rfl (by decide) (by decide) at_122 (by decide) (by decide) rfl
    · refine Seg.icN at_111 (XT.ii_eq_f d2) (pc' := 114) rfl ?_
      refine Seg.iload at_114 rfl (pc' := 116) rfl ?_
      refine Seg.bipush (v := 46) at_116 (by decide) (pc' := 118) rfl ?_
      by_cases d3 : o2 = 46
      · refine Seg.icN at_118 (XT.ii_ne_f d3) (pc' := 121) rfl ?_
        refine Seg.iconst (v := 1) at_121 (by decide) (pc' := 122) rfl ?_
        exact Seg.retN (t := .boolean) (w := (1 : Int32)) rfl (by decide) (by decide) at_122 (by decide) (by decide) rfl
      · refine Seg.icY (pc' := 123) at_118 (XT.ii_ne_t d3) (by decide) (by decide) ?_
        exact sg123 G p1 p2 p3 p4 tl il ol t1 t2 i1 i2 o1 o2 h htl hil hol kt1 kt2 ki1 ki2 ko1 ko2 hI (fun q => q.2.elim d2 d3)
  · refine Seg.icY (pc' := 123) at_105 (XT.ii_ne_t d1) (by decide) (by decide) ?_
    exact sg123 G p1 p2 p3 p4 tl il ol t1 t2 i1 i2 o1 o2 h htl hil hol kt1 kt2 ki1 ki2 ko1 ko2 hI (fun q => d1 q.1)
set_option maxRecDepth 65536 in
set_option maxHeartbeats 4000000 in
theorem sg79 {l : Launch} {Z : State} {a0 : Array Value} (G : Env1 Z a0) (p1 : Int32) (p2 : Int32) (p3 : Int32) (p4 : Int32) (tl : Int32) (il : Int32) (ol : Int32) (t1 : Int32) (t2 : Int32) (i1 : Int32) (i2 : Int32) (o1 : Int32) (o2 : Int32) (h : Heap) (htl : tl = 1 ∨ tl = 2) (hil : il = 1 ∨ il = 2) (hol : ol = 1 ∨ ol = 2) (kt1 : okT t1) (kt2 : okT t2) (ki1 : okI i1) (ki2 : okI i2) (ko1 : okI o1) (ko2 : okI o2) :
    Seg l Z a0 EL1 x code maxLocals ret room_1 (fun v h => v = some (.int 1)) h 0 0 [] 79 #[.val (.int p1), .val (.int p2), .val (.int p3), .val (.int p4), .val (.int tl), .val (.int il), .val (.int ol), .val (.int t1), .val (.int t2), .val (.int i1), .val (.int i2), .val (.int o1), .val (.int o2), .unset, .unset, .unset, .unset, .unset, .unset, .unset] [] := by
  refine Seg.iload at_79 rfl (pc' := 81) rfl ?_
  refine Seg.bipush (v := 46) at_81 (by decide) (pc' := 83) rfl ?_
  by_cases d1 : i1 = 46
  · refine Seg.icN at_83 (XT.ii_ne_f d1) (pc' := 86) rfl ?_
    refine Seg.iload at_86 rfl (pc' := 88) rfl ?_
    refine Seg.iconst (v := 1) at_88 (by decide) (pc' := 89) rfl ?_
    by_cases d2 : il = 1
    · refine Seg.icY (pc' := 99) at_89 (XT.ii_eq_t d2) (by decide) (by decide) ?_
      refine Seg.iconst (v := 1) at_99 (by decide) (pc' := 100) rfl ?_
      exact Seg.retN (t := .boolean) (w := (1 : Int32)) rfl (by decide) (by decide) at_100 (by decide) (by decide) rfl
    · refine Seg.icN at_89 (XT.ii_eq_f d2) (pc' := 92) rfl ?_
      refine Seg.iload at_92 rfl (pc' := 94) rfl ?_
      refine Seg.bipush (v := 46) at_94 (by decide) (pc' := 96) rfl ?_
      by_cases d3 : i2 = 46
      · refine Seg.icN at_96 (XT.ii_ne_f d3) (pc' := 99) rfl ?_
        refine Seg.iconst (v := 1) at_99 (by decide) (pc' := 100) rfl ?_
        exact Seg.retN (t := .boolean) (w := (1 : Int32)) rfl (by decide) (by decide) at_100 (by decide) (by decide) rfl
      · refine Seg.icY (pc' := 101) at_96 (XT.ii_ne_t d3) (by decide) (by decide) ?_
        exact sg101 G p1 p2 p3 p4 tl il ol t1 t2 i1 i2 o1 o2 h htl hil hol kt1 kt2 ki1 ki2 ko1 ko2 (fun q => q.2.elim d2 d3)
  · refine Seg.icY (pc' := 101) at_83 (XT.ii_ne_t d1) (by decide) (by decide) ?_
    exact sg101 G p1 p2 p3 p4 tl il ol t1 t2 i1 i2 o1 o2 h htl hil hol kt1 kt2 ki1 ki2 ko1 ko2 (fun q => d1 q.1)
set_option maxRecDepth 65536 in
set_option maxHeartbeats 4000000 in
theorem sg25 {l : Launch} {Z : State} {a0 : Array Value} (G : Env1 Z a0) (p1 : Int32) (p2 : Int32) (p3 : Int32) (p4 : Int32) (tl : Int32) (il : Int32) (ol : Int32) (h : Heap) (htl : tl = 1 ∨ tl = 2) (hil : il = 1 ∨ il = 2) (hol : ol = 1 ∨ ol = 2) :
    Seg l Z a0 EL1 x code maxLocals ret room_1 (fun v h => v = some (.int 1)) h 0 0 [] 25 #[.val (.int p1), .val (.int p2), .val (.int p3), .val (.int p4), .val (.int tl), .val (.int il), .val (.int ol), .unset, .unset, .unset, .unset, .unset, .unset, .unset, .unset, .unset, .unset, .unset, .unset, .unset] [] := by
  refine Seg.iloadN at_25 rfl (pc' := 26) rfl ?_
  refine Seg.ldcI (wd G 0 rfl) at_26 (pc' := 28) rfl ?_
  refine Seg.iand (v := (p1 &&& (65535 : Int32))) at_28 rfl (pc' := 29) rfl ?_
  refine Seg.callS (y' := (⟨"com/example/kredential/kredential/ResourceToStringPinLaw", "typeChar", "(I)C"⟩ : MethodName)) (wd G 1 rfl) (wd G 2 rfl) (wd G 3 rfl) (wd G 4 rfl) ⟨by decide, by decide⟩ (Pays.of_ct (W := 0) (ct_tc G (p1 &&& (65535 : Int32)) h (and_nn p1)) all0 (wd G 4 rfl) (wd G 3 rfl) (by decide) (by decide) rfl rfl) (argsL := [(.int (p1 &&& (65535 : Int32)))]) (rest := []) rfl (lenOf pd_1 rfl) rfl (Nat.le_of_eq rfl) rfl at_29 (pc' := 32) rfl (k' := 0) (n' := 0) rfl rfl (by decide) (by decide) ?_
  intro v_1 h_4 sz_2 q_3
  obtain ⟨t1, rfl, rfl, kt1⟩ := q_3
  refine Seg.istore (L' := #[.val (.int p1), .val (.int p2), .val (.int p3), .val (.int p4), .val (.int tl), .val (.int il), .val (.int ol), .val (.int t1), .unset, .unset, .unset, .unset, .unset, .unset, .unset, .unset, .unset, .unset, .unset, .unset]) at_32 rfl (pc' := 34) rfl ?_
  refine Seg.iloadN at_34 rfl (pc' := 35) rfl ?_
  refine Seg.bipush (v := 16) at_35 (by decide) (pc' := 37) rfl ?_
  refine Seg.iushr (v := ((p1).toUInt32 >>> ((16 : Int32) &&& 31).toUInt32).toInt32) at_37 rfl (pc' := 38) rfl ?_
  refine Seg.callS (y' := (⟨"com/example/kredential/kredential/ResourceToStringPinLaw", "typeChar", "(I)C"⟩ : MethodName)) (wd G 1 rfl) (wd G 2 rfl) (wd G 3 rfl) (wd G 4 rfl) ⟨by decide, by decide⟩ (Pays.of_ct (W := 0) (ct_tc G ((p1).toUInt32 >>> ((16 : Int32) &&& 31).toUInt32).toInt32 h (ush_nn p1)) all0 (wd G 4 rfl) (wd G 3 rfl) (by decide) (by decide) rfl rfl) (argsL := [(.int ((p1).toUInt32 >>> ((16 : Int32) &&& 31).toUInt32).toInt32)]) (rest := []) rfl (lenOf pd_1 rfl) rfl (Nat.le_of_eq rfl) rfl at_38 (pc' := 41) rfl (k' := 0) (n' := 0) rfl rfl (by decide) (by decide) ?_
  intro v_5 h_8 sz_6 q_7
  obtain ⟨t2, rfl, rfl, kt2⟩ := q_7
  refine Seg.istore (L' := #[.val (.int p1), .val (.int p2), .val (.int p3), .val (.int p4), .val (.int tl), .val (.int il), .val (.int ol), .val (.int t1), .val (.int t2), .unset, .unset, .unset, .unset, .unset, .unset, .unset, .unset, .unset, .unset, .unset]) at_41 rfl (pc' := 43) rfl ?_
  refine Seg.iloadN at_43 rfl (pc' := 44) rfl ?_
  refine Seg.ldcI (wd G 0 rfl) at_44 (pc' := 46) rfl ?_
  refine Seg.iand (v := (p2 &&& (65535 : Int32))) at_46 rfl (pc' := 47) rfl ?_
  refine Seg.callS (y' := (⟨"com/example/kredential/kredential/ResourceToStringPinLaw", "idChar", "(I)C"⟩ : MethodName)) (wd G 5 rfl) (wd G 6 rfl) (wd G 3 rfl) (wd G 7 rfl) ⟨by decide, by decide⟩ (Pays.of_ct (W := 0) (ct_idc G (p2 &&& (65535 : Int32)) h (and_nn p2)) all0 (wd G 7 rfl) (wd G 3 rfl) (by decide) (by decide) rfl rfl) (argsL := [(.int (p2 &&& (65535 : Int32)))]) (rest := []) rfl (lenOf pd_1 rfl) rfl (Nat.le_of_eq rfl) rfl at_47 (pc' := 50) rfl (k' := 0) (n' := 0) rfl rfl (by decide) (by decide) ?_
  intro v_9 h_12 sz_10 q_11
  obtain ⟨i1, rfl, rfl, ki1⟩ := q_11
  refine Seg.istore (L' := #[.val (.int p1), .val (.int p2), .val (.int p3), .val (.int p4), .val (.int tl), .val (.int il), .val (.int ol), .val (.int t1), .val (.int t2), .val (.int i1), .unset, .unset, .unset, .unset, .unset, .unset, .unset, .unset, .unset, .unset]) at_50 rfl (pc' := 52) rfl ?_
  refine Seg.iloadN at_52 rfl (pc' := 53) rfl ?_
  refine Seg.bipush (v := 16) at_53 (by decide) (pc' := 55) rfl ?_
  refine Seg.iushr (v := ((p2).toUInt32 >>> ((16 : Int32) &&& 31).toUInt32).toInt32) at_55 rfl (pc' := 56) rfl ?_
  refine Seg.callS (y' := (⟨"com/example/kredential/kredential/ResourceToStringPinLaw", "idChar", "(I)C"⟩ : MethodName)) (wd G 5 rfl) (wd G 6 rfl) (wd G 3 rfl) (wd G 7 rfl) ⟨by decide, by decide⟩ (Pays.of_ct (W := 0) (ct_idc G ((p2).toUInt32 >>> ((16 : Int32) &&& 31).toUInt32).toInt32 h (ush_nn p2)) all0 (wd G 7 rfl) (wd G 3 rfl) (by decide) (by decide) rfl rfl) (argsL := [(.int ((p2).toUInt32 >>> ((16 : Int32) &&& 31).toUInt32).toInt32)]) (rest := []) rfl (lenOf pd_1 rfl) rfl (Nat.le_of_eq rfl) rfl at_56 (pc' := 59) rfl (k' := 0) (n' := 0) rfl rfl (by decide) (by decide) ?_
  intro v_13 h_16 sz_14 q_15
  obtain ⟨i2, rfl, rfl, ki2⟩ := q_15
  refine Seg.istore (L' := #[.val (.int p1), .val (.int p2), .val (.int p3), .val (.int p4), .val (.int tl), .val (.int il), .val (.int ol), .val (.int t1), .val (.int t2), .val (.int i1), .val (.int i2), .unset, .unset, .unset, .unset, .unset, .unset, .unset, .unset, .unset]) at_59 rfl (pc' := 61) rfl ?_
  refine Seg.iloadN at_61 rfl (pc' := 62) rfl ?_
  refine Seg.ldcI (wd G 0 rfl) at_62 (pc' := 64) rfl ?_
  refine Seg.iand (v := (p3 &&& (65535 : Int32))) at_64 rfl (pc' := 65) rfl ?_
  refine Seg.callS (y' := (⟨"com/example/kredential/kredential/ResourceToStringPinLaw", "idChar", "(I)C"⟩ : MethodName)) (wd G 5 rfl) (wd G 6 rfl) (wd G 3 rfl) (wd G 7 rfl) ⟨by decide, by decide⟩ (Pays.of_ct (W := 0) (ct_idc G (p3 &&& (65535 : Int32)) h (and_nn p3)) all0 (wd G 7 rfl) (wd G 3 rfl) (by decide) (by decide) rfl rfl) (argsL := [(.int (p3 &&& (65535 : Int32)))]) (rest := []) rfl (lenOf pd_1 rfl) rfl (Nat.le_of_eq rfl) rfl at_65 (pc' := 68) rfl (k' := 0) (n' := 0) rfl rfl (by decide) (by decide) ?_
  intro v_17 h_20 sz_18 q_19
  obtain ⟨o1, rfl, rfl, ko1⟩ := q_19
  refine Seg.istore (L' := #[.val (.int p1), .val (.int p2), .val (.int p3), .val (.int p4), .val (.int tl), .val (.int il), .val (.int ol), .val (.int t1), .val (.int t2), .val (.int i1), .val (.int i2), .val (.int o1), .unset, .unset, .unset, .unset, .unset, .unset, .unset, .unset]) at_68 rfl (pc' := 70) rfl ?_
  refine Seg.iloadN at_70 rfl (pc' := 71) rfl ?_
  refine Seg.bipush (v := 16) at_71 (by decide) (pc' := 73) rfl ?_
  refine Seg.iushr (v := ((p3).toUInt32 >>> ((16 : Int32) &&& 31).toUInt32).toInt32) at_73 rfl (pc' := 74) rfl ?_
  refine Seg.callS (y' := (⟨"com/example/kredential/kredential/ResourceToStringPinLaw", "idChar", "(I)C"⟩ : MethodName)) (wd G 5 rfl) (wd G 6 rfl) (wd G 3 rfl) (wd G 7 rfl) ⟨by decide, by decide⟩ (Pays.of_ct (W := 0) (ct_idc G ((p3).toUInt32 >>> ((16 : Int32) &&& 31).toUInt32).toInt32 h (ush_nn p3)) all0 (wd G 7 rfl) (wd G 3 rfl) (by decide) (by decide) rfl rfl) (argsL := [(.int ((p3).toUInt32 >>> ((16 : Int32) &&& 31).toUInt32).toInt32)]) (rest := []) rfl (lenOf pd_1 rfl) rfl (Nat.le_of_eq rfl) rfl at_74 (pc' := 77) rfl (k' := 0) (n' := 0) rfl rfl (by decide) (by decide) ?_
  intro v_21 h_24 sz_22 q_23
  obtain ⟨o2, rfl, rfl, ko2⟩ := q_23
  refine Seg.istore (L' := #[.val (.int p1), .val (.int p2), .val (.int p3), .val (.int p4), .val (.int tl), .val (.int il), .val (.int ol), .val (.int t1), .val (.int t2), .val (.int i1), .val (.int i2), .val (.int o1), .val (.int o2), .unset, .unset, .unset, .unset, .unset, .unset, .unset]) at_77 rfl (pc' := 79) rfl ?_
  exact sg79 G p1 p2 p3 p4 tl il ol t1 t2 i1 i2 o1 o2 h htl hil hol kt1 kt2 ki1 ki2 ko1 ko2
set_option maxRecDepth 65536 in
set_option maxHeartbeats 4000000 in
theorem sg0 {l : Launch} {Z : State} {a0 : Array Value} (G : Env1 Z a0) (p1 : Int32) (p2 : Int32) (p3 : Int32) (p4 : Int32) (h0 : Heap) :
    Seg l Z a0 EL1 x code maxLocals ret room_1 (fun v h => v = some (.int 1)) h0 0 0 [] 0 #[.val (.int p1), .val (.int p2), .val (.int p3), .val (.int p4), .unset, .unset, .unset, .unset, .unset, .unset, .unset, .unset, .unset, .unset, .unset, .unset, .unset, .unset, .unset, .unset] [] := by
  refine Seg.iconst (v := 1) at_0 (by decide) (pc' := 1) rfl ?_
  refine Seg.iloadN at_1 rfl (pc' := 2) rfl ?_
  refine Seg.iconst (v := 1) at_2 (by decide) (pc' := 3) rfl ?_
  refine Seg.iand (v := (p4 &&& (1 : Int32))) at_3 rfl (pc' := 4) rfl ?_
  obtain ⟨tl, etl, htl⟩ : ∃ z : Int32, (1 : Int32) + (p4 &&& (1 : Int32)) = z ∧ (z = 1 ∨ z = 2) := ⟨_, rfl, by rcases and1 _ with q | q <;> rw [q] <;> decide⟩
  refine Seg.iadd (v := tl) at_4 etl (pc' := 5) rfl ?_
  refine Seg.istore (L' := #[.val (.int p1), .val (.int p2), .val (.int p3), .val (.int p4), .val (.int tl), .unset, .unset, .unset, .unset, .unset, .unset, .unset, .unset, .unset, .unset, .unset, .unset, .unset, .unset, .unset]) at_5 rfl (pc' := 7) rfl ?_
  refine Seg.iconst (v := 1) at_7 (by decide) (pc' := 8) rfl ?_
  refine Seg.iloadN at_8 rfl (pc' := 9) rfl ?_
  refine Seg.iconst (v := 1) at_9 (by decide) (pc' := 10) rfl ?_
  refine Seg.ishr (v := (p4 >>> ((1 : Int32) &&& 31))) at_10 rfl (pc' := 11) rfl ?_
  refine Seg.iconst (v := 1) at_11 (by decide) (pc' := 12) rfl ?_
  refine Seg.iand (v := ((p4 >>> ((1 : Int32) &&& 31)) &&& (1 : Int32))) at_12 rfl (pc' := 13) rfl ?_
  obtain ⟨il, eil, hil⟩ : ∃ z : Int32, (1 : Int32) + ((p4 >>> ((1 : Int32) &&& 31)) &&& (1 : Int32)) = z ∧ (z = 1 ∨ z = 2) := ⟨_, rfl, by rcases and1 _ with q | q <;> rw [q] <;> decide⟩
  refine Seg.iadd (v := il) at_13 eil (pc' := 14) rfl ?_
  refine Seg.istore (L' := #[.val (.int p1), .val (.int p2), .val (.int p3), .val (.int p4), .val (.int tl), .val (.int il), .unset, .unset, .unset, .unset, .unset, .unset, .unset, .unset, .unset, .unset, .unset, .unset, .unset, .unset]) at_14 rfl (pc' := 16) rfl ?_
  refine Seg.iconst (v := 1) at_16 (by decide) (pc' := 17) rfl ?_
  refine Seg.iloadN at_17 rfl (pc' := 18) rfl ?_
  refine Seg.iconst (v := 2) at_18 (by decide) (pc' := 19) rfl ?_
  refine Seg.ishr (v := (p4 >>> ((2 : Int32) &&& 31))) at_19 rfl (pc' := 20) rfl ?_
  refine Seg.iconst (v := 1) at_20 (by decide) (pc' := 21) rfl ?_
  refine Seg.iand (v := ((p4 >>> ((2 : Int32) &&& 31)) &&& (1 : Int32))) at_21 rfl (pc' := 22) rfl ?_
  obtain ⟨ol, eol, hol⟩ : ∃ z : Int32, (1 : Int32) + ((p4 >>> ((2 : Int32) &&& 31)) &&& (1 : Int32)) = z ∧ (z = 1 ∨ z = 2) := ⟨_, rfl, by rcases and1 _ with q | q <;> rw [q] <;> decide⟩
  refine Seg.iadd (v := ol) at_22 eol (pc' := 23) rfl ?_
  refine Seg.istore (L' := #[.val (.int p1), .val (.int p2), .val (.int p3), .val (.int p4), .val (.int tl), .val (.int il), .val (.int ol), .unset, .unset, .unset, .unset, .unset, .unset, .unset, .unset, .unset, .unset, .unset, .unset, .unset]) at_23 rfl (pc' := 25) rfl ?_
  exact sg25 G p1 p2 p3 p4 tl il ol h0 htl hil hol
theorem eqint {args : Array Value} {first s : State} {o : Option Outcome} {idx : List Nat} {t : Term} {n : Int32} (h : (Jvm.Cond.eq t (.int n)).value args first o s idx = some true) : t.eval args first o idx s = some (.int n) := by
  obtain ⟨x, y, h1, h2, h3, -⟩ := cmp_v (Or.inl h)
  cases h2
  cases x <;> simp [Cond.value, h1, Term.eval] at h ⊢
  · exact h
theorem atL {cl : Cell} {i : Nat} {v : Value} (h : cl.slots[i]? = some v) (d : Value) : cl.slots.toList.getD i d = v := by
  rw [List.getD_eq_getElem?_getD, Array.getElem?_toList, h]; rfl
theorem ef_law (i1 : Int32) (i2 : Int32) (i3 : Int32) (i4 : Int32) (m : MethodId) : entryFrame m #[(.int i1), (.int i2), (.int i3), (.int i4)] maxLocals = mkF m 0 #[.val (.int i1), .val (.int i2), .val (.int i3), .val (.int i4), .unset, .unset, .unset, .unset, .unset, .unset, .unset, .unset, .unset, .unset, .unset, .unset, .unset, .unset, .unset, .unset] [] := by first | (simp [entryFrame, mkF, argsToLocals, Value.category, maxLocals]; done) | rfl
set_option maxRecDepth 65536 in
set_option maxHeartbeats 40000000 in
theorem comes_1 {Post : Tables → Env → Array Value → State → Outcome → State → Prop} (hpost : ∀ tb e args s v u, (limb_1_1.after args s (.returned v) u = true ∧ limb_1_2.after args s (.returned v) u = true ∧ True) → Jvm.Pilot.@@N@@.Jvm.D.FramedW s (.returned v) u (Jvm.fieldLocs frame_1_writes args s ++ Jvm.arrayLocs frame_1_arrays args s ++ Jvm.staticLocs frame_1_statics s) 56 6464 → Post tb e args s (.returned v) u) :
    Jvm.Pilot.@@N@@.Jvm.D.ArmFor flags0 classFile x code maxLocals ret World_1 tables_1 room_1 Calls_1 rest_1 Pre_1 Post := by
  intro l hfl _ _ p e ha hc hk s m args below hf hA hF happ hP
  obtain ⟨hcalls, hrest, hpre⟩ := hP
  obtain ⟨-, -, -, hnamed, -, -, -, hat⟩ := (Spec.applies_iff hf).mp happ
  obtain ⟨hg, hn⟩ := and_e (Cond.before_iff.mp (show (Jvm.Cond.and given_1 narrow_1).before args s = true from hpre))
  obtain ⟨hc0, g1⟩ := and_e hg
  obtain ⟨a1, g2⟩ := and_e g1
  obtain ⟨a2, g3⟩ := and_e g2
  obtain ⟨a3, g4⟩ := and_e g3
  obtain ⟨w0, w1, w2, w3, rfl⟩ : ∃ w0 w1 w2 w3 : Value, args = #[w0, w1, w2, w3] := by
    have hs : args.size = 4 := by simpa [Cond.value, given_1] using hc0
    obtain ⟨L⟩ := args
    match L, hs with
    | [w0, w1, w2, w3], _ => exact ⟨w0, w1, w2, w3, rfl⟩
  have hw := fun d (hd : d ∈ tables_1) => atoms_spec (ws := Jvm.Cond.code x code maxLocals ret :: tables_1) hat d (List.mem_cons_of_mem _ hd)
  obtain ⟨hsets, hown0⟩ := atoms_of _ (rest_1_c_eq ▸ (show rest_1_c.before _ s = true from hrest))
  have hfit : Fit s := fun {y c} hc i hi => by
    obtain ⟨ha, rfl⟩ := Array.getElem?_eq_some_iff.mp hc
    have q := List.all_eq_true.mp ((Array.all_eq_true_iff_forall_mem.mp hF) _ (Array.getElem_mem ha)) i (List.mem_range.mpr hi)
    simpa [Array.getElem?_eq_getElem hi] using q
  obtain ⟨i1, u0⟩ := is_v a1
  obtain rfl : w0 = (.int i1) := Option.some.inj u0
  obtain ⟨i2, u1⟩ := is_v a2
  obtain rfl : w1 = (.int i2) := Option.some.inj u1
  obtain ⟨i3, u2⟩ := is_v a3
  obtain rfl : w2 = (.int i3) := Option.some.inj u2
  obtain ⟨i4, u3⟩ := is_v g4
  obtain rfl : w3 = (.int i4) := Option.some.inj u3
  obtain ⟨zc, ec⟩ := is_v (Cond.before_iff.mp (hsets _ (List.mem_of_getElem? (i := 1) rfl)))
  have Sc : Sta s s.heap "java/lang/String" "COMPACT_STRINGS" "Z" (.int zc) := Sta.start ec (Or.inl (hsets _ (List.mem_of_getElem? (i := 0) rfl)))
  have hcw := hsets _ (List.mem_of_getElem? (i := 2) rfl)
  have hzc : ¬ (zc = (0 : Int32)) := gotF (Cond.eq_ints ec (Term.int_eval (0))) (not_v (Cond.before_iff.mp hcw))
  have hEW : EW s #[(.int i1), (.int i2), (.int i3), (.int i4)] EL1 := (EW.cons (hw _ (List.mem_of_getElem? (i := 120) rfl)) (by decide) (EW.cons (hw _ (List.mem_of_getElem? (i := 131) rfl)) (by decide) (EW.cons (hw _ (List.mem_of_getElem? (i := 168) rfl)) (by decide) (EW.cons (hw _ (List.mem_of_getElem? (i := 207) rfl)) (by decide) (EW.cons (hw _ (List.mem_of_getElem? (i := 208) rfl)) (by decide) (EW.cons (hw _ (List.mem_of_getElem? (i := 232) rfl)) (by decide) EW.nil))))))
  obtain ⟨fm, ef0, hfm⟩ := isR_v (Cond.before_iff.mp (hsets _ (List.mem_of_getElem? (i := 8) rfl)))
  have Sfm : Sta s s.heap "jdk/internal/util/Preconditions" "SIOOBE_FORMATTER" "Ljava/util/function/BiFunction;" fm := Sta.start ef0 (Or.inl (hsets _ (List.mem_of_getElem? (i := 7) rfl)))
  obtain ⟨n0, r0⟩ := and_e hn
  obtain ⟨n1, r1⟩ := and_e r0
  obtain ⟨n2, r2⟩ := and_e r1
  obtain ⟨n3, r3⟩ := and_e r2
  obtain ⟨n4, r4⟩ := and_e r3
  obtain ⟨n5, r5⟩ := and_e r4
  obtain ⟨n6, r6⟩ := and_e r5
  obtain ⟨n7, r7⟩ := and_e r6
  obtain ⟨n8, r8⟩ := and_e r7
  obtain ⟨n9, r9⟩ := and_e r8
  obtain ⟨n10, r10⟩ := and_e r9
  obtain ⟨n11, r11⟩ := and_e r10
  obtain ⟨n12, r12⟩ := and_e r11
  obtain ⟨n13, r13⟩ := and_e r12
  obtain ⟨n14, r14⟩ := and_e r13
  obtain ⟨n15, r15⟩ := and_e r14
  obtain ⟨n16, r16⟩ := and_e r15
  obtain ⟨n17, r17⟩ := and_e r16
  obtain ⟨n18, r18⟩ := and_e r17
  obtain ⟨n19, r19⟩ := and_e r18
  obtain ⟨n20, r20⟩ := and_e r19
  obtain ⟨n21, r21⟩ := and_e r20
  obtain ⟨n22, r22⟩ := and_e r21
  obtain ⟨n23, r23⟩ := and_e r22
  obtain ⟨n24, r24⟩ := and_e r23
  obtain ⟨n25, r25⟩ := and_e r24
  obtain ⟨n26, r26⟩ := and_e r25
  obtain ⟨n27, r27⟩ := and_e r26
  obtain ⟨n28, r28⟩ := and_e r27
  obtain ⟨n29, r29⟩ := and_e r28
  obtain ⟨n30, r30⟩ := and_e r29
  obtain ⟨n31, r31⟩ := and_e r30
  obtain ⟨n32, r32⟩ := and_e r31
  obtain ⟨n33, r33⟩ := and_e r32
  obtain ⟨n34, r34⟩ := and_e r33
  obtain ⟨n35, r35⟩ := and_e r34
  obtain ⟨n36, r36⟩ := and_e r35
  obtain ⟨n37, r37⟩ := and_e r36
  obtain ⟨n38, r38⟩ := and_e r37
  obtain ⟨n39, r39⟩ := and_e r38
  obtain ⟨n40, r40⟩ := and_e r39
  obtain ⟨n41, r41⟩ := and_e r40
  obtain ⟨n42, r42⟩ := and_e r41
  obtain ⟨n43, r43⟩ := and_e r42
  obtain ⟨n44, r44⟩ := and_e r43
  obtain ⟨n45, r45⟩ := and_e r44
  have n46 := r45
  obtain ⟨rt, ert⟩ := exa_v n0
  have Art : Exa s s.heap rt "com/example/kredential/kredential/NameRule" := Exa.start ert n0
  have Srt : Sta s s.heap "com/example/kredential/kredential/Resource" "TYPE" "Lcom/example/kredential/kredential/NameRule;" (.ref rt) := Sta.start ert (Or.inr ⟨hw _ (List.mem_of_getElem? (i := 57) rfl), hw _ (List.mem_of_getElem? (i := 66) rfl)⟩)
  have Mrt : Fld s s.heap rt "com/example/kredential/kredential/NameRule" "maxLength" "I" (.int 64) := Fld.start ((fld_at ert).symm.trans (eqint n1))
  have Drt : Fld s s.heap rt "com/example/kredential/kredential/NameRule" "refusesDotSegments" "Z" (.int 0) := Fld.start ((fld_at ert).symm.trans (eqint n2))
  obtain ⟨alrt, ealrt⟩ := arr_v n3
  have Lrt : Fld s s.heap rt "com/example/kredential/kredential/NameRule" "allowed" "[Z" (.ref alrt) := Fld.start ((fld_at ert).symm.trans ealrt)
  obtain ⟨kcrt, clrt, atrt, hcrt, szrt, Vrt⟩ := arv_startX (.int 0) hfit ealrt n3 (eqint n4) (by decide)
  have syrt : clrt.slots.size = 128 := szrt
  have Urt : ∀ c : Int32, okT c → clrt.slots.toList.getD c.toNatClampNeg (.int 0) = .int 1 := fun c hc => by
    rcases hc with q | ⟨q, q'⟩ | ⟨q, q'⟩
    · rw [q]; exact atL (elem_in (eqint n16) ealrt (Term.int_eval 45) hcrt).2 _
    · exact atL (all_rng (fun _ => ealrt) ealrt atrt hcrt n19 (by omega) (by omega) (n32nlt (n := 48) q (by omega)) (n32lt (n := 58) q' (by decide))) _
    · exact atL (all_rng (fun _ => ealrt) ealrt atrt hcrt n21 (by omega) (by omega) (n32nlt (n := 97) q (by omega)) (n32lt (n := 123) q' (by decide))) _
  have Rrt : Rule s s.heap rt 64 0 okT := ⟨alrt, kcrt, _, Art, Mrt, Drt, Lrt, Vrt, Urt⟩
  obtain ⟨ri, eri⟩ := exa_v n5
  have Ari : Exa s s.heap ri "com/example/kredential/kredential/NameRule" := Exa.start eri n5
  have Sri : Sta s s.heap "com/example/kredential/kredential/Resource" "ID" "Lcom/example/kredential/kredential/NameRule;" (.ref ri) := Sta.start eri (Or.inr ⟨hw _ (List.mem_of_getElem? (i := 57) rfl), hw _ (List.mem_of_getElem? (i := 119) rfl)⟩)
  have Mri : Fld s s.heap ri "com/example/kredential/kredential/NameRule" "maxLength" "I" (.int 128) := Fld.start ((fld_at eri).symm.trans (eqint n6))
  have Dri : Fld s s.heap ri "com/example/kredential/kredential/NameRule" "refusesDotSegments" "Z" (.int 1) := Fld.start ((fld_at eri).symm.trans (eqint n7))
  obtain ⟨alri, ealri⟩ := arr_v n8
  have Lri : Fld s s.heap ri "com/example/kredential/kredential/NameRule" "allowed" "[Z" (.ref alri) := Fld.start ((fld_at eri).symm.trans ealri)
  obtain ⟨kcri, clri, atri, hcri, szri, Vri⟩ := arv_startX (.int 0) hfit ealri n8 (eqint n9) (by decide)
  have syri : clri.slots.size = 128 := szri
  have Uri : ∀ c : Int32, okI c → clri.slots.toList.getD c.toNatClampNeg (.int 0) = .int 1 := fun c hc => by
    rcases hc with q | q | ⟨q, q'⟩ | ⟨q, q'⟩ | q | ⟨q, q'⟩
    · rw [q]; exact atL (elem_in (eqint n24) ealri (Term.int_eval 45) hcri).2 _
    · rw [q]; exact atL (elem_in (eqint n25) ealri (Term.int_eval 46) hcri).2 _
    · exact atL (all_rng (fun _ => ealri) ealri atri hcri n27 (by omega) (by omega) (n32nlt (n := 48) q (by omega)) (n32lt (n := 59) q' (by decide))) _
    · exact atL (all_rng (fun _ => ealri) ealri atri hcri n29 (by omega) (by omega) (n32nlt (n := 65) q (by omega)) (n32lt (n := 91) q' (by decide))) _
    · rw [q]; exact atL (elem_in (eqint n31) ealri (Term.int_eval 95) hcri).2 _
    · exact atL (all_rng (fun _ => ealri) ealri atri hcri n33 (by omega) (by omega) (n32nlt (n := 97) q (by omega)) (n32lt (n := 123) q' (by decide))) _
  have Rri : Rule s s.heap ri 128 1 okI := ⟨alri, kcri, _, Ari, Mri, Dri, Lri, Vri, Uri⟩
  obtain ⟨rp, erp⟩ := exa_v n10
  have Arp : Exa s s.heap rp "com/example/kredential/kredential/NameRule" := Exa.start erp n10
  have Srp : Sta s s.heap "com/example/kredential/kredential/Participant" "ID" "Lcom/example/kredential/kredential/NameRule;" (.ref rp) := Sta.start erp (Or.inr ⟨hw _ (List.mem_of_getElem? (i := 134) rfl), hw _ (List.mem_of_getElem? (i := 137) rfl)⟩)
  have Mrp : Fld s s.heap rp "com/example/kredential/kredential/NameRule" "maxLength" "I" (.int 128) := Fld.start ((fld_at erp).symm.trans (eqint n11))
  have Drp : Fld s s.heap rp "com/example/kredential/kredential/NameRule" "refusesDotSegments" "Z" (.int 1) := Fld.start ((fld_at erp).symm.trans (eqint n12))
  obtain ⟨alrp, ealrp⟩ := arr_v n13
  have Lrp : Fld s s.heap rp "com/example/kredential/kredential/NameRule" "allowed" "[Z" (.ref alrp) := Fld.start ((fld_at erp).symm.trans ealrp)
  obtain ⟨kcrp, clrp, atrp, hcrp, szrp, Vrp⟩ := arv_startX (.int 0) hfit ealrp n13 (eqint n14) (by decide)
  have syrp : clrp.slots.size = 128 := szrp
  have Urp : ∀ c : Int32, okI c → clrp.slots.toList.getD c.toNatClampNeg (.int 0) = .int 1 := fun c hc => by
    rcases hc with q | q | ⟨q, q'⟩ | ⟨q, q'⟩ | q | ⟨q, q'⟩
    · rw [q]; exact atL (elem_in (eqint n36) ealrp (Term.int_eval 45) hcrp).2 _
    · rw [q]; exact atL (elem_in (eqint n37) ealrp (Term.int_eval 46) hcrp).2 _
    · exact atL (all_rng (fun _ => ealrp) ealrp atrp hcrp n39 (by omega) (by omega) (n32nlt (n := 48) q (by omega)) (n32lt (n := 59) q' (by decide))) _
    · exact atL (all_rng (fun _ => ealrp) ealrp atrp hcrp n41 (by omega) (by omega) (n32nlt (n := 65) q (by omega)) (n32lt (n := 91) q' (by decide))) _
    · rw [q]; exact atL (elem_in (eqint n43) ealrp (Term.int_eval 95) hcrp).2 _
    · exact atL (all_rng (fun _ => ealrp) ealrp atrp hcrp n45 (by omega) (by omega) (n32nlt (n := 97) q (by omega)) (n32lt (n := 123) q' (by decide))) _
  have Rrp : Rule s s.heap rp 128 1 okI := ⟨alrp, kcrp, _, Arp, Mrp, Drp, Lrp, Vrp, Urp⟩
  have G : Env1 s #[(.int i1), (.int i2), (.int i3), (.int i4)] := ⟨hw, hEW, ⟨zc, Sc, hzc⟩, ⟨fm, Sfm, hfm⟩, rt, ri, rp, Srt, Sri, Srp, Rrt, Rri, Rrp⟩
  have hH : CHv s EL1 s.vm s.heap := CHv.start hEW (fun p hp => hcalls.1 p hp) hcw (hw _ (List.mem_of_getElem? (i := 30) rfl)) (hw _ (List.mem_of_getElem? (i := 12) rfl))
  have ct : Ct l s EL1 [] tables_1 x code maxLocals ret room_1 #[(.int i1), (.int i2), (.int i3), (.int i4)] s.heap (fun v h => v = some (.int 1)) := Ct.of_seg (a0 := #[(.int i1), (.int i2), (.int i3), (.int i4)]) (plainFor_of_name pn_com_example_kredential_kredential_ResourceToStringPinLaw) G.2.1 (ef_law i1 i2 i3 i4) (sg0 G i1 i2 i3 i4 s.heap)
  obtain ⟨n, o, h1, h2, h3, v, L, rfl, ⟨N, -, rfl⟩, hC, hq⟩ := ct p e ha hc hk s m _ below hf ((Spec.applies_iff_loose hf).mp happ).1 ⟨rfl, State.Warmed39.refl s, rfl, hH, (fun x q => nomatch q), ext_rfl _⟩ trivial
  refine ⟨n, _, h1, h2, h3, hpost _ _ _ _ _ _ ⟨Cond.after_iff.mpr rfl, Cond.after_iff.mpr (eq_i res_at (Term.int_eval (1)) rfl), trivial⟩ ?_⟩
  exact ⟨hq.1, hq.2.1, hq.2.2.1, (hq.2.2.2.sift fun y hy => Or.inr (N y hy)).mono (by decide) (by decide)⟩
theorem main_1_1 : Claimed_1_1 := comes_1 fun _ _ _ _ _ _ h hF => ⟨h.1, hF⟩
theorem main_1_2 : Claimed_1_2 := comes_1 fun _ _ _ _ _ _ h hF => ⟨h.2.1, hF⟩
end Jvm.Pilot.@@N@@
namespace Jvm.Pilot.@@N@@
open Jvm Jvm.ClassFile Sem Op Lib Jvm.Free Jvm.Stand Jvm.Pilot.@@N@@.Jvm.D
/-! MADE BY PROGRAM (witnessworld.py) out of the Statement's table words and the real class files: 30 classes; the members and pool entries that the words name. The judged class is class 1, her method 5. -/
namespace start1
open Jvm.ClassFile
def u (s : String) : CpInfo := .utf8 (stringToUtf16 s)
/-- a pool by its gaps: so many unusable entries, then the entry; so many at the end -/
def gap : Nat → List CpInfo → List CpInfo
  | 0, r => r
  | n + 1, r => .unusable :: gap n r
def poolList (es : List (Nat × CpInfo)) (last : Nat) : List CpInfo := es.foldr (fun e r => gap e.1 (e.2 :: r)) (gap last [])
def pool (es : List (Nat × CpInfo)) (last : Nat) : Array CpInfo := ⟨poolList es last⟩
def fileOf (pool : Array CpInfo) (this : Nat) (attrs : Array Attribute := #[]) (ms : Array MethodInfo := #[]) (fl : Nat := 33) (sup : Nat := 0) (ifs : Array Nat := #[]) (fds : Array FieldInfo := #[]) : ClassFile where
  minorVersion := 0
  majorVersion := 65
  constantPool := pool
  accessFlags := fl
  thisClass := this
  superClass := sup
  interfaces := ifs
  fields := fds
  methods := ms
  attributes := attrs
def plain (name : String) (sup : Option ClassId) : Class where
  name := name
  kind := .ordinary
  loader := none
  accessFlags := 33
  super := sup
  interfaces := #[]
  cf := none
  fields := #[]
  methods := #[]
  instanceTypes := #[]
  staticTypes := #[]
  resolved := #[]
  callSites := []
  init := .initialized
  statics := none
  mirror := none

def pool0 : Array CpInfo := pool [(5, u "<init>"), (0, u "()V"), (1, .class_ 10), (1, u "java/lang/Object")] 113

def k0c0 : Code := { maxStack := 0, maxLocals := 1, code := object_method_1_code, exceptionTable := #[], attributes := #[] }
def k0m0 : Method := { name := "<init>", desc := "()V", sig := { parameters := [], returnType := none }, accessFlags := 1, code := some k0c0 }
/-- java/lang/Object -/
def k0 : Class := { plain "java/lang/Object" none with
  accessFlags := 33
  interfaces := #[]
  cf := some (fileOf pool0 8 #[] #[{ accessFlags := 1, nameIndex := 5, descriptorIndex := 6, attributes := #[] }] 33 0 #[] #[])
  fields := #[]
  methods := #[k0m0]
  instanceTypes := #[]
  staticTypes := #[]
  resolved := Array.replicate 124 none
  statics := none }

def pool1 : Array CpInfo := pool [(2, .class_ 4), (1, u "java/lang/Object"), (0, u "<init>"), (0, u "()V"), (0, .methodref 8 9), (0, .class_ 10), (0, .nameAndType 11 12), (0, u "java/lang/String"), (0, u "length"), (0, u "()I"), (0, .methodref 8 14), (0, .nameAndType 15 16), (0, u "charAt"), (0, u "(I)C"), (0, .methodref 8 18), (0, .nameAndType 19 20), (0, u "valueOf"), (0, u "(C)Ljava/lang/String;"), (0, .methodref 8 22), (0, .nameAndType 5 23), (0, u "([C)V"), (0, .integer 65535), (0, .methodref 26 27), (0, .class_ 28), (0, .nameAndType 29 16), (0, u "com/example/kredential/kredential/ResourceToStringPinLaw"), (0, u "typeChar"), (0, .methodref 26 31), (0, .nameAndType 32 16), (0, u "idChar"), (0, .methodref 26 34), (0, .nameAndType 35 36), (0, u "make"), (0, u "(ICC)Ljava/lang/String;"), (0, .class_ 38), (0, u "com/example/kredential/kredential/Resource"), (0, .methodref 37 40), (0, .nameAndType 5 41), (0, u "(Ljava/lang/String;Ljava/lang/String;Ljava/lang/String;)V"), (0, .methodref 37 43), (0, .nameAndType 44 45), (0, u "toString"), (0, u "()Ljava/lang/String;"), (0, .methodref 26 47), (0, .nameAndType 48 49), (0, u "at"), (0, u "(Ljava/lang/String;IC)Z"), (3, u "law"), (0, u "(IIII)Z")] 2

def k1m0 : Method := { name := "<init>", desc := "()V", sig := { parameters := [], returnType := none }, accessFlags := 1, code := none }
def k1c1 : Code := { maxStack := 3, maxLocals := 2, code := method_2_code, exceptionTable := #[], attributes := #[] }
def k1m1 : Method := { name := "typeChar", desc := "(I)C", sig := { parameters := [.int], returnType := some .char }, accessFlags := 10, code := some k1c1 }
def k1c2 : Code := { maxStack := 3, maxLocals := 2, code := method_3_code, exceptionTable := #[], attributes := #[] }
def k1m2 : Method := { name := "idChar", desc := "(I)C", sig := { parameters := [.int], returnType := some .char }, accessFlags := 10, code := some k1c2 }
def k1c3 : Code := { maxStack := 2, maxLocals := 3, code := method_4_code, exceptionTable := #[], attributes := #[] }
def k1m3 : Method := { name := "at", desc := "(Ljava/lang/String;IC)Z", sig := { parameters := [(.object "java/lang/String"), .int, .char], returnType := some .boolean }, accessFlags := 10, code := some k1c3 }
def k1c4 : Code := { maxStack := 6, maxLocals := 3, code := method_5_code, exceptionTable := #[], attributes := #[] }
def k1m4 : Method := { name := "make", desc := "(ICC)Ljava/lang/String;", sig := { parameters := [.int, .char, .char], returnType := some (.object "java/lang/String") }, accessFlags := 10, code := some k1c4 }
def k1c5 : Code := { maxStack := 5, maxLocals := 20, code := code, exceptionTable := #[], attributes := #[] }
def k1m5 : Method := { name := "law", desc := "(IIII)Z", sig := { parameters := [.int, .int, .int, .int], returnType := some .boolean }, accessFlags := 9, code := some k1c5 }
/-- com/example/kredential/kredential/ResourceToStringPinLaw -/
def k1 : Class := { plain "com/example/kredential/kredential/ResourceToStringPinLaw" (some 0) with
  accessFlags := 49
  interfaces := #[]
  cf := some (fileOf pool1 26 #[] #[{ accessFlags := 1, nameIndex := 5, descriptorIndex := 6, attributes := #[] }, { accessFlags := 10, nameIndex := 29, descriptorIndex := 16, attributes := #[] }, { accessFlags := 10, nameIndex := 32, descriptorIndex := 16, attributes := #[] }, { accessFlags := 10, nameIndex := 48, descriptorIndex := 49, attributes := #[] }, { accessFlags := 10, nameIndex := 35, descriptorIndex := 36, attributes := #[] }, { accessFlags := 9, nameIndex := 53, descriptorIndex := 54, attributes := #[] }] 49 2 #[] #[])
  fields := #[]
  methods := #[k1m0, k1m1, k1m2, k1m3, k1m4, k1m5]
  instanceTypes := #[]
  staticTypes := #[]
  resolved := Array.replicate 57 none
  statics := none }

def pool2 : Array CpInfo := pool [(1, .class_ 2), (0, u "java/io/Serializable"), (0, .class_ 4), (0, u "java/lang/Object")] 2

/-- java/io/Serializable -/
def k2 : Class := { plain "java/io/Serializable" (some 0) with
  accessFlags := 1537
  interfaces := #[]
  cf := some (fileOf pool2 1 #[] #[] 1537 3 #[] #[])
  fields := #[]
  methods := #[]
  instanceTypes := #[]
  staticTypes := #[]
  resolved := Array.replicate 7 none
  statics := none }

def pool3 : Array CpInfo := pool [(1, .class_ 2), (0, u "java/lang/Comparable"), (0, .class_ 4), (0, u "java/lang/Object")] 7

/-- java/lang/Comparable -/
def k3 : Class := { plain "java/lang/Comparable" (some 0) with
  accessFlags := 1537
  interfaces := #[]
  cf := some (fileOf pool3 1 #[] #[] 1537 3 #[] #[])
  fields := #[]
  methods := #[]
  instanceTypes := #[]
  staticTypes := #[]
  resolved := Array.replicate 12 none
  statics := none }

def pool4 : Array CpInfo := pool [(2, .class_ 4), (1, u "java/lang/CharSequence"), (42, .class_ 48), (0, u "java/lang/CharSequence$1CodePointIterator"), (10, .class_ 60), (0, u "java/lang/CharSequence$1CharIterator"), (5, .class_ 67), (0, u "java/lang/Object")] 63

/-- java/lang/CharSequence -/
def k4 : Class := { plain "java/lang/CharSequence" (some 0) with
  accessFlags := 1537
  interfaces := #[]
  cf := some (fileOf pool4 2 #[.nestMembers #[47, 59]] #[] 1537 66 #[] #[])
  fields := #[]
  methods := #[]
  instanceTypes := #[]
  staticTypes := #[]
  resolved := Array.replicate 131 none
  statics := none }

def pool5 : Array CpInfo := pool [(1, .class_ 2), (0, u "java/lang/constant/Constable"), (0, .class_ 4), (0, u "java/lang/Object")] 6

/-- java/lang/constant/Constable -/
def k5 : Class := { plain "java/lang/constant/Constable" (some 0) with
  accessFlags := 1537
  interfaces := #[]
  cf := some (fileOf pool5 1 #[] #[] 1537 3 #[] #[])
  fields := #[]
  methods := #[]
  instanceTypes := #[]
  staticTypes := #[]
  resolved := Array.replicate 11 none
  statics := none }

def pool6 : Array CpInfo := pool [(1, .class_ 2), (0, u "java/lang/constant/ConstantDesc"), (0, .class_ 4), (0, u "java/lang/Object")] 32

/-- java/lang/constant/ConstantDesc -/
def k6 : Class := { plain "java/lang/constant/ConstantDesc" (some 0) with
  accessFlags := 1537
  interfaces := #[]
  cf := some (fileOf pool6 1 #[] #[] 1537 3 #[] #[])
  fields := #[]
  methods := #[]
  instanceTypes := #[]
  staticTypes := #[]
  resolved := Array.replicate 37 none
  statics := none }

def pool7 : Array CpInfo := pool [(1, .methodref 2 3), (0, .class_ 4), (0, .nameAndType 5 6), (0, u "java/lang/Object"), (0, u "<init>"), (0, u "()V"), (2, .fieldref 10 11), (0, .class_ 12), (0, .nameAndType 13 14), (0, u "java/lang/String"), (0, u "value"), (0, u "[B"), (0, .fieldref 10 16), (0, .nameAndType 17 18), (0, u "coder"), (0, u "B"), (2, u "hash"), (0, u "I"), (2, u "hashIsZero"), (0, u "Z"), (0, .methodref 10 28), (0, .nameAndType 5 29), (0, u "([CIILjava/lang/Void;)V"), (8, .fieldref 10 39), (0, .nameAndType 40 26), (0, u "COMPACT_STRINGS"), (1, .class_ 44), (1, u "java/lang/StringUTF16"), (0, u "compress"), (1, .methodref 42 48), (0, .nameAndType 49 50), (0, u "coderFromArrayLen"), (0, u "([BI)B"), (2, u "toBytes"), (0, .methodref 55 56), (0, .class_ 57), (0, .nameAndType 58 59), (0, u "java/util/Arrays"), (0, u "copyOfRange"), (0, u "([BII)[B"), (47, .class_ 109), (1, u "java/lang/StringLatin1"), (32, u "()Z"), (34, .methodref 42 178), (0, .nameAndType 45 179), (0, u "([CII)[B"), (13, .class_ 195), (1, u "java/lang/System"), (13, .methodref 10 210), (0, .nameAndType 5 211), (0, u "([BB)V"), (0, .methodref 193 213), (0, .nameAndType 214 215), (0, u "arraycopy"), (0, u "(Ljava/lang/Object;ILjava/lang/Object;II)V"), (118, u "()I"), (0, .methodref 10 336), (0, .nameAndType 17 337), (0, u "()B"), (2, u "()[B"), (22, u "([BI)C"), (5, u "(C)Z"), (21, u "(II)V"), (35, u "(I)C"), (61, .methodref 10 490), (0, .nameAndType 5 491), (0, u "(Ljava/lang/AbstractStringBuilder;Ljava/lang/Void;)V"), (0, .methodref 10 493), (0, .nameAndType 494 142), (0, u "isLatin1"), (0, .methodref 107 496), (0, .nameAndType 497 363), (0, u "charAt"), (3, u "checkIndex"), (4, .nameAndType 507 334), (0, u "length"), (24, u "getBytes"), (8, .methodref 107 542), (0, .nameAndType 543 544), (0, u "equals"), (0, u "([B[B)Z"), (4, .methodref 550 506), (0, .class_ 551), (0, u "java/lang/AbstractStringBuilder"), (0, .methodref 550 553), (0, .nameAndType 554 340), (0, u "getValue"), (18, u "(Ljava/lang/Object;)Z"), (1, .class_ 576), (0, u "java/lang/CharSequence"), (22, u "CASE_INSENSITIVE_ORDER"), (0, u "Ljava/util/Comparator;"), (91, u "isEmpty"), (89, u "valueOf"), (0, u "(C)Ljava/lang/String;"), (37, u "([BIB)V"), (188, u "([C)V"), (4, .methodref 107 1016), (0, .nameAndType 1017 369), (0, u "canEncode"), (0, .methodref 107 1019), (0, .nameAndType 53 1020), (0, u "(C)[B"), (26, .methodref 550 493), (5, .fieldref 1054 1055), (0, .class_ 1056), (0, .nameAndType 1057 1058), (0, u "jdk/internal/util/Preconditions"), (0, u "SIOOBE_FORMATTER"), (0, u "Ljava/util/function/BiFunction;"), (0, .methodref 1054 1060), (0, .nameAndType 501 1061), (0, u "(IILjava/util/function/BiFunction;)I"), (39, u "serialPersistentFields"), (0, u "[Ljava/io/ObjectStreamField;"), (0, .class_ 1104), (0, u "java/lang/String$CaseInsensitiveComparator"), (1, .class_ 1107), (0, u "java/io/Serializable"), (0, .class_ 1109), (0, u "java/lang/Comparable"), (0, .class_ 1111), (0, u "java/lang/constant/Constable"), (0, .class_ 1113), (0, u "java/lang/constant/ConstantDesc"), (2, u "serialVersionUID"), (0, u "J"), (3, u "REPL"), (0, u "C"), (2, u "LATIN1"), (1, u "UTF16"), (105, u "(Ljava/lang/StringBuilder;)V")] 217

def k7m0 : Method := { name := "<init>", desc := "()V", sig := { parameters := [], returnType := none }, accessFlags := 1, code := none }
def k7c1 : Code := { maxStack := 5, maxLocals := 2, code := jdk_42_method_3_code, exceptionTable := #[], attributes := #[] }
def k7m1 : Method := { name := "<init>", desc := "([C)V", sig := { parameters := [(.array .char)], returnType := none }, accessFlags := 1, code := some k7c1 }
def k7c2 : Code := { maxStack := 3, maxLocals := 2, code := jdk_42_method_53_code, exceptionTable := #[], attributes := #[] }
def k7m2 : Method := { name := "<init>", desc := "(Ljava/lang/StringBuilder;)V", sig := { parameters := [(.object "java/lang/StringBuilder")], returnType := none }, accessFlags := 1, code := some k7c2 }
def k7c3 : Code := { maxStack := 2, maxLocals := 1, code := jdk_42_method_54_code, exceptionTable := #[], attributes := #[] }
def k7m3 : Method := { name := "length", desc := "()I", sig := { parameters := [], returnType := some .int }, accessFlags := 1, code := some k7c3 }
def k7c4 : Code := { maxStack := 1, maxLocals := 1, code := jdk_42_method_55_code, exceptionTable := #[], attributes := #[] }
def k7m4 : Method := { name := "isEmpty", desc := "()Z", sig := { parameters := [], returnType := some .boolean }, accessFlags := 1, code := some k7c4 }
def k7c5 : Code := { maxStack := 2, maxLocals := 2, code := jdk_42_method_56_code, exceptionTable := #[], attributes := #[] }
def k7m5 : Method := { name := "charAt", desc := "(I)C", sig := { parameters := [.int], returnType := some .char }, accessFlags := 1, code := some k7c5 }
def k7c6 : Code := { maxStack := 2, maxLocals := 3, code := jdk_42_method_66_code, exceptionTable := #[], attributes := #[] }
def k7m6 : Method := { name := "equals", desc := "(Ljava/lang/Object;)Z", sig := { parameters := [(.object "java/lang/Object")], returnType := some .boolean }, accessFlags := 1, code := some k7c6 }
def k7c7 : Code := { maxStack := 4, maxLocals := 1, code := jdk_42_method_139_code, exceptionTable := #[], attributes := #[] }
def k7m7 : Method := { name := "valueOf", desc := "(C)Ljava/lang/String;", sig := { parameters := [.char], returnType := some (.object "java/lang/String") }, accessFlags := 9, code := some k7c7 }
def k7c8 : Code := { maxStack := 5, maxLocals := 4, code := jdk_42_method_147_code, exceptionTable := #[], attributes := #[] }
def k7m8 : Method := { name := "getBytes", desc := "([BIB)V", sig := { parameters := [(.array .byte), .int, .byte], returnType := none }, accessFlags := 0, code := some k7c8 }
def k7c9 : Code := { maxStack := 4, maxLocals := 6, code := jdk_42_method_149_code, exceptionTable := #[], attributes := #[] }
def k7m9 : Method := { name := "<init>", desc := "([CIILjava/lang/Void;)V", sig := { parameters := [(.array .char), .int, .int, (.object "java/lang/Void")], returnType := none }, accessFlags := 2, code := some k7c9 }
def k7c10 : Code := { maxStack := 5, maxLocals := 5, code := jdk_42_method_150_code, exceptionTable := #[], attributes := #[] }
def k7m10 : Method := { name := "<init>", desc := "(Ljava/lang/AbstractStringBuilder;Ljava/lang/Void;)V", sig := { parameters := [(.object "java/lang/AbstractStringBuilder"), (.object "java/lang/Void")], returnType := none }, accessFlags := 0, code := some k7c10 }
def k7c11 : Code := { maxStack := 2, maxLocals := 3, code := jdk_42_method_151_code, exceptionTable := #[], attributes := #[] }
def k7m11 : Method := { name := "<init>", desc := "([BB)V", sig := { parameters := [(.array .byte), .byte], returnType := none }, accessFlags := 0, code := some k7c11 }
def k7c12 : Code := { maxStack := 1, maxLocals := 1, code := jdk_42_method_152_code, exceptionTable := #[], attributes := #[] }
def k7m12 : Method := { name := "coder", desc := "()B", sig := { parameters := [], returnType := some .byte }, accessFlags := 0, code := some k7c12 }
def k7c13 : Code := { maxStack := 1, maxLocals := 1, code := jdk_42_method_154_code, exceptionTable := #[], attributes := #[] }
def k7m13 : Method := { name := "isLatin1", desc := "()Z", sig := { parameters := [], returnType := some .boolean }, accessFlags := 0, code := some k7c13 }
def k7c14 : Code := { maxStack := 3, maxLocals := 2, code := jdk_42_method_155_code, exceptionTable := #[], attributes := #[] }
def k7m14 : Method := { name := "checkIndex", desc := "(II)V", sig := { parameters := [.int, .int], returnType := none }, accessFlags := 8, code := some k7c14 }
/-- java/lang/String -/
def k7 : Class := { plain "java/lang/String" (some 0) with
  accessFlags := 49
  interfaces := #[2, 3, 4, 5, 6]
  cf := some (fileOf pool7 10 #[.nestMembers #[1103]] #[{ accessFlags := 1, nameIndex := 5, descriptorIndex := 6, attributes := #[] }, { accessFlags := 1, nameIndex := 5, descriptorIndex := 1010, attributes := #[] }, { accessFlags := 1, nameIndex := 5, descriptorIndex := 1233, attributes := #[] }, { accessFlags := 1, nameIndex := 507, descriptorIndex := 334, attributes := #[] }, { accessFlags := 1, nameIndex := 692, descriptorIndex := 142, attributes := #[] }, { accessFlags := 1, nameIndex := 497, descriptorIndex := 427, attributes := #[] }, { accessFlags := 1, nameIndex := 543, descriptorIndex := 573, attributes := #[] }, { accessFlags := 9, nameIndex := 782, descriptorIndex := 783, attributes := #[] }, { accessFlags := 0, nameIndex := 532, descriptorIndex := 821, attributes := #[] }, { accessFlags := 2, nameIndex := 5, descriptorIndex := 29, attributes := #[] }, { accessFlags := 0, nameIndex := 5, descriptorIndex := 491, attributes := #[] }, { accessFlags := 0, nameIndex := 5, descriptorIndex := 211, attributes := #[] }, { accessFlags := 0, nameIndex := 17, descriptorIndex := 337, attributes := #[] }, { accessFlags := 0, nameIndex := 494, descriptorIndex := 142, attributes := #[] }, { accessFlags := 8, nameIndex := 501, descriptorIndex := 391, attributes := #[] }] 49 2 #[1106, 1108, 575, 1110, 1112] #[{ accessFlags := 18, nameIndex := 13, descriptorIndex := 14, attributes := #[] }, { accessFlags := 18, nameIndex := 17, descriptorIndex := 18, attributes := #[] }, { accessFlags := 2, nameIndex := 21, descriptorIndex := 22, attributes := #[] }, { accessFlags := 2, nameIndex := 25, descriptorIndex := 26, attributes := #[] }, { accessFlags := 26, nameIndex := 1116, descriptorIndex := 1117, attributes := #[] }, { accessFlags := 24, nameIndex := 40, descriptorIndex := 26, attributes := #[] }, { accessFlags := 26, nameIndex := 1101, descriptorIndex := 1102, attributes := #[] }, { accessFlags := 26, nameIndex := 1121, descriptorIndex := 1122, attributes := #[] }, { accessFlags := 25, nameIndex := 599, descriptorIndex := 600, attributes := #[] }, { accessFlags := 24, nameIndex := 1125, descriptorIndex := 18, attributes := #[] }, { accessFlags := 24, nameIndex := 1127, descriptorIndex := 18, attributes := #[] }])
  fields := #[{ name := "value", type := (.array .byte), accessFlags := 18, slot := 0, constantValue := 0 }, { name := "coder", type := .byte, accessFlags := 18, slot := 1, constantValue := 0 }, { name := "hash", type := .int, accessFlags := 2, slot := 2, constantValue := 0 }, { name := "hashIsZero", type := .boolean, accessFlags := 2, slot := 3, constantValue := 0 }, { name := "serialVersionUID", type := .long, accessFlags := 26, slot := 0, constantValue := 0 }, { name := "COMPACT_STRINGS", type := .boolean, accessFlags := 24, slot := 1, constantValue := 0 }, { name := "serialPersistentFields", type := (.array (.object "java/io/ObjectStreamField")), accessFlags := 26, slot := 2, constantValue := 0 }, { name := "REPL", type := .char, accessFlags := 26, slot := 3, constantValue := 0 }, { name := "CASE_INSENSITIVE_ORDER", type := (.object "java/util/Comparator"), accessFlags := 25, slot := 4, constantValue := 0 }, { name := "LATIN1", type := .byte, accessFlags := 24, slot := 5, constantValue := 0 }, { name := "UTF16", type := .byte, accessFlags := 24, slot := 6, constantValue := 0 }]
  methods := #[k7m0, k7m1, k7m2, k7m3, k7m4, k7m5, k7m6, k7m7, k7m8, k7m9, k7m10, k7m11, k7m12, k7m13, k7m14]
  instanceTypes := #[(.array .byte), .byte, .int, .boolean]
  staticTypes := #[.long, .boolean, (.array (.object "java/io/ObjectStreamField")), .char, (.object "java/util/Comparator"), .byte, .byte]
  resolved := Array.replicate 1451 none
  statics := some 0 }

def pool8 : Array CpInfo := pool [(6, .class_ 8), (1, u "java/lang/Object"), (0, u "<init>"), (0, u "()V"), (1, .class_ 14), (1, u "java/lang/StringUTF16"), (31, u "$assertionsDisabled"), (0, u "Z"), (13, u "HI_BYTE_SHIFT"), (0, u "I"), (2, u "LO_BYTE_SHIFT"), (49, .methodref 12 116), (0, .nameAndType 117 118), (0, u "compress"), (0, u "([CI[BII)I"), (3, u "([CII)[B"), (138, u "coderFromArrayLen"), (0, u "([BI)B"), (106, .class_ 371), (1, u "java/lang/StringUTF16$LinesSpliterator"), (58, u "MAX_LENGTH"), (196, .class_ 628), (0, u "java/lang/StringUTF16$CodePointsSpliterator"), (0, .class_ 630), (0, u "java/lang/StringUTF16$CharsSpliterator")] 4

def k8m0 : Method := { name := "<init>", desc := "()V", sig := { parameters := [], returnType := none }, accessFlags := 0, code := none }
def k8c1 : Code := { maxStack := 2, maxLocals := 2, code := jdk_52_method_15_code, exceptionTable := #[], attributes := #[] }
def k8m1 : Method := { name := "coderFromArrayLen", desc := "([BI)B", sig := { parameters := [(.array .byte), .int], returnType := some .byte }, accessFlags := 8, code := some k8c1 }
def k8c2 : Code := { maxStack := 5, maxLocals := 6, code := jdk_52_method_16_code, exceptionTable := #[], attributes := #[] }
def k8m2 : Method := { name := "compress", desc := "([CII)[B", sig := { parameters := [(.array .char), .int, .int], returnType := some (.array .byte) }, accessFlags := 9, code := some k8c2 }
def k8c3 : Code := { maxStack := 3, maxLocals := 7, code := jdk_52_method_21_code, exceptionTable := #[], attributes := #[] }
def k8m3 : Method := { name := "compress", desc := "([CI[BII)I", sig := { parameters := [(.array .char), .int, (.array .byte), .int, .int], returnType := some .int }, accessFlags := 9, code := some k8c3 }
/-- java/lang/StringUTF16 -/
def k8 : Class := { plain "java/lang/StringUTF16" (some 0) with
  accessFlags := 48
  interfaces := #[]
  cf := some (fileOf pool8 12 #[.nestMembers #[627, 629, 369]] #[{ accessFlags := 0, nameIndex := 9, descriptorIndex := 10, attributes := #[] }, { accessFlags := 8, nameIndex := 261, descriptorIndex := 262, attributes := #[] }, { accessFlags := 9, nameIndex := 117, descriptorIndex := 122, attributes := #[] }, { accessFlags := 9, nameIndex := 117, descriptorIndex := 118, attributes := #[] }] 48 6 #[] #[{ accessFlags := 26, nameIndex := 61, descriptorIndex := 62, attributes := #[] }, { accessFlags := 26, nameIndex := 65, descriptorIndex := 62, attributes := #[] }, { accessFlags := 24, nameIndex := 430, descriptorIndex := 62, attributes := #[] }, { accessFlags := 4120, nameIndex := 46, descriptorIndex := 47, attributes := #[] }])
  fields := #[{ name := "HI_BYTE_SHIFT", type := .int, accessFlags := 26, slot := 0, constantValue := 0 }, { name := "LO_BYTE_SHIFT", type := .int, accessFlags := 26, slot := 1, constantValue := 0 }, { name := "MAX_LENGTH", type := .int, accessFlags := 24, slot := 2, constantValue := 0 }, { name := "$assertionsDisabled", type := .boolean, accessFlags := 4120, slot := 3, constantValue := 0 }]
  methods := #[k8m0, k8m1, k8m2, k8m3]
  instanceTypes := #[]
  staticTypes := #[.int, .int, .int, .boolean]
  resolved := Array.replicate 635 none
  statics := none }

def pool9 : Array CpInfo := pool [(1, .class_ 2), (0, u "java/lang/String"), (1, .class_ 6), (1, u "java/lang/Object"), (0, u "<init>"), (0, u "()V"), (0, .methodref 1 10), (0, .nameAndType 11 12), (0, u "checkIndex"), (0, u "(II)V"), (1, .class_ 16), (1, u "java/lang/StringLatin1"), (36, u "([BI)C"), (36, u "canEncode"), (14, u "(C)Z"), (15, u "$assertionsDisabled"), (0, u "Z"), (98, .class_ 223), (1, u "java/lang/StringLatin1$LinesSpliterator"), (28, u "charAt"), (28, u "equals"), (0, u "([B[B)Z"), (97, u "toBytes"), (1, u "(C)[B"), (7, .class_ 391), (0, u "java/lang/StringLatin1$CharsSpliterator")] 3

def k9m0 : Method := { name := "<init>", desc := "()V", sig := { parameters := [], returnType := none }, accessFlags := 0, code := none }
def k9c1 : Code := { maxStack := 2, maxLocals := 2, code := jdk_43_method_2_code, exceptionTable := #[], attributes := #[] }
def k9m1 : Method := { name := "charAt", desc := "([BI)C", sig := { parameters := [(.array .byte), .int], returnType := some .char }, accessFlags := 9, code := some k9c1 }
def k9c2 : Code := { maxStack := 2, maxLocals := 1, code := jdk_43_method_3_code, exceptionTable := #[], attributes := #[] }
def k9m2 : Method := { name := "canEncode", desc := "(C)Z", sig := { parameters := [.char], returnType := some .boolean }, accessFlags := 9, code := some k9c2 }
def k9c3 : Code := { maxStack := 3, maxLocals := 3, code := jdk_43_method_13_code, exceptionTable := #[], attributes := #[] }
def k9m3 : Method := { name := "equals", desc := "([B[B)Z", sig := { parameters := [(.array .byte), (.array .byte)], returnType := some .boolean }, accessFlags := 9, code := some k9c3 }
def k9c4 : Code := { maxStack := 4, maxLocals := 1, code := jdk_43_method_46_code, exceptionTable := #[], attributes := #[] }
def k9m4 : Method := { name := "toBytes", desc := "(C)[B", sig := { parameters := [.char], returnType := some (.array .byte) }, accessFlags := 9, code := some k9c4 }
/-- java/lang/StringLatin1 -/
def k9 : Class := { plain "java/lang/StringLatin1" (some 0) with
  accessFlags := 48
  interfaces := #[]
  cf := some (fileOf pool9 14 #[.nestMembers #[390, 221]] #[{ accessFlags := 0, nameIndex := 7, descriptorIndex := 8, attributes := #[] }, { accessFlags := 9, nameIndex := 252, descriptorIndex := 53, attributes := #[] }, { accessFlags := 9, nameIndex := 90, descriptorIndex := 105, attributes := #[] }, { accessFlags := 9, nameIndex := 281, descriptorIndex := 282, attributes := #[] }, { accessFlags := 9, nameIndex := 380, descriptorIndex := 382, attributes := #[] }] 48 4 #[] #[{ accessFlags := 4120, nameIndex := 121, descriptorIndex := 122, attributes := #[] }])
  fields := #[{ name := "$assertionsDisabled", type := .boolean, accessFlags := 4120, slot := 0, constantValue := 0 }]
  methods := #[k9m0, k9m1, k9m2, k9m3, k9m4]
  instanceTypes := #[]
  staticTypes := #[.boolean]
  resolved := Array.replicate 395 none
  statics := none }

def pool10 : Array CpInfo := pool [(1, .methodref 2 3), (0, .class_ 4), (0, .nameAndType 5 6), (0, u "java/lang/Object"), (0, u "<init>"), (0, u "()V"), (0, .methodref 8 9), (0, .class_ 10), (0, .nameAndType 11 12), (0, u "com/example/kredential/kredential/Resource"), (0, u "isValidType"), (0, u "(Ljava/lang/String;)Z"), (4, u "TYPE_RULE"), (0, u "Ljava/lang/String;"), (3, .methodref 8 23), (0, .nameAndType 24 12), (0, u "isValidId"), (2, u "ID_RULE"), (0, .methodref 29 23), (0, .class_ 30), (0, u "com/example/kredential/kredential/Participant"), (1, .fieldref 8 33), (0, .nameAndType 34 18), (0, u "type"), (0, .fieldref 8 36), (0, .nameAndType 37 18), (0, u "id"), (0, .fieldref 8 39), (0, .nameAndType 40 18), (0, u "owner"), (0, .fieldref 8 42), (0, .nameAndType 43 44), (0, u "TYPE"), (0, u "Lcom/example/kredential/kredential/NameRule;"), (0, .methodref 46 47), (0, .class_ 48), (0, .nameAndType 49 12), (0, u "com/example/kredential/kredential/NameRule"), (0, u "accepts"), (0, .fieldref 8 51), (0, .nameAndType 52 44), (0, u "ID"), (12, .class_ 66), (0, u "java/lang/StringBuilder"), (0, .methodref 65 3), (0, .string 69), (0, u "Resource["), (0, .methodref 65 71), (0, .nameAndType 72 73), (0, u "append"), (0, u "(Ljava/lang/String;)Ljava/lang/StringBuilder;"), (0, .string 75), (0, u "/"), (0, .string 77), (0, u ", owner "), (0, .string 79), (0, u "]"), (0, .methodref 65 81), (0, .nameAndType 82 83), (0, u "toString"), (0, u "()Ljava/lang/String;"), (18, u "MAX_TYPE_LENGTH"), (0, u "I"), (2, u "MAX_ID_LENGTH"), (1, u "(Ljava/lang/String;Ljava/lang/String;Ljava/lang/String;)V")] 8

def k10c0 : Code := { maxStack := 3, maxLocals := 4, code := prog_25_method_1_code, exceptionTable := #[], attributes := #[] }
def k10m0 : Method := { name := "<init>", desc := "(Ljava/lang/String;Ljava/lang/String;Ljava/lang/String;)V", sig := { parameters := [(.object "java/lang/String"), (.object "java/lang/String"), (.object "java/lang/String")], returnType := none }, accessFlags := 1, code := some k10c0 }
def k10c1 : Code := { maxStack := 2, maxLocals := 1, code := prog_25_method_2_code, exceptionTable := #[], attributes := #[] }
def k10m1 : Method := { name := "isValidType", desc := "(Ljava/lang/String;)Z", sig := { parameters := [(.object "java/lang/String")], returnType := some .boolean }, accessFlags := 9, code := some k10c1 }
def k10c2 : Code := { maxStack := 2, maxLocals := 1, code := prog_25_method_3_code, exceptionTable := #[], attributes := #[] }
def k10m2 : Method := { name := "isValidId", desc := "(Ljava/lang/String;)Z", sig := { parameters := [(.object "java/lang/String")], returnType := some .boolean }, accessFlags := 9, code := some k10c2 }
def k10c3 : Code := { maxStack := 2, maxLocals := 1, code := prog_25_method_9_code, exceptionTable := #[], attributes := #[] }
def k10m3 : Method := { name := "toString", desc := "()Ljava/lang/String;", sig := { parameters := [], returnType := some (.object "java/lang/String") }, accessFlags := 1, code := some k10c3 }
/-- com/example/kredential/kredential/Resource -/
def k10 : Class := { plain "com/example/kredential/kredential/Resource" (some 0) with
  accessFlags := 49
  interfaces := #[]
  cf := some (fileOf pool10 8 #[] #[{ accessFlags := 1, nameIndex := 5, descriptorIndex := 108, attributes := #[] }, { accessFlags := 9, nameIndex := 11, descriptorIndex := 12, attributes := #[] }, { accessFlags := 9, nameIndex := 24, descriptorIndex := 12, attributes := #[] }, { accessFlags := 1, nameIndex := 82, descriptorIndex := 83, attributes := #[] }] 49 2 #[] #[{ accessFlags := 25, nameIndex := 102, descriptorIndex := 103, attributes := #[] }, { accessFlags := 25, nameIndex := 106, descriptorIndex := 103, attributes := #[] }, { accessFlags := 26, nameIndex := 43, descriptorIndex := 44, attributes := #[] }, { accessFlags := 26, nameIndex := 52, descriptorIndex := 44, attributes := #[] }, { accessFlags := 25, nameIndex := 17, descriptorIndex := 18, attributes := #[] }, { accessFlags := 25, nameIndex := 27, descriptorIndex := 18, attributes := #[] }, { accessFlags := 18, nameIndex := 34, descriptorIndex := 18, attributes := #[] }, { accessFlags := 18, nameIndex := 37, descriptorIndex := 18, attributes := #[] }, { accessFlags := 18, nameIndex := 40, descriptorIndex := 18, attributes := #[] }])
  fields := #[{ name := "MAX_TYPE_LENGTH", type := .int, accessFlags := 25, slot := 0, constantValue := 0 }, { name := "MAX_ID_LENGTH", type := .int, accessFlags := 25, slot := 1, constantValue := 0 }, { name := "TYPE", type := (.object "com/example/kredential/kredential/NameRule"), accessFlags := 26, slot := 2, constantValue := 0 }, { name := "ID", type := (.object "com/example/kredential/kredential/NameRule"), accessFlags := 26, slot := 3, constantValue := 0 }, { name := "TYPE_RULE", type := (.object "java/lang/String"), accessFlags := 25, slot := 4, constantValue := 0 }, { name := "ID_RULE", type := (.object "java/lang/String"), accessFlags := 25, slot := 5, constantValue := 0 }, { name := "type", type := (.object "java/lang/String"), accessFlags := 18, slot := 0, constantValue := 0 }, { name := "id", type := (.object "java/lang/String"), accessFlags := 18, slot := 1, constantValue := 0 }, { name := "owner", type := (.object "java/lang/String"), accessFlags := 18, slot := 2, constantValue := 0 }]
  methods := #[k10m0, k10m1, k10m2, k10m3]
  instanceTypes := #[(.object "java/lang/String"), (.object "java/lang/String"), (.object "java/lang/String")]
  staticTypes := #[.int, .int, (.object "com/example/kredential/kredential/NameRule"), (.object "com/example/kredential/kredential/NameRule"), (.object "java/lang/String"), (.object "java/lang/String")]
  resolved := Array.replicate 117 none
  statics := some 1 }

def pool11 : Array CpInfo := pool [(2, .class_ 4), (1, u "com/example/kredential/kredential/NameRule"), (3, .class_ 10), (1, u "java/lang/Object"), (1, .fieldref 2 13), (0, .nameAndType 14 15), (0, u "allowed"), (0, u "[Z"), (22, .class_ 40), (1, u "java/lang/String"), (11, u "()Z"), (0, .fieldref 2 54), (0, .nameAndType 55 56), (0, u "maxLength"), (0, u "I"), (0, .fieldref 2 58), (0, .nameAndType 59 60), (0, u "refusesDotSegments"), (0, u "Z"), (2, u "admitsPercentEncoded"), (13, u "description"), (0, u "Ljava/lang/String;"), (4, .methodref 38 84), (0, .nameAndType 85 52), (0, u "isEmpty"), (0, .methodref 38 87), (0, .nameAndType 88 89), (0, u "length"), (0, u "()I"), (0, .string 91), (0, u "."), (0, .methodref 38 93), (0, .nameAndType 94 95), (0, u "equals"), (0, u "(Ljava/lang/Object;)Z"), (0, .string 97), (0, u ".."), (0, .methodref 38 99), (0, .nameAndType 100 101), (0, u "charAt"), (0, u "(I)C"), (4, u "ID_CHARACTERS"), (1, u "ID_CHARACTERS_IN_WORDS"), (7, u "accepts"), (0, u "(Ljava/lang/String;)Z")] 2

def k11c0 : Code := { maxStack := 3, maxLocals := 4, code := prog_15_method_5_code, exceptionTable := #[], attributes := #[] }
def k11m0 : Method := { name := "accepts", desc := "(Ljava/lang/String;)Z", sig := { parameters := [(.object "java/lang/String")], returnType := some .boolean }, accessFlags := 0, code := some k11c0 }
/-- com/example/kredential/kredential/NameRule -/
def k11 : Class := { plain "com/example/kredential/kredential/NameRule" (some 0) with
  accessFlags := 48
  interfaces := #[]
  cf := some (fileOf pool11 2 #[] #[{ accessFlags := 0, nameIndex := 116, descriptorIndex := 117, attributes := #[] }] 48 8 #[] #[{ accessFlags := 26, nameIndex := 106, descriptorIndex := 78, attributes := #[] }, { accessFlags := 26, nameIndex := 108, descriptorIndex := 78, attributes := #[] }, { accessFlags := 18, nameIndex := 14, descriptorIndex := 15, attributes := #[] }, { accessFlags := 18, nameIndex := 55, descriptorIndex := 56, attributes := #[] }, { accessFlags := 18, nameIndex := 59, descriptorIndex := 60, attributes := #[] }, { accessFlags := 18, nameIndex := 63, descriptorIndex := 60, attributes := #[] }, { accessFlags := 18, nameIndex := 77, descriptorIndex := 78, attributes := #[] }])
  fields := #[{ name := "ID_CHARACTERS", type := (.object "java/lang/String"), accessFlags := 26, slot := 0, constantValue := 0 }, { name := "ID_CHARACTERS_IN_WORDS", type := (.object "java/lang/String"), accessFlags := 26, slot := 1, constantValue := 0 }, { name := "allowed", type := (.array .boolean), accessFlags := 18, slot := 0, constantValue := 0 }, { name := "maxLength", type := .int, accessFlags := 18, slot := 1, constantValue := 0 }, { name := "refusesDotSegments", type := .boolean, accessFlags := 18, slot := 2, constantValue := 0 }, { name := "admitsPercentEncoded", type := .boolean, accessFlags := 18, slot := 3, constantValue := 0 }, { name := "description", type := (.object "java/lang/String"), accessFlags := 18, slot := 4, constantValue := 0 }]
  methods := #[k11m0]
  instanceTypes := #[(.array .boolean), .int, .boolean, .boolean, (.object "java/lang/String")]
  staticTypes := #[(.object "java/lang/String"), (.object "java/lang/String")]
  resolved := Array.replicate 120 none
  statics := none }

def pool12 : Array CpInfo := pool [(2, .class_ 4), (1, u "java/lang/Object"), (0, u "<init>"), (0, u "()V"), (17, .class_ 26), (1, u "jdk/internal/util/Preconditions"), (6, u "checkIndex"), (21, .class_ 56), (0, u "jdk/internal/util/Preconditions$4"), (57, .class_ 115), (0, u "jdk/internal/util/Preconditions$1"), (7, u "SIOOBE_FORMATTER"), (0, u "Ljava/util/function/BiFunction;"), (0, .class_ 126), (0, u "jdk/internal/util/Preconditions$2"), (3, u "AIOOBE_FORMATTER"), (0, .class_ 132), (0, u "jdk/internal/util/Preconditions$3"), (3, u "IOOBE_FORMATTER"), (41, u "(IILjava/util/function/BiFunction;)I")] 15

def k12m0 : Method := { name := "<init>", desc := "()V", sig := { parameters := [], returnType := none }, accessFlags := 1, code := none }
def k12c1 : Code := { maxStack := 3, maxLocals := 3, code := jdk_41_method_11_code, exceptionTable := #[], attributes := #[] }
def k12m1 : Method := { name := "checkIndex", desc := "(IILjava/util/function/BiFunction;)I", sig := { parameters := [.int, .int, (.object "java/util/function/BiFunction")], returnType := some .int }, accessFlags := 9, code := some k12c1 }
/-- jdk/internal/util/Preconditions -/
def k12 : Class := { plain "jdk/internal/util/Preconditions" (some 0) with
  accessFlags := 33
  interfaces := #[]
  cf := some (fileOf pool12 24 #[.nestMembers #[55, 131, 125, 114]] #[{ accessFlags := 1, nameIndex := 5, descriptorIndex := 6, attributes := #[] }, { accessFlags := 9, nameIndex := 33, descriptorIndex := 178, attributes := #[] }] 33 2 #[] #[{ accessFlags := 25, nameIndex := 123, descriptorIndex := 124, attributes := #[] }, { accessFlags := 25, nameIndex := 130, descriptorIndex := 124, attributes := #[] }, { accessFlags := 25, nameIndex := 136, descriptorIndex := 124, attributes := #[] }])
  fields := #[{ name := "SIOOBE_FORMATTER", type := (.object "java/util/function/BiFunction"), accessFlags := 25, slot := 0, constantValue := 0 }, { name := "AIOOBE_FORMATTER", type := (.object "java/util/function/BiFunction"), accessFlags := 25, slot := 1, constantValue := 0 }, { name := "IOOBE_FORMATTER", type := (.object "java/util/function/BiFunction"), accessFlags := 25, slot := 2, constantValue := 0 }]
  methods := #[k12m0, k12m1]
  instanceTypes := #[]
  staticTypes := #[(.object "java/util/function/BiFunction"), (.object "java/util/function/BiFunction"), (.object "java/util/function/BiFunction")]
  resolved := Array.replicate 194 none
  statics := some 2 }

def pool13 : Array CpInfo := pool [(6, u "Lcom/example/kredential/kredential/Rights;"), (1, .class_ 10), (1, u "com/example/kredential/kredential/Participant"), (3, .class_ 16), (1, u "java/lang/Object"), (3, u "isValidId"), (0, u "(Ljava/lang/String;)Z"), (4, u "ID_RULE"), (0, u "Ljava/lang/String;"), (11, u "id"), (8, u "roles"), (0, u "Ljava/util/SortedSet;"), (1, u "rights"), (8, .fieldref 8 61), (0, .nameAndType 62 63), (0, u "ID"), (0, u "Lcom/example/kredential/kredential/NameRule;"), (0, .methodref 65 66), (0, .class_ 67), (0, .nameAndType 68 21), (0, u "com/example/kredential/kredential/NameRule"), (0, u "accepts"), (31, u "MAX_ID_LENGTH"), (0, u "I")] 25

def k13c0 : Code := { maxStack := 2, maxLocals := 1, code := prog_16_method_3_code, exceptionTable := #[], attributes := #[] }
def k13m0 : Method := { name := "isValidId", desc := "(Ljava/lang/String;)Z", sig := { parameters := [(.object "java/lang/String")], returnType := some .boolean }, accessFlags := 9, code := some k13c0 }
/-- com/example/kredential/kredential/Participant -/
def k13 : Class := { plain "com/example/kredential/kredential/Participant" (some 0) with
  accessFlags := 49
  interfaces := #[]
  cf := some (fileOf pool13 8 #[] #[{ accessFlags := 9, nameIndex := 20, descriptorIndex := 21, attributes := #[] }] 49 14 #[] #[{ accessFlags := 25, nameIndex := 100, descriptorIndex := 101, attributes := #[] }, { accessFlags := 26, nameIndex := 62, descriptorIndex := 63, attributes := #[] }, { accessFlags := 25, nameIndex := 26, descriptorIndex := 27, attributes := #[] }, { accessFlags := 18, nameIndex := 39, descriptorIndex := 27, attributes := #[] }, { accessFlags := 18, nameIndex := 48, descriptorIndex := 49, attributes := #[] }, { accessFlags := 18, nameIndex := 51, descriptorIndex := 6, attributes := #[] }])
  fields := #[{ name := "MAX_ID_LENGTH", type := .int, accessFlags := 25, slot := 0, constantValue := 0 }, { name := "ID", type := (.object "com/example/kredential/kredential/NameRule"), accessFlags := 26, slot := 1, constantValue := 0 }, { name := "ID_RULE", type := (.object "java/lang/String"), accessFlags := 25, slot := 2, constantValue := 0 }, { name := "id", type := (.object "java/lang/String"), accessFlags := 18, slot := 0, constantValue := 0 }, { name := "roles", type := (.object "java/util/SortedSet"), accessFlags := 18, slot := 1, constantValue := 0 }, { name := "rights", type := (.object "com/example/kredential/kredential/Rights"), accessFlags := 18, slot := 2, constantValue := 0 }]
  methods := #[k13m0]
  instanceTypes := #[(.object "java/lang/String"), (.object "java/util/SortedSet"), (.object "com/example/kredential/kredential/Rights")]
  staticTypes := #[.int, (.object "com/example/kredential/kredential/NameRule"), (.object "java/lang/String")]
  resolved := Array.replicate 127 none
  statics := some 3 }

def pool14 : Array CpInfo := pool [(1, .class_ 2), (0, u "java/lang/Appendable"), (0, .class_ 4), (0, u "java/lang/Object")] 9

/-- java/lang/Appendable -/
def k14 : Class := { plain "java/lang/Appendable" (some 0) with
  accessFlags := 1537
  interfaces := #[]
  cf := some (fileOf pool14 1 #[] #[] 1537 3 #[] #[])
  fields := #[]
  methods := #[]
  instanceTypes := #[]
  staticTypes := #[]
  resolved := Array.replicate 14 none
  statics := none }

def pool15 : Array CpInfo := pool [(1, .class_ 2), (0, u "java/lang/String"), (0, .methodref 4 5), (0, .class_ 6), (0, .nameAndType 7 8), (0, u "java/lang/Object"), (0, u "<init>"), (0, u "()V"), (1, .class_ 12), (1, u "java/lang/AbstractStringBuilder"), (0, u "EMPTYVALUE"), (0, u "[B"), (0, .fieldref 10 16), (0, .nameAndType 17 14), (0, u "value"), (0, .fieldref 1 19), (0, .nameAndType 20 21), (0, u "COMPACT_STRINGS"), (0, u "Z"), (0, .fieldref 10 23), (0, .nameAndType 24 25), (0, u "coder"), (0, u "B"), (6, .methodref 1 33), (0, .nameAndType 34 35), (0, u "length"), (0, u "()I"), (3, .integer 2147483647), (0, .methodref 1 41), (0, .nameAndType 24 42), (0, u "()B"), (2, u "append"), (0, u "(Ljava/lang/String;)Ljava/lang/AbstractStringBuilder;"), (1, .class_ 49), (0, u "java/lang/CharSequence"), (19, u "(Ljava/lang/String;)V"), (5, u "maybeLatin1"), (3, .fieldref 10 80), (0, .nameAndType 81 82), (0, u "count"), (0, u "I"), (2, u "isLatin1"), (0, u "()Z"), (13, .methodref 10 101), (0, .nameAndType 102 103), (0, u "ensureCapacityInternal"), (0, u "(I)V"), (0, .methodref 10 105), (0, .nameAndType 106 107), (0, u "newCapacity"), (0, u "(I)I"), (0, .methodref 109 110), (0, .class_ 111), (0, .nameAndType 112 113), (0, u "java/util/Arrays"), (0, u "copyOf"), (0, u "([BI)[B"), (0, .methodref 115 116), (0, .class_ 117), (0, .nameAndType 118 119), (0, u "jdk/internal/util/ArraysSupport"), (0, u "newLength"), (0, u "(III)I"), (88, .methodref 10 209), (0, .nameAndType 210 211), (0, u "putStringAt"), (0, u "(ILjava/lang/String;)V"), (5, u "inflateIfNeededFor"), (2, .nameAndType 221 222), (0, u "getBytes"), (0, u "([BIB)V"), (174, .methodref 10 398), (0, .nameAndType 217 69), (0, .methodref 1 220), (3, u "()[B"), (40, .class_ 445), (0, u "java/lang/Appendable"), (106, u "getValue")] 56

def k15m0 : Method := { name := "<init>", desc := "()V", sig := { parameters := [], returnType := none }, accessFlags := 0, code := none }
def k15c1 : Code := { maxStack := 2, maxLocals := 2, code := jdk_68_method_2_code, exceptionTable := #[], attributes := #[] }
def k15m1 : Method := { name := "<init>", desc := "(I)V", sig := { parameters := [.int], returnType := none }, accessFlags := 0, code := some k15c1 }
def k15c2 : Code := { maxStack := 1, maxLocals := 1, code := jdk_68_method_6_code, exceptionTable := #[], attributes := #[] }
def k15m2 : Method := { name := "length", desc := "()I", sig := { parameters := [], returnType := some .int }, accessFlags := 1, code := some k15c2 }
def k15c3 : Code := { maxStack := 4, maxLocals := 3, code := jdk_68_method_9_code, exceptionTable := #[], attributes := #[] }
def k15m3 : Method := { name := "ensureCapacityInternal", desc := "(I)V", sig := { parameters := [.int], returnType := none }, accessFlags := 2, code := some k15c3 }
def k15c4 : Code := { maxStack := 5, maxLocals := 6, code := jdk_68_method_10_code, exceptionTable := #[], attributes := #[] }
def k15m4 : Method := { name := "newCapacity", desc := "(I)I", sig := { parameters := [.int], returnType := some .int }, accessFlags := 2, code := some k15c4 }
def k15c5 : Code := { maxStack := 3, maxLocals := 3, code := jdk_68_method_22_code, exceptionTable := #[], attributes := #[] }
def k15m5 : Method := { name := "append", desc := "(Ljava/lang/String;)Ljava/lang/AbstractStringBuilder;", sig := { parameters := [(.object "java/lang/String")], returnType := some (.object "java/lang/AbstractStringBuilder") }, accessFlags := 1, code := some k15c5 }
def k15c6 : Code := { maxStack := 1, maxLocals := 1, code := jdk_68_method_64_code, exceptionTable := #[], attributes := #[] }
def k15m6 : Method := { name := "getValue", desc := "()[B", sig := { parameters := [], returnType := some (.array .byte) }, accessFlags := 16, code := some k15c6 }
def k15c7 : Code := { maxStack := 1, maxLocals := 1, code := jdk_68_method_68_code, exceptionTable := #[], attributes := #[] }
def k15m7 : Method := { name := "isLatin1", desc := "()Z", sig := { parameters := [], returnType := some .boolean }, accessFlags := 16, code := some k15c7 }
def k15c8 : Code := { maxStack := 2, maxLocals := 2, code := jdk_68_method_71_code, exceptionTable := #[], attributes := #[] }
def k15m8 : Method := { name := "inflateIfNeededFor", desc := "(Ljava/lang/String;)V", sig := { parameters := [(.object "java/lang/String")], returnType := none }, accessFlags := 2, code := some k15c8 }
def k15c9 : Code := { maxStack := 4, maxLocals := 3, code := jdk_68_method_73_code, exceptionTable := #[], attributes := #[] }
def k15m9 : Method := { name := "putStringAt", desc := "(ILjava/lang/String;)V", sig := { parameters := [.int, (.object "java/lang/String")], returnType := none }, accessFlags := 2, code := some k15c9 }
/-- java/lang/AbstractStringBuilder -/
def k15 : Class := { plain "java/lang/AbstractStringBuilder" (some 0) with
  accessFlags := 1056
  interfaces := #[14, 4]
  cf := some (fileOf pool15 10 #[] #[{ accessFlags := 0, nameIndex := 7, descriptorIndex := 8, attributes := #[] }, { accessFlags := 0, nameIndex := 7, descriptorIndex := 103, attributes := #[] }, { accessFlags := 1, nameIndex := 34, descriptorIndex := 35, attributes := #[] }, { accessFlags := 2, nameIndex := 102, descriptorIndex := 103, attributes := #[] }, { accessFlags := 2, nameIndex := 106, descriptorIndex := 107, attributes := #[] }, { accessFlags := 1, nameIndex := 45, descriptorIndex := 46, attributes := #[] }, { accessFlags := 16, nameIndex := 552, descriptorIndex := 403, attributes := #[] }, { accessFlags := 16, nameIndex := 85, descriptorIndex := 86, attributes := #[] }, { accessFlags := 2, nameIndex := 217, descriptorIndex := 69, attributes := #[] }, { accessFlags := 2, nameIndex := 210, descriptorIndex := 211, attributes := #[] }] 1056 4 #[444, 48] #[{ accessFlags := 0, nameIndex := 17, descriptorIndex := 14, attributes := #[] }, { accessFlags := 0, nameIndex := 24, descriptorIndex := 25, attributes := #[] }, { accessFlags := 0, nameIndex := 75, descriptorIndex := 21, attributes := #[] }, { accessFlags := 0, nameIndex := 81, descriptorIndex := 82, attributes := #[] }, { accessFlags := 26, nameIndex := 13, descriptorIndex := 14, attributes := #[] }])
  fields := #[{ name := "value", type := (.array .byte), accessFlags := 0, slot := 0, constantValue := 0 }, { name := "coder", type := .byte, accessFlags := 0, slot := 1, constantValue := 0 }, { name := "maybeLatin1", type := .boolean, accessFlags := 0, slot := 2, constantValue := 0 }, { name := "count", type := .int, accessFlags := 0, slot := 3, constantValue := 0 }, { name := "EMPTYVALUE", type := (.array .byte), accessFlags := 26, slot := 0, constantValue := 0 }]
  methods := #[k15m0, k15m1, k15m2, k15m3, k15m4, k15m5, k15m6, k15m7, k15m8, k15m9]
  instanceTypes := #[(.array .byte), .byte, .boolean, .int]
  staticTypes := #[(.array .byte)]
  resolved := Array.replicate 609 none
  statics := none }

def pool16 : Array CpInfo := pool [(1, .methodref 2 3), (0, .class_ 4), (0, .nameAndType 5 6), (0, u "java/lang/AbstractStringBuilder"), (0, u "<init>"), (0, u "(I)V"), (11, .class_ 20), (1, u "java/lang/String"), (3, .class_ 26), (1, u "java/lang/StringBuilder"), (0, u "append"), (0, u "(Ljava/lang/String;)Ljava/lang/StringBuilder;"), (0, .methodref 2 30), (0, .nameAndType 27 31), (0, u "(Ljava/lang/String;)Ljava/lang/AbstractStringBuilder;"), (105, .methodref 18 138), (0, .nameAndType 5 139), (0, u "(Ljava/lang/StringBuilder;)V"), (5, u "()V"), (10, u "()I"), (186, .methodref 2 344), (0, .nameAndType 345 156), (0, u "length"), (3, .class_ 350), (0, u "java/lang/Appendable"), (0, .class_ 352), (0, u "java/io/Serializable"), (0, .class_ 354), (0, u "java/lang/Comparable"), (0, .class_ 356), (0, u "java/lang/CharSequence"), (0, u "serialVersionUID"), (0, u "J"), (40, u "toString"), (0, u "()Ljava/lang/String;")] 21

def k16c0 : Code := { maxStack := 2, maxLocals := 1, code := jdk_67_method_1_code, exceptionTable := #[], attributes := #[] }
def k16m0 : Method := { name := "<init>", desc := "()V", sig := { parameters := [], returnType := none }, accessFlags := 1, code := some k16c0 }
def k16c1 : Code := { maxStack := 2, maxLocals := 2, code := jdk_67_method_7_code, exceptionTable := #[], attributes := #[] }
def k16m1 : Method := { name := "append", desc := "(Ljava/lang/String;)Ljava/lang/StringBuilder;", sig := { parameters := [(.object "java/lang/String")], returnType := some (.object "java/lang/StringBuilder") }, accessFlags := 1, code := some k16c1 }
def k16c2 : Code := { maxStack := 3, maxLocals := 1, code := jdk_67_method_42_code, exceptionTable := #[], attributes := #[] }
def k16m2 : Method := { name := "toString", desc := "()Ljava/lang/String;", sig := { parameters := [], returnType := some (.object "java/lang/String") }, accessFlags := 1, code := some k16c2 }
def k16c3 : Code := { maxStack := 1, maxLocals := 1, code := jdk_67_method_93_code, exceptionTable := #[], attributes := #[] }
def k16m3 : Method := { name := "length", desc := "()I", sig := { parameters := [], returnType := some .int }, accessFlags := 4161, code := some k16c3 }
/-- java/lang/StringBuilder -/
def k16 : Class := { plain "java/lang/StringBuilder" (some 15) with
  accessFlags := 49
  interfaces := #[14, 2, 3, 4]
  cf := some (fileOf pool16 24 #[] #[{ accessFlags := 1, nameIndex := 5, descriptorIndex := 145, attributes := #[] }, { accessFlags := 1, nameIndex := 27, descriptorIndex := 28, attributes := #[] }, { accessFlags := 1, nameIndex := 399, descriptorIndex := 400, attributes := #[] }, { accessFlags := 4161, nameIndex := 345, descriptorIndex := 156, attributes := #[] }] 49 2 #[349, 351, 353, 355] #[{ accessFlags := 24, nameIndex := 357, descriptorIndex := 358, attributes := #[] }])
  fields := #[{ name := "serialVersionUID", type := .long, accessFlags := 24, slot := 0, constantValue := 0 }]
  methods := #[k16m0, k16m1, k16m2, k16m3]
  instanceTypes := #[(.array .byte), .byte, .boolean, .int]
  staticTypes := #[.long]
  resolved := Array.replicate 422 none
  statics := none }

def pool17 : Array CpInfo := pool [(2, .class_ 4), (1, u "java/lang/Object"), (0, u "<init>"), (0, u "()V"), (1, .class_ 10), (1, u "java/lang/System"), (0, u "allowSecurityManager"), (0, u "I"), (16, u "cons"), (0, u "Ljava/io/Console;"), (77, .class_ 110), (1, u "java/lang/System$CallersHolder"), (43, u "initialErrStream"), (0, u "Ljava/io/PrintStream;"), (19, u "security"), (0, u "Ljava/lang/SecurityManager;"), (31, .class_ 209), (0, u "java/lang/System$1"), (7, u "props"), (0, u "Ljava/util/Properties;"), (2, u "lineSeparator"), (0, u "Ljava/lang/String;"), (96, .class_ 321), (1, u "java/lang/System$LoggerFinder"), (5, .class_ 328), (0, u "java/lang/System$Logger"), (67, u "err"), (2, u "out"), (91, u "notSupportedJnuEncoding"), (15, u "in"), (17, u "initialIn"), (0, u "Ljava/io/InputStream;"), (35, u "bootLayer"), (0, u "Ljava/lang/ModuleLayer;"), (99, .class_ 664), (0, u "java/lang/System$2"), (9, u "NEVER"), (2, u "MAYBE"), (49, u "arraycopy"), (0, u "(Ljava/lang/Object;ILjava/lang/Object;II)V"), (72, .class_ 802), (0, u "java/lang/System$Logger$Level")] 31

def k17m0 : Method := { name := "<init>", desc := "()V", sig := { parameters := [], returnType := none }, accessFlags := 2, code := none }
def k17m1 : Method := { name := "arraycopy", desc := "(Ljava/lang/Object;ILjava/lang/Object;II)V", sig := { parameters := [(.object "java/lang/Object"), .int, (.object "java/lang/Object"), .int, .int], returnType := none }, accessFlags := 265, code := none }
/-- java/lang/System -/
def k17 : Class := { plain "java/lang/System" (some 0) with
  accessFlags := 49
  interfaces := #[]
  cf := some (fileOf pool17 8 #[.nestMembers #[319, 327, 801, 108, 663, 208]] #[{ accessFlags := 2, nameIndex := 5, descriptorIndex := 6, attributes := #[] }, { accessFlags := 265, nameIndex := 727, descriptorIndex := 728, attributes := #[] }] 49 2 #[] #[{ accessFlags := 25, nameIndex := 507, descriptorIndex := 526, attributes := #[] }, { accessFlags := 25, nameIndex := 399, descriptorIndex := 155, attributes := #[] }, { accessFlags := 25, nameIndex := 396, descriptorIndex := 155, attributes := #[] }, { accessFlags := 10, nameIndex := 525, descriptorIndex := 526, attributes := #[] }, { accessFlags := 26, nameIndex := 674, descriptorIndex := 12, attributes := #[] }, { accessFlags := 26, nameIndex := 677, descriptorIndex := 12, attributes := #[] }, { accessFlags := 10, nameIndex := 11, descriptorIndex := 12, attributes := #[] }, { accessFlags := 74, nameIndex := 175, descriptorIndex := 176, attributes := #[] }, { accessFlags := 10, nameIndex := 491, descriptorIndex := 222, attributes := #[] }, { accessFlags := 74, nameIndex := 29, descriptorIndex := 30, attributes := #[] }, { accessFlags := 74, nameIndex := 154, descriptorIndex := 155, attributes := #[] }, { accessFlags := 10, nameIndex := 217, descriptorIndex := 218, attributes := #[] }, { accessFlags := 10, nameIndex := 221, descriptorIndex := 222, attributes := #[] }, { accessFlags := 8, nameIndex := 562, descriptorIndex := 563, attributes := #[] }])
  fields := #[{ name := "in", type := (.object "java/io/InputStream"), accessFlags := 25, slot := 0, constantValue := 0 }, { name := "out", type := (.object "java/io/PrintStream"), accessFlags := 25, slot := 1, constantValue := 0 }, { name := "err", type := (.object "java/io/PrintStream"), accessFlags := 25, slot := 2, constantValue := 0 }, { name := "initialIn", type := (.object "java/io/InputStream"), accessFlags := 10, slot := 3, constantValue := 0 }, { name := "NEVER", type := .int, accessFlags := 26, slot := 4, constantValue := 0 }, { name := "MAYBE", type := .int, accessFlags := 26, slot := 5, constantValue := 0 }, { name := "allowSecurityManager", type := .int, accessFlags := 10, slot := 6, constantValue := 0 }, { name := "security", type := (.object "java/lang/SecurityManager"), accessFlags := 74, slot := 7, constantValue := 0 }, { name := "notSupportedJnuEncoding", type := (.object "java/lang/String"), accessFlags := 10, slot := 8, constantValue := 0 }, { name := "cons", type := (.object "java/io/Console"), accessFlags := 74, slot := 9, constantValue := 0 }, { name := "initialErrStream", type := (.object "java/io/PrintStream"), accessFlags := 74, slot := 10, constantValue := 0 }, { name := "props", type := (.object "java/util/Properties"), accessFlags := 10, slot := 11, constantValue := 0 }, { name := "lineSeparator", type := (.object "java/lang/String"), accessFlags := 10, slot := 12, constantValue := 0 }, { name := "bootLayer", type := (.object "java/lang/ModuleLayer"), accessFlags := 8, slot := 13, constantValue := 0 }]
  methods := #[k17m0, k17m1]
  instanceTypes := #[]
  staticTypes := #[(.object "java/io/InputStream"), (.object "java/io/PrintStream"), (.object "java/io/PrintStream"), (.object "java/io/InputStream"), .int, .int, .int, (.object "java/lang/SecurityManager"), (.object "java/lang/String"), (.object "java/io/Console"), (.object "java/io/PrintStream"), (.object "java/util/Properties"), (.object "java/lang/String"), (.object "java/lang/ModuleLayer")]
  resolved := Array.replicate 834 none
  statics := none }

def pool18 : Array CpInfo := pool [(9, u "<init>"), (6, .class_ 18), (1, u "java/lang/Object"), (0, u "()V"), (1, .class_ 23), (1, u "jdk/internal/util/ArraysSupport"), (0, u "LOG2_ARRAY_LONG_INDEX_SCALE"), (0, u "I"), (2, u "U"), (0, u "Ljdk/internal/misc/Unsafe;"), (8, u "BIG_ENDIAN"), (0, u "Z"), (8, u "LOG2_BYTE_BIT_SIZE"), (4, u "LOG2_ARRAY_INT_INDEX_SCALE"), (54, u "JLA"), (0, u "Ljdk/internal/access/JavaLangAccess;"), (11, u "LOG2_ARRAY_BOOLEAN_INDEX_SCALE"), (9, u "LOG2_ARRAY_BYTE_INDEX_SCALE"), (5, u "LOG2_ARRAY_CHAR_INDEX_SCALE"), (5, u "LOG2_ARRAY_SHORT_INDEX_SCALE"), (18, u "LOG2_ARRAY_FLOAT_INDEX_SCALE"), (24, u "LOG2_ARRAY_DOUBLE_INDEX_SCALE"), (6, .methodref 195 196), (0, .class_ 197), (0, .nameAndType 198 199), (0, u "java/lang/Math"), (0, u "max"), (0, u "(II)I"), (0, .integer 2147483639), (76, u "T_BOOLEAN"), (2, u "T_CHAR"), (1, u "T_FLOAT"), (1, u "T_DOUBLE"), (1, u "T_BYTE"), (1, u "T_SHORT"), (1, u "T_INT"), (1, u "T_LONG"), (1, u "SOFT_MAX_ARRAY_LENGTH"), (56, u "newLength"), (0, u "(III)I")] 25

def k18m0 : Method := { name := "<init>", desc := "()V", sig := { parameters := [], returnType := none }, accessFlags := 2, code := none }
def k18c1 : Code := { maxStack := 3, maxLocals := 4, code := jdk_48_method_27_code, exceptionTable := #[], attributes := #[] }
def k18m1 : Method := { name := "newLength", desc := "(III)I", sig := { parameters := [.int, .int, .int], returnType := some .int }, accessFlags := 9, code := some k18c1 }
/-- jdk/internal/util/ArraysSupport -/
def k18 : Class := { plain "jdk/internal/util/ArraysSupport" (some 0) with
  accessFlags := 33
  interfaces := #[]
  cf := some (fileOf pool18 21 #[] #[{ accessFlags := 2, nameIndex := 9, descriptorIndex := 19, attributes := #[] }, { accessFlags := 9, nameIndex := 351, descriptorIndex := 352, attributes := #[] }] 33 16 #[] #[{ accessFlags := 24, nameIndex := 28, descriptorIndex := 29, attributes := #[] }, { accessFlags := 26, nameIndex := 38, descriptorIndex := 39, attributes := #[] }, { accessFlags := 25, nameIndex := 121, descriptorIndex := 25, attributes := #[] }, { accessFlags := 25, nameIndex := 131, descriptorIndex := 25, attributes := #[] }, { accessFlags := 25, nameIndex := 137, descriptorIndex := 25, attributes := #[] }, { accessFlags := 25, nameIndex := 143, descriptorIndex := 25, attributes := #[] }, { accessFlags := 25, nameIndex := 53, descriptorIndex := 25, attributes := #[] }, { accessFlags := 25, nameIndex := 24, descriptorIndex := 25, attributes := #[] }, { accessFlags := 25, nameIndex := 162, descriptorIndex := 25, attributes := #[] }, { accessFlags := 25, nameIndex := 187, descriptorIndex := 25, attributes := #[] }, { accessFlags := 26, nameIndex := 48, descriptorIndex := 25, attributes := #[] }, { accessFlags := 25, nameIndex := 277, descriptorIndex := 25, attributes := #[] }, { accessFlags := 25, nameIndex := 280, descriptorIndex := 25, attributes := #[] }, { accessFlags := 25, nameIndex := 282, descriptorIndex := 25, attributes := #[] }, { accessFlags := 25, nameIndex := 284, descriptorIndex := 25, attributes := #[] }, { accessFlags := 25, nameIndex := 286, descriptorIndex := 25, attributes := #[] }, { accessFlags := 25, nameIndex := 288, descriptorIndex := 25, attributes := #[] }, { accessFlags := 25, nameIndex := 290, descriptorIndex := 25, attributes := #[] }, { accessFlags := 25, nameIndex := 292, descriptorIndex := 25, attributes := #[] }, { accessFlags := 26, nameIndex := 108, descriptorIndex := 109, attributes := #[] }, { accessFlags := 25, nameIndex := 294, descriptorIndex := 25, attributes := #[] }])
  fields := #[{ name := "U", type := (.object "jdk/internal/misc/Unsafe"), accessFlags := 24, slot := 0, constantValue := 0 }, { name := "BIG_ENDIAN", type := .boolean, accessFlags := 26, slot := 1, constantValue := 0 }, { name := "LOG2_ARRAY_BOOLEAN_INDEX_SCALE", type := .int, accessFlags := 25, slot := 2, constantValue := 0 }, { name := "LOG2_ARRAY_BYTE_INDEX_SCALE", type := .int, accessFlags := 25, slot := 3, constantValue := 0 }, { name := "LOG2_ARRAY_CHAR_INDEX_SCALE", type := .int, accessFlags := 25, slot := 4, constantValue := 0 }, { name := "LOG2_ARRAY_SHORT_INDEX_SCALE", type := .int, accessFlags := 25, slot := 5, constantValue := 0 }, { name := "LOG2_ARRAY_INT_INDEX_SCALE", type := .int, accessFlags := 25, slot := 6, constantValue := 0 }, { name := "LOG2_ARRAY_LONG_INDEX_SCALE", type := .int, accessFlags := 25, slot := 7, constantValue := 0 }, { name := "LOG2_ARRAY_FLOAT_INDEX_SCALE", type := .int, accessFlags := 25, slot := 8, constantValue := 0 }, { name := "LOG2_ARRAY_DOUBLE_INDEX_SCALE", type := .int, accessFlags := 25, slot := 9, constantValue := 0 }, { name := "LOG2_BYTE_BIT_SIZE", type := .int, accessFlags := 26, slot := 10, constantValue := 0 }, { name := "T_BOOLEAN", type := .int, accessFlags := 25, slot := 11, constantValue := 0 }, { name := "T_CHAR", type := .int, accessFlags := 25, slot := 12, constantValue := 0 }, { name := "T_FLOAT", type := .int, accessFlags := 25, slot := 13, constantValue := 0 }, { name := "T_DOUBLE", type := .int, accessFlags := 25, slot := 14, constantValue := 0 }, { name := "T_BYTE", type := .int, accessFlags := 25, slot := 15, constantValue := 0 }, { name := "T_SHORT", type := .int, accessFlags := 25, slot := 16, constantValue := 0 }, { name := "T_INT", type := .int, accessFlags := 25, slot := 17, constantValue := 0 }, { name := "T_LONG", type := .int, accessFlags := 25, slot := 18, constantValue := 0 }, { name := "JLA", type := (.object "jdk/internal/access/JavaLangAccess"), accessFlags := 26, slot := 19, constantValue := 0 }, { name := "SOFT_MAX_ARRAY_LENGTH", type := .int, accessFlags := 25, slot := 20, constantValue := 0 }]
  methods := #[k18m0, k18m1]
  instanceTypes := #[]
  staticTypes := #[(.object "jdk/internal/misc/Unsafe"), .boolean, .int, .int, .int, .int, .int, .int, .int, .int, .int, .int, .int, .int, .int, .int, .int, .int, .int, (.object "jdk/internal/access/JavaLangAccess"), .int]
  resolved := Array.replicate 378 none
  statics := none }

def pool19 : Array CpInfo := pool [(1, .class_ 2), (0, u "java/lang/Math"), (1, .class_ 6), (1, u "java/lang/Object"), (0, u "<init>"), (0, u "()V"), (89, .class_ 100), (1, u "java/lang/Math$RandomNumberGeneratorHolder"), (71, u "negativeZeroFloatBits"), (0, u "J"), (2, u "negativeZeroDoubleBits"), (21, u "max"), (2, u "min"), (43, u "$assertionsDisabled"), (0, u "Z"), (88, u "(II)I"), (2, u "twoToTheDoubleScaleDown"), (0, u "D"), (4, u "twoToTheDoubleScaleUp"), (9, u "E"), (3, u "PI"), (2, u "TAU"), (2, u "DEGREES_TO_RADIANS"), (0, u "RADIANS_TO_DEGREES")] 94

def k19m0 : Method := { name := "<init>", desc := "()V", sig := { parameters := [], returnType := none }, accessFlags := 2, code := none }
def k19c1 : Code := { maxStack := 2, maxLocals := 2, code := jdk_29_method_65_code, exceptionTable := #[], attributes := #[] }
def k19m1 : Method := { name := "max", desc := "(II)I", sig := { parameters := [.int, .int], returnType := some .int }, accessFlags := 9, code := some k19c1 }
def k19c2 : Code := { maxStack := 2, maxLocals := 2, code := jdk_29_method_69_code, exceptionTable := #[], attributes := #[] }
def k19m2 : Method := { name := "min", desc := "(II)I", sig := { parameters := [.int, .int], returnType := some .int }, accessFlags := 9, code := some k19c2 }
/-- java/lang/Math -/
def k19 : Class := { plain "java/lang/Math" (some 0) with
  accessFlags := 49
  interfaces := #[]
  cf := some (fileOf pool19 1 #[.nestMembers #[98]] #[{ accessFlags := 2, nameIndex := 7, descriptorIndex := 8, attributes := #[] }, { accessFlags := 9, nameIndex := 198, descriptorIndex := 335, attributes := #[] }, { accessFlags := 9, nameIndex := 201, descriptorIndex := 335, attributes := #[] }] 49 4 #[] #[{ accessFlags := 25, nameIndex := 354, descriptorIndex := 339, attributes := #[] }, { accessFlags := 25, nameIndex := 358, descriptorIndex := 339, attributes := #[] }, { accessFlags := 25, nameIndex := 361, descriptorIndex := 339, attributes := #[] }, { accessFlags := 26, nameIndex := 364, descriptorIndex := 339, attributes := #[] }, { accessFlags := 26, nameIndex := 365, descriptorIndex := 339, attributes := #[] }, { accessFlags := 26, nameIndex := 172, descriptorIndex := 173, attributes := #[] }, { accessFlags := 26, nameIndex := 176, descriptorIndex := 173, attributes := #[] }, { accessFlags := 8, nameIndex := 344, descriptorIndex := 339, attributes := #[] }, { accessFlags := 8, nameIndex := 338, descriptorIndex := 339, attributes := #[] }, { accessFlags := 4120, nameIndex := 245, descriptorIndex := 246, attributes := #[] }])
  fields := #[{ name := "E", type := .double, accessFlags := 25, slot := 0, constantValue := 0 }, { name := "PI", type := .double, accessFlags := 25, slot := 1, constantValue := 0 }, { name := "TAU", type := .double, accessFlags := 25, slot := 2, constantValue := 0 }, { name := "DEGREES_TO_RADIANS", type := .double, accessFlags := 26, slot := 3, constantValue := 0 }, { name := "RADIANS_TO_DEGREES", type := .double, accessFlags := 26, slot := 4, constantValue := 0 }, { name := "negativeZeroFloatBits", type := .long, accessFlags := 26, slot := 5, constantValue := 0 }, { name := "negativeZeroDoubleBits", type := .long, accessFlags := 26, slot := 6, constantValue := 0 }, { name := "twoToTheDoubleScaleUp", type := .double, accessFlags := 8, slot := 7, constantValue := 0 }, { name := "twoToTheDoubleScaleDown", type := .double, accessFlags := 8, slot := 8, constantValue := 0 }, { name := "$assertionsDisabled", type := .boolean, accessFlags := 4120, slot := 9, constantValue := 0 }]
  methods := #[k19m0, k19m1, k19m2]
  instanceTypes := #[]
  staticTypes := #[.double, .double, .double, .double, .double, .long, .long, .double, .double, .boolean]
  resolved := Array.replicate 460 none
  statics := none }

def pool20 : Array CpInfo := pool [(2, .class_ 4), (1, u "java/lang/Object"), (0, u "<init>"), (0, u "()V"), (7, .class_ 16), (1, u "java/util/Arrays"), (57, .class_ 76), (1, u "java/util/Arrays$NaturalOrder"), (36, .class_ 115), (1, u "java/util/Arrays$LegacyMergeSort"), (1, u "Z"), (21, u "copyOfRange"), (10, .methodref 151 152), (0, .class_ 153), (0, .nameAndType 154 155), (0, u "java/lang/System"), (0, u "arraycopy"), (0, u "(Ljava/lang/Object;ILjava/lang/Object;II)V"), (146, u "copyOf"), (1, .methodref 305 306), (0, .class_ 307), (0, .nameAndType 308 309), (0, u "java/lang/Math"), (0, u "min"), (0, u "(II)I"), (29, .methodref 14 340), (0, .nameAndType 341 342), (0, u "copyOfRangeByte"), (0, u "([BII)[B"), (0, .methodref 14 344), (0, .nameAndType 345 346), (0, u "checkLength"), (0, u "(II)V"), (28, .class_ 376), (0, u "java/util/Arrays$ArrayList"), (68, u "$assertionsDisabled"), (269, u "MIN_ARRAY_SORT_GRAN"), (0, u "I"), (2, u "INSERTIONSORT_THRESHOLD"), (149, u "([BI)[B"), (105, .class_ 976), (0, u "java/util/Arrays$ArrayItr")] 52

def k20m0 : Method := { name := "<init>", desc := "()V", sig := { parameters := [], returnType := none }, accessFlags := 2, code := none }
def k20c1 : Code := { maxStack := 6, maxLocals := 3, code := jdk_65_method_121_code, exceptionTable := #[], attributes := #[] }
def k20m1 : Method := { name := "copyOf", desc := "([BI)[B", sig := { parameters := [(.array .byte), .int], returnType := some (.array .byte) }, accessFlags := 9, code := some k20c1 }
def k20c2 : Code := { maxStack := 4, maxLocals := 2, code := jdk_65_method_131_code, exceptionTable := #[], attributes := #[] }
def k20m2 : Method := { name := "checkLength", desc := "(II)V", sig := { parameters := [.int, .int], returnType := none }, accessFlags := 10, code := some k20c2 }
def k20c3 : Code := { maxStack := 3, maxLocals := 3, code := jdk_65_method_132_code, exceptionTable := #[], attributes := #[] }
def k20m3 : Method := { name := "copyOfRange", desc := "([BII)[B", sig := { parameters := [(.array .byte), .int, .int], returnType := some (.array .byte) }, accessFlags := 9, code := some k20c3 }
def k20c4 : Code := { maxStack := 6, maxLocals := 5, code := jdk_65_method_133_code, exceptionTable := #[], attributes := #[] }
def k20m4 : Method := { name := "copyOfRangeByte", desc := "([BII)[B", sig := { parameters := [(.array .byte), .int, .int], returnType := some (.array .byte) }, accessFlags := 10, code := some k20c4 }
/-- java/util/Arrays -/
def k20 : Class := { plain "java/util/Arrays" (some 0) with
  accessFlags := 49
  interfaces := #[]
  cf := some (fileOf pool20 14 #[.nestMembers #[975, 375, 113, 74]] #[{ accessFlags := 2, nameIndex := 5, descriptorIndex := 6, attributes := #[] }, { accessFlags := 9, nameIndex := 302, descriptorIndex := 869, attributes := #[] }, { accessFlags := 10, nameIndex := 345, descriptorIndex := 346, attributes := #[] }, { accessFlags := 9, nameIndex := 139, descriptorIndex := 342, attributes := #[] }, { accessFlags := 10, nameIndex := 341, descriptorIndex := 342, attributes := #[] }] 49 2 #[] #[{ accessFlags := 26, nameIndex := 715, descriptorIndex := 716, attributes := #[] }, { accessFlags := 26, nameIndex := 719, descriptorIndex := 716, attributes := #[] }, { accessFlags := 4120, nameIndex := 445, descriptorIndex := 117, attributes := #[] }])
  fields := #[{ name := "MIN_ARRAY_SORT_GRAN", type := .int, accessFlags := 26, slot := 0, constantValue := 0 }, { name := "INSERTIONSORT_THRESHOLD", type := .int, accessFlags := 26, slot := 1, constantValue := 0 }, { name := "$assertionsDisabled", type := .boolean, accessFlags := 4120, slot := 2, constantValue := 0 }]
  methods := #[k20m0, k20m1, k20m2, k20m3, k20m4]
  instanceTypes := #[]
  staticTypes := #[.int, .int, .boolean]
  resolved := Array.replicate 1029 none
  statics := none }

def pool21 : Array CpInfo := pool [(1, u "java/lang/Cloneable"), (0, .class_ 1), (0, u "java/lang/Object"), (0, .class_ 3)] 3

/-- java/lang/Cloneable -/
def k21 : Class := { plain "java/lang/Cloneable" (some 0) with
  accessFlags := 1537
  interfaces := #[]
  cf := some (fileOf pool21 2 #[] #[] 1537 4 #[] #[])
  fields := #[]
  methods := #[]
  instanceTypes := #[]
  staticTypes := #[]
  resolved := Array.replicate 8 none
  statics := none }

/-- the primitive boolean -/
def k22 : Class := { plain "boolean" none with kind := .primitive 'Z', accessFlags := 0x411 }
/-- [Z -/
def k23 : Class := { plain "[Z" (some 0) with kind := .array 22 .boolean, interfaces := #[21, 2], accessFlags := 1041 }

/-- the primitive byte -/
def k24 : Class := { plain "byte" none with kind := .primitive 'B', accessFlags := 0x411 }
/-- [B -/
def k25 : Class := { plain "[B" (some 0) with kind := .array 24 .byte, interfaces := #[21, 2], accessFlags := 1041 }

/-- the primitive char -/
def k26 : Class := { plain "char" none with kind := .primitive 'C', accessFlags := 0x411 }
/-- [C -/
def k27 : Class := { plain "[C" (some 0) with kind := .array 26 .char, interfaces := #[21, 2], accessFlags := 1041 }

/-- the primitive int -/
def k28 : Class := { plain "int" none with kind := .primitive 'I', accessFlags := 0x411 }
/-- [I -/
def k29 : Class := { plain "[I" (some 0) with kind := .array 28 .int, interfaces := #[21, 2], accessFlags := 1041 }

def heap : Heap := #[{ cls := 7, slots := #[.long 0, .int 1, .null, .int 0, .null, .int 0, .int 0], vm := .statics 7 },
  { cls := 10, slots := #[.int 0, .int 0, .ref 4, .ref 5, .null, .null], vm := .statics 10 },
  { cls := 12, slots := #[.null, .null, .null], vm := .statics 12 },
  { cls := 13, slots := #[.int 0, .ref 6, .null], vm := .statics 13 },
  { cls := 11, slots := #[.ref 7, .int 64, .int 0, .int 0, .null], vm := .none },
  { cls := 11, slots := #[.ref 8, .int 128, .int 1, .int 0, .null], vm := .none },
  { cls := 11, slots := #[.ref 8, .int 128, .int 1, .int 0, .null], vm := .none },
  { cls := 23, slots := #[.int 0, .int 0, .int 0, .int 0, .int 0, .int 0, .int 0, .int 0, .int 0, .int 0, .int 0, .int 0, .int 0, .int 0, .int 0, .int 0, .int 0, .int 0, .int 0, .int 0, .int 0, .int 0, .int 0, .int 0, .int 0, .int 0, .int 0, .int 0, .int 0, .int 0, .int 0, .int 0, .int 0, .int 0, .int 0, .int 0, .int 0, .int 0, .int 0, .int 0, .int 0, .int 0, .int 0, .int 0, .int 0, .int 1, .int 0, .int 0, .int 1, .int 1, .int 1, .int 1, .int 1, .int 1, .int 1, .int 1, .int 1, .int 1, .int 0, .int 0, .int 0, .int 0, .int 0, .int 0, .int 0, .int 0, .int 0, .int 0, .int 0, .int 0, .int 0, .int 0, .int 0, .int 0, .int 0, .int 0, .int 0, .int 0, .int 0, .int 0, .int 0, .int 0, .int 0, .int 0, .int 0, .int 0, .int 0, .int 0, .int 0, .int 0, .int 0, .int 0, .int 0, .int 0, .int 0, .int 0, .int 0, .int 1, .int 1, .int 1, .int 1, .int 1, .int 1, .int 1, .int 1, .int 1, .int 1, .int 1, .int 1, .int 1, .int 1, .int 1, .int 1, .int 1, .int 1, .int 1, .int 1, .int 1, .int 1, .int 1, .int 1, .int 1, .int 1, .int 0, .int 0, .int 0, .int 0, .int 0], vm := .none },
  { cls := 23, slots := #[.int 0, .int 0, .int 0, .int 0, .int 0, .int 0, .int 0, .int 0, .int 0, .int 0, .int 0, .int 0, .int 0, .int 0, .int 0, .int 0, .int 0, .int 0, .int 0, .int 0, .int 0, .int 0, .int 0, .int 0, .int 0, .int 0, .int 0, .int 0, .int 0, .int 0, .int 0, .int 0, .int 0, .int 0, .int 0, .int 0, .int 0, .int 0, .int 0, .int 0, .int 0, .int 0, .int 0, .int 0, .int 0, .int 1, .int 1, .int 0, .int 1, .int 1, .int 1, .int 1, .int 1, .int 1, .int 1, .int 1, .int 1, .int 1, .int 1, .int 0, .int 0, .int 0, .int 0, .int 0, .int 0, .int 1, .int 1, .int 1, .int 1, .int 1, .int 1, .int 1, .int 1, .int 1, .int 1, .int 1, .int 1, .int 1, .int 1, .int 1, .int 1, .int 1, .int 1, .int 1, .int 1, .int 1, .int 1, .int 1, .int 1, .int 1, .int 1, .int 0, .int 0, .int 0, .int 0, .int 1, .int 0, .int 1, .int 1, .int 1, .int 1, .int 1, .int 1, .int 1, .int 1, .int 1, .int 1, .int 1, .int 1, .int 1, .int 1, .int 1, .int 1, .int 1, .int 1, .int 1, .int 1, .int 1, .int 1, .int 1, .int 1, .int 1, .int 1, .int 0, .int 0, .int 0, .int 0, .int 0], vm := .none }]
def classes : Array Class := #[k0, k1, k2, k3, k4, k5, k6, k7, k8, k9, k10, k11, k12, k13, k14, k15, k16, k17, k18, k19, k20, k21, k22, k23, k24, k25, k26, k27, k28, k29]
def interned : List (Array UInt16 × Addr) := []
def slotsUsed : Nat := 290
def theMethod : MethodId := ⟨1, 5⟩
def args0 : Array Value := #[.int 5, .int 7, .int 9, .int 3]
def aboutOver (below : List Frame) : State where
  vm := { classes := classes, interned := interned.toArray }
  heap := heap
  slotsUsed := slotsUsed
  threads := #[{ frames := .invoking theMethod args0 :: below }]
def below0 : List Frame := [.native { method := ⟨0, 0⟩, args := #[] }]
def about1 : State := aboutOver below0
def p0 : Program := .bare "" "" ""
def e0 : Env := launch0.env 0 0 0
theorem w_frames : about1.frames = Frame.invoking theMethod args0 :: below0 := rfl
set_option maxRecDepth 65536 in
theorem w_args : argsFit about1.vm theMethod args0 = true := by decide +kernel
set_option maxRecDepth 65536 in
theorem w_heap : heapFits about1 = true := by decide +kernel
set_option maxRecDepth 65536 in
theorem w_runnable : about1.curStatus? = some .runnable := by decide +kernel
set_option maxRecDepth 65536 in
theorem w_alone : about1.alone = true := by decide +kernel
set_option maxRecDepth 65536 in
theorem w_named : about1.methodNamed? x = some theMethod := by decide +kernel
set_option maxRecDepth 65536 in
theorem w_hears : about1.hears theMethod below0 = true := by decide +kernel
set_option maxRecDepth 65536 in
theorem w_ripe : about1.ripe theMethod args0 below0 = true := by decide +kernel
theorem w_running : about1.status = .running := rfl
set_option maxRecDepth 65536 in
theorem w_room : about1.hasRoom e0.platform room_1 = true :=
  launch0.hasRoom_least _ room_1 (by decide +kernel) (by decide +kernel) (by decide +kernel) (by decide +kernel) (by decide +kernel) (by decide +kernel)
theorem allAtoms_all (ts : List Jvm.Cond) (a : Array Jvm.Value) (st : Jvm.State) : (allAtoms ts).before a st = ts.all (fun c => c.before a st) := by
  induction ts with
  | nil => rfl
  | cons c t ih =>
    show (Jvm.Cond.and c (allAtoms t)).before a st = _
    rw [Jvm.Cond.before_and, ih, List.all_cons]
def words1 : List Jvm.Cond := Jvm.Cond.code x code maxLocals ret :: tables_1
/-- a 'code' word, met by the world's own term for the bytes: nothing is compared byte by byte -/
theorem code_word {y : MethodName} {bytes : ByteArray} {mx : Nat} {rt : Option FieldType} {a : Array Value} {s : State} {m : MethodId} {meth : Method} {c : Code} (h1 : s.methodNamed? y = some m) (h2 : s.vm.method? m = some meth) (h3 : meth.code = some c) (h4 : c.code = bytes)
    (h5 : (c.maxLocals == mx && c.exceptionTable.isEmpty && decide (c.maxStack ≤ mostOperands) && decide (meth.sig.returnType = rt) && !meth.locks && decide (parseMethodDescriptor y.desc = some meth.sig)) = true) : (Jvm.Cond.code y bytes mx rt).before a s = true := by
  simp only [Bool.and_eq_true, beq_iff_eq, Bool.not_eq_true', decide_eq_true_eq] at h5
  obtain ⟨⟨⟨⟨⟨g1, g2⟩, g3⟩, g4⟩, g5⟩, g6⟩ := h5
  simp [Cond.before, Cond.holds, Cond.value, h1, h2, h3, h4, g1, g2, g3, g4, g5, g6]
def isCode : Jvm.Cond → Bool
  | .code _ _ _ _ => true
  | _ => false
theorem all_split {L : List Jvm.Cond} {P : Jvm.Cond → Bool} (h1 : L.all (fun c => isCode c || P c) = true) (h2 : ∀ c ∈ L.filter isCode, P c = true) : L.all P = true := by
  refine List.all_eq_true.mpr fun c hc => ?_
  have h := List.all_eq_true.mp h1 c hc
  rcases Bool.eq_false_or_eq_true (isCode c) with hi | hi
  · exact h2 c (List.mem_filter.mpr ⟨hc, hi⟩)
  · simpa [hi] using h
set_option maxRecDepth 65536 in
theorem w_c0 : (Jvm.Cond.code x code maxLocals ret).before args0 about1 = true := code_word (m := ⟨1, 5⟩) (meth := k1m5) (c := k1c5) (by decide +kernel) rfl rfl rfl (by decide +kernel)
set_option maxRecDepth 65536 in
theorem w_c1 : (Jvm.Cond.code ({ cls := "com/example/kredential/kredential/ResourceToStringPinLaw", name := "typeChar", desc := "(I)C" } : Jvm.MethodName) method_2_code (2 : Nat) (Option.some Jvm.ClassFile.FieldType.char)).before args0 about1 = true := code_word (m := ⟨1, 1⟩) (meth := k1m1) (c := k1c1) (by decide +kernel) rfl rfl rfl (by decide +kernel)
set_option maxRecDepth 65536 in
theorem w_c2 : (Jvm.Cond.code ({ cls := "com/example/kredential/kredential/ResourceToStringPinLaw", name := "idChar", desc := "(I)C" } : Jvm.MethodName) method_3_code (2 : Nat) (Option.some Jvm.ClassFile.FieldType.char)).before args0 about1 = true := code_word (m := ⟨1, 2⟩) (meth := k1m2) (c := k1c2) (by decide +kernel) rfl rfl rfl (by decide +kernel)
set_option maxRecDepth 65536 in
theorem w_c3 : (Jvm.Cond.code ({ cls := "com/example/kredential/kredential/ResourceToStringPinLaw", name := "make", desc := "(ICC)Ljava/lang/String;" } : Jvm.MethodName) method_5_code (3 : Nat) (Option.some (Jvm.ClassFile.FieldType.object "java/lang/String"))).before args0 about1 = true := code_word (m := ⟨1, 4⟩) (meth := k1m4) (c := k1c4) (by decide +kernel) rfl rfl rfl (by decide +kernel)
set_option maxRecDepth 65536 in
theorem w_c4 : (Jvm.Cond.code ({ cls := "java/lang/String", name := "<init>", desc := "([C)V" } : Jvm.MethodName) jdk_42_method_3_code (2 : Nat) (Option.none : Option Jvm.ClassFile.FieldType)).before args0 about1 = true := code_word (m := ⟨7, 1⟩) (meth := k7m1) (c := k7c1) (by decide +kernel) rfl rfl rfl (by decide +kernel)
set_option maxRecDepth 65536 in
theorem w_c5 : (Jvm.Cond.code ({ cls := "java/lang/String", name := "<init>", desc := "([CIILjava/lang/Void;)V" } : Jvm.MethodName) jdk_42_method_149_code (6 : Nat) (Option.none : Option Jvm.ClassFile.FieldType)).before args0 about1 = true := code_word (m := ⟨7, 9⟩) (meth := k7m9) (c := k7c9) (by decide +kernel) rfl rfl rfl (by decide +kernel)
set_option maxRecDepth 65536 in
theorem w_c6 : (Jvm.Cond.code ({ cls := "java/lang/Object", name := "<init>", desc := "()V" } : Jvm.MethodName) object_method_1_code (1 : Nat) (Option.none : Option Jvm.ClassFile.FieldType)).before args0 about1 = true := code_word (m := ⟨0, 0⟩) (meth := k0m0) (c := k0c0) (by decide +kernel) rfl rfl rfl (by decide +kernel)
set_option maxRecDepth 65536 in
theorem w_c7 : (Jvm.Cond.code ({ cls := "java/lang/StringUTF16", name := "compress", desc := "([CII)[B" } : Jvm.MethodName) jdk_52_method_16_code (6 : Nat) (Option.some (Jvm.ClassFile.FieldType.array Jvm.ClassFile.FieldType.byte))).before args0 about1 = true := code_word (m := ⟨8, 2⟩) (meth := k8m2) (c := k8c2) (by decide +kernel) rfl rfl rfl (by decide +kernel)
set_option maxRecDepth 65536 in
theorem w_c8 : (Jvm.Cond.code ({ cls := "java/lang/StringUTF16", name := "compress", desc := "([CI[BII)I" } : Jvm.MethodName) jdk_52_method_21_code (7 : Nat) (Option.some Jvm.ClassFile.FieldType.int)).before args0 about1 = true := code_word (m := ⟨8, 3⟩) (meth := k8m3) (c := k8c3) (by decide +kernel) rfl rfl rfl (by decide +kernel)
set_option maxRecDepth 65536 in
theorem w_c9 : (Jvm.Cond.code ({ cls := "java/lang/StringUTF16", name := "coderFromArrayLen", desc := "([BI)B" } : Jvm.MethodName) jdk_52_method_15_code (2 : Nat) (Option.some Jvm.ClassFile.FieldType.byte)).before args0 about1 = true := code_word (m := ⟨8, 1⟩) (meth := k8m1) (c := k8c1) (by decide +kernel) rfl rfl rfl (by decide +kernel)
set_option maxRecDepth 65536 in
theorem w_c10 : (Jvm.Cond.code ({ cls := "java/lang/String", name := "valueOf", desc := "(C)Ljava/lang/String;" } : Jvm.MethodName) jdk_42_method_139_code (1 : Nat) (Option.some (Jvm.ClassFile.FieldType.object "java/lang/String"))).before args0 about1 = true := code_word (m := ⟨7, 7⟩) (meth := k7m7) (c := k7c7) (by decide +kernel) rfl rfl rfl (by decide +kernel)
set_option maxRecDepth 65536 in
theorem w_c11 : (Jvm.Cond.code ({ cls := "java/lang/StringLatin1", name := "canEncode", desc := "(C)Z" } : Jvm.MethodName) jdk_43_method_3_code (1 : Nat) (Option.some Jvm.ClassFile.FieldType.boolean)).before args0 about1 = true := code_word (m := ⟨9, 2⟩) (meth := k9m2) (c := k9c2) (by decide +kernel) rfl rfl rfl (by decide +kernel)
set_option maxRecDepth 65536 in
theorem w_c12 : (Jvm.Cond.code ({ cls := "java/lang/StringLatin1", name := "toBytes", desc := "(C)[B" } : Jvm.MethodName) jdk_43_method_46_code (1 : Nat) (Option.some (Jvm.ClassFile.FieldType.array Jvm.ClassFile.FieldType.byte))).before args0 about1 = true := code_word (m := ⟨9, 4⟩) (meth := k9m4) (c := k9c4) (by decide +kernel) rfl rfl rfl (by decide +kernel)
set_option maxRecDepth 65536 in
theorem w_c13 : (Jvm.Cond.code ({ cls := "java/lang/String", name := "<init>", desc := "([BB)V" } : Jvm.MethodName) jdk_42_method_151_code (3 : Nat) (Option.none : Option Jvm.ClassFile.FieldType)).before args0 about1 = true := code_word (m := ⟨7, 11⟩) (meth := k7m11) (c := k7c11) (by decide +kernel) rfl rfl rfl (by decide +kernel)
set_option maxRecDepth 65536 in
theorem w_c14 : (Jvm.Cond.code ({ cls := "com/example/kredential/kredential/Resource", name := "<init>", desc := "(Ljava/lang/String;Ljava/lang/String;Ljava/lang/String;)V" } : Jvm.MethodName) prog_25_method_1_code (4 : Nat) (Option.none : Option Jvm.ClassFile.FieldType)).before args0 about1 = true := code_word (m := ⟨10, 0⟩) (meth := k10m0) (c := k10c0) (by decide +kernel) rfl rfl rfl (by decide +kernel)
set_option maxRecDepth 65536 in
theorem w_c15 : (Jvm.Cond.code ({ cls := "com/example/kredential/kredential/Resource", name := "isValidType", desc := "(Ljava/lang/String;)Z" } : Jvm.MethodName) prog_25_method_2_code (1 : Nat) (Option.some Jvm.ClassFile.FieldType.boolean)).before args0 about1 = true := code_word (m := ⟨10, 1⟩) (meth := k10m1) (c := k10c1) (by decide +kernel) rfl rfl rfl (by decide +kernel)
set_option maxRecDepth 65536 in
theorem w_c16 : (Jvm.Cond.code ({ cls := "com/example/kredential/kredential/NameRule", name := "accepts", desc := "(Ljava/lang/String;)Z" } : Jvm.MethodName) prog_15_method_5_code (4 : Nat) (Option.some Jvm.ClassFile.FieldType.boolean)).before args0 about1 = true := code_word (m := ⟨11, 0⟩) (meth := k11m0) (c := k11c0) (by decide +kernel) rfl rfl rfl (by decide +kernel)
set_option maxRecDepth 65536 in
theorem w_c17 : (Jvm.Cond.code ({ cls := "java/lang/String", name := "isEmpty", desc := "()Z" } : Jvm.MethodName) jdk_42_method_55_code (1 : Nat) (Option.some Jvm.ClassFile.FieldType.boolean)).before args0 about1 = true := code_word (m := ⟨7, 4⟩) (meth := k7m4) (c := k7c4) (by decide +kernel) rfl rfl rfl (by decide +kernel)
set_option maxRecDepth 65536 in
theorem w_c18 : (Jvm.Cond.code ({ cls := "java/lang/String", name := "length", desc := "()I" } : Jvm.MethodName) jdk_42_method_54_code (1 : Nat) (Option.some Jvm.ClassFile.FieldType.int)).before args0 about1 = true := code_word (m := ⟨7, 3⟩) (meth := k7m3) (c := k7c3) (by decide +kernel) rfl rfl rfl (by decide +kernel)
set_option maxRecDepth 65536 in
theorem w_c19 : (Jvm.Cond.code ({ cls := "java/lang/String", name := "coder", desc := "()B" } : Jvm.MethodName) jdk_42_method_152_code (1 : Nat) (Option.some Jvm.ClassFile.FieldType.byte)).before args0 about1 = true := code_word (m := ⟨7, 12⟩) (meth := k7m12) (c := k7c12) (by decide +kernel) rfl rfl rfl (by decide +kernel)
set_option maxRecDepth 65536 in
theorem w_c20 : (Jvm.Cond.code ({ cls := "java/lang/String", name := "charAt", desc := "(I)C" } : Jvm.MethodName) jdk_42_method_56_code (2 : Nat) (Option.some Jvm.ClassFile.FieldType.char)).before args0 about1 = true := code_word (m := ⟨7, 5⟩) (meth := k7m5) (c := k7c5) (by decide +kernel) rfl rfl rfl (by decide +kernel)
set_option maxRecDepth 65536 in
theorem w_c21 : (Jvm.Cond.code ({ cls := "java/lang/String", name := "isLatin1", desc := "()Z" } : Jvm.MethodName) jdk_42_method_154_code (1 : Nat) (Option.some Jvm.ClassFile.FieldType.boolean)).before args0 about1 = true := code_word (m := ⟨7, 13⟩) (meth := k7m13) (c := k7c13) (by decide +kernel) rfl rfl rfl (by decide +kernel)
set_option maxRecDepth 65536 in
theorem w_c22 : (Jvm.Cond.code ({ cls := "java/lang/StringLatin1", name := "charAt", desc := "([BI)C" } : Jvm.MethodName) jdk_43_method_2_code (2 : Nat) (Option.some Jvm.ClassFile.FieldType.char)).before args0 about1 = true := code_word (m := ⟨9, 1⟩) (meth := k9m1) (c := k9c1) (by decide +kernel) rfl rfl rfl (by decide +kernel)
set_option maxRecDepth 65536 in
theorem w_c23 : (Jvm.Cond.code ({ cls := "java/lang/String", name := "checkIndex", desc := "(II)V" } : Jvm.MethodName) jdk_42_method_155_code (2 : Nat) (Option.none : Option Jvm.ClassFile.FieldType)).before args0 about1 = true := code_word (m := ⟨7, 14⟩) (meth := k7m14) (c := k7c14) (by decide +kernel) rfl rfl rfl (by decide +kernel)
set_option maxRecDepth 65536 in
theorem w_c24 : (Jvm.Cond.code ({ cls := "jdk/internal/util/Preconditions", name := "checkIndex", desc := "(IILjava/util/function/BiFunction;)I" } : Jvm.MethodName) jdk_41_method_11_code (3 : Nat) (Option.some Jvm.ClassFile.FieldType.int)).before args0 about1 = true := code_word (m := ⟨12, 1⟩) (meth := k12m1) (c := k12c1) (by decide +kernel) rfl rfl rfl (by decide +kernel)
set_option maxRecDepth 65536 in
theorem w_c25 : (Jvm.Cond.code ({ cls := "com/example/kredential/kredential/Resource", name := "isValidId", desc := "(Ljava/lang/String;)Z" } : Jvm.MethodName) prog_25_method_3_code (1 : Nat) (Option.some Jvm.ClassFile.FieldType.boolean)).before args0 about1 = true := code_word (m := ⟨10, 2⟩) (meth := k10m2) (c := k10c2) (by decide +kernel) rfl rfl rfl (by decide +kernel)
set_option maxRecDepth 65536 in
theorem w_c26 : (Jvm.Cond.code ({ cls := "java/lang/String", name := "equals", desc := "(Ljava/lang/Object;)Z" } : Jvm.MethodName) jdk_42_method_66_code (3 : Nat) (Option.some Jvm.ClassFile.FieldType.boolean)).before args0 about1 = true := code_word (m := ⟨7, 6⟩) (meth := k7m6) (c := k7c6) (by decide +kernel) rfl rfl rfl (by decide +kernel)
set_option maxRecDepth 65536 in
theorem w_c27 : (Jvm.Cond.code ({ cls := "java/lang/StringLatin1", name := "equals", desc := "([B[B)Z" } : Jvm.MethodName) jdk_43_method_13_code (3 : Nat) (Option.some Jvm.ClassFile.FieldType.boolean)).before args0 about1 = true := code_word (m := ⟨9, 3⟩) (meth := k9m3) (c := k9c3) (by decide +kernel) rfl rfl rfl (by decide +kernel)
set_option maxRecDepth 65536 in
theorem w_c28 : (Jvm.Cond.code ({ cls := "com/example/kredential/kredential/Participant", name := "isValidId", desc := "(Ljava/lang/String;)Z" } : Jvm.MethodName) prog_16_method_3_code (1 : Nat) (Option.some Jvm.ClassFile.FieldType.boolean)).before args0 about1 = true := code_word (m := ⟨13, 0⟩) (meth := k13m0) (c := k13c0) (by decide +kernel) rfl rfl rfl (by decide +kernel)
set_option maxRecDepth 65536 in
theorem w_c29 : (Jvm.Cond.code ({ cls := "com/example/kredential/kredential/Resource", name := "toString", desc := "()Ljava/lang/String;" } : Jvm.MethodName) prog_25_method_9_code (1 : Nat) (Option.some (Jvm.ClassFile.FieldType.object "java/lang/String"))).before args0 about1 = true := code_word (m := ⟨10, 3⟩) (meth := k10m3) (c := k10c3) (by decide +kernel) rfl rfl rfl (by decide +kernel)
set_option maxRecDepth 65536 in
theorem w_c30 : (Jvm.Cond.code ({ cls := "java/lang/StringBuilder", name := "<init>", desc := "()V" } : Jvm.MethodName) jdk_67_method_1_code (1 : Nat) (Option.none : Option Jvm.ClassFile.FieldType)).before args0 about1 = true := code_word (m := ⟨16, 0⟩) (meth := k16m0) (c := k16c0) (by decide +kernel) rfl rfl rfl (by decide +kernel)
set_option maxRecDepth 65536 in
theorem w_c31 : (Jvm.Cond.code ({ cls := "java/lang/AbstractStringBuilder", name := "<init>", desc := "(I)V" } : Jvm.MethodName) jdk_68_method_2_code (2 : Nat) (Option.none : Option Jvm.ClassFile.FieldType)).before args0 about1 = true := code_word (m := ⟨15, 1⟩) (meth := k15m1) (c := k15c1) (by decide +kernel) rfl rfl rfl (by decide +kernel)
set_option maxRecDepth 65536 in
theorem w_c32 : (Jvm.Cond.code ({ cls := "java/lang/StringBuilder", name := "append", desc := "(Ljava/lang/String;)Ljava/lang/StringBuilder;" } : Jvm.MethodName) jdk_67_method_7_code (2 : Nat) (Option.some (Jvm.ClassFile.FieldType.object "java/lang/StringBuilder"))).before args0 about1 = true := code_word (m := ⟨16, 1⟩) (meth := k16m1) (c := k16c1) (by decide +kernel) rfl rfl rfl (by decide +kernel)
set_option maxRecDepth 65536 in
theorem w_c33 : (Jvm.Cond.code ({ cls := "java/lang/AbstractStringBuilder", name := "append", desc := "(Ljava/lang/String;)Ljava/lang/AbstractStringBuilder;" } : Jvm.MethodName) jdk_68_method_22_code (3 : Nat) (Option.some (Jvm.ClassFile.FieldType.object "java/lang/AbstractStringBuilder"))).before args0 about1 = true := code_word (m := ⟨15, 5⟩) (meth := k15m5) (c := k15c5) (by decide +kernel) rfl rfl rfl (by decide +kernel)
set_option maxRecDepth 65536 in
theorem w_c34 : (Jvm.Cond.code ({ cls := "java/lang/AbstractStringBuilder", name := "ensureCapacityInternal", desc := "(I)V" } : Jvm.MethodName) jdk_68_method_9_code (3 : Nat) (Option.none : Option Jvm.ClassFile.FieldType)).before args0 about1 = true := code_word (m := ⟨15, 3⟩) (meth := k15m3) (c := k15c3) (by decide +kernel) rfl rfl rfl (by decide +kernel)
set_option maxRecDepth 65536 in
theorem w_c35 : (Jvm.Cond.code ({ cls := "java/lang/AbstractStringBuilder", name := "putStringAt", desc := "(ILjava/lang/String;)V" } : Jvm.MethodName) jdk_68_method_73_code (3 : Nat) (Option.none : Option Jvm.ClassFile.FieldType)).before args0 about1 = true := code_word (m := ⟨15, 9⟩) (meth := k15m9) (c := k15c9) (by decide +kernel) rfl rfl rfl (by decide +kernel)
set_option maxRecDepth 65536 in
theorem w_c36 : (Jvm.Cond.code ({ cls := "java/lang/AbstractStringBuilder", name := "inflateIfNeededFor", desc := "(Ljava/lang/String;)V" } : Jvm.MethodName) jdk_68_method_71_code (2 : Nat) (Option.none : Option Jvm.ClassFile.FieldType)).before args0 about1 = true := code_word (m := ⟨15, 8⟩) (meth := k15m8) (c := k15c8) (by decide +kernel) rfl rfl rfl (by decide +kernel)
set_option maxRecDepth 65536 in
theorem w_c37 : (Jvm.Cond.code ({ cls := "java/lang/String", name := "getBytes", desc := "([BIB)V" } : Jvm.MethodName) jdk_42_method_147_code (4 : Nat) (Option.none : Option Jvm.ClassFile.FieldType)).before args0 about1 = true := code_word (m := ⟨7, 8⟩) (meth := k7m8) (c := k7c8) (by decide +kernel) rfl rfl rfl (by decide +kernel)
set_option maxRecDepth 65536 in
theorem w_c38 : (Jvm.Cond.code ({ cls := "java/lang/AbstractStringBuilder", name := "newCapacity", desc := "(I)I" } : Jvm.MethodName) jdk_68_method_10_code (6 : Nat) (Option.some Jvm.ClassFile.FieldType.int)).before args0 about1 = true := code_word (m := ⟨15, 4⟩) (meth := k15m4) (c := k15c4) (by decide +kernel) rfl rfl rfl (by decide +kernel)
set_option maxRecDepth 65536 in
theorem w_c39 : (Jvm.Cond.code ({ cls := "jdk/internal/util/ArraysSupport", name := "newLength", desc := "(III)I" } : Jvm.MethodName) jdk_48_method_27_code (4 : Nat) (Option.some Jvm.ClassFile.FieldType.int)).before args0 about1 = true := code_word (m := ⟨18, 1⟩) (meth := k18m1) (c := k18c1) (by decide +kernel) rfl rfl rfl (by decide +kernel)
set_option maxRecDepth 65536 in
theorem w_c40 : (Jvm.Cond.code ({ cls := "java/lang/Math", name := "max", desc := "(II)I" } : Jvm.MethodName) jdk_29_method_65_code (2 : Nat) (Option.some Jvm.ClassFile.FieldType.int)).before args0 about1 = true := code_word (m := ⟨19, 1⟩) (meth := k19m1) (c := k19c1) (by decide +kernel) rfl rfl rfl (by decide +kernel)
set_option maxRecDepth 65536 in
theorem w_c41 : (Jvm.Cond.code ({ cls := "java/util/Arrays", name := "copyOf", desc := "([BI)[B" } : Jvm.MethodName) jdk_65_method_121_code (3 : Nat) (Option.some (Jvm.ClassFile.FieldType.array Jvm.ClassFile.FieldType.byte))).before args0 about1 = true := code_word (m := ⟨20, 1⟩) (meth := k20m1) (c := k20c1) (by decide +kernel) rfl rfl rfl (by decide +kernel)
set_option maxRecDepth 65536 in
theorem w_c42 : (Jvm.Cond.code ({ cls := "java/lang/Math", name := "min", desc := "(II)I" } : Jvm.MethodName) jdk_29_method_69_code (2 : Nat) (Option.some Jvm.ClassFile.FieldType.int)).before args0 about1 = true := code_word (m := ⟨19, 2⟩) (meth := k19m2) (c := k19c2) (by decide +kernel) rfl rfl rfl (by decide +kernel)
set_option maxRecDepth 65536 in
theorem w_c43 : (Jvm.Cond.code ({ cls := "java/lang/StringBuilder", name := "toString", desc := "()Ljava/lang/String;" } : Jvm.MethodName) jdk_67_method_42_code (1 : Nat) (Option.some (Jvm.ClassFile.FieldType.object "java/lang/String"))).before args0 about1 = true := code_word (m := ⟨16, 2⟩) (meth := k16m2) (c := k16c2) (by decide +kernel) rfl rfl rfl (by decide +kernel)
set_option maxRecDepth 65536 in
theorem w_c44 : (Jvm.Cond.code ({ cls := "java/lang/String", name := "<init>", desc := "(Ljava/lang/StringBuilder;)V" } : Jvm.MethodName) jdk_42_method_53_code (2 : Nat) (Option.none : Option Jvm.ClassFile.FieldType)).before args0 about1 = true := code_word (m := ⟨7, 2⟩) (meth := k7m2) (c := k7c2) (by decide +kernel) rfl rfl rfl (by decide +kernel)
set_option maxRecDepth 65536 in
theorem w_c45 : (Jvm.Cond.code ({ cls := "java/lang/String", name := "<init>", desc := "(Ljava/lang/AbstractStringBuilder;Ljava/lang/Void;)V" } : Jvm.MethodName) jdk_42_method_150_code (5 : Nat) (Option.none : Option Jvm.ClassFile.FieldType)).before args0 about1 = true := code_word (m := ⟨7, 10⟩) (meth := k7m10) (c := k7c10) (by decide +kernel) rfl rfl rfl (by decide +kernel)
set_option maxRecDepth 65536 in
theorem w_c46 : (Jvm.Cond.code ({ cls := "java/lang/AbstractStringBuilder", name := "getValue", desc := "()[B" } : Jvm.MethodName) jdk_68_method_64_code (1 : Nat) (Option.some (Jvm.ClassFile.FieldType.array Jvm.ClassFile.FieldType.byte))).before args0 about1 = true := code_word (m := ⟨15, 6⟩) (meth := k15m6) (c := k15c6) (by decide +kernel) rfl rfl rfl (by decide +kernel)
set_option maxRecDepth 65536 in
theorem w_c47 : (Jvm.Cond.code ({ cls := "java/lang/StringBuilder", name := "length", desc := "()I" } : Jvm.MethodName) jdk_67_method_93_code (1 : Nat) (Option.some Jvm.ClassFile.FieldType.int)).before args0 about1 = true := code_word (m := ⟨16, 3⟩) (meth := k16m3) (c := k16c3) (by decide +kernel) rfl rfl rfl (by decide +kernel)
set_option maxRecDepth 65536 in
theorem w_c48 : (Jvm.Cond.code ({ cls := "java/lang/AbstractStringBuilder", name := "length", desc := "()I" } : Jvm.MethodName) jdk_68_method_6_code (1 : Nat) (Option.some Jvm.ClassFile.FieldType.int)).before args0 about1 = true := code_word (m := ⟨15, 2⟩) (meth := k15m2) (c := k15c2) (by decide +kernel) rfl rfl rfl (by decide +kernel)
set_option maxRecDepth 65536 in
theorem w_c49 : (Jvm.Cond.code ({ cls := "java/lang/AbstractStringBuilder", name := "isLatin1", desc := "()Z" } : Jvm.MethodName) jdk_68_method_68_code (1 : Nat) (Option.some Jvm.ClassFile.FieldType.boolean)).before args0 about1 = true := code_word (m := ⟨15, 7⟩) (meth := k15m7) (c := k15c7) (by decide +kernel) rfl rfl rfl (by decide +kernel)
set_option maxRecDepth 65536 in
theorem w_c50 : (Jvm.Cond.code ({ cls := "java/util/Arrays", name := "copyOfRange", desc := "([BII)[B" } : Jvm.MethodName) jdk_65_method_132_code (3 : Nat) (Option.some (Jvm.ClassFile.FieldType.array Jvm.ClassFile.FieldType.byte))).before args0 about1 = true := code_word (m := ⟨20, 3⟩) (meth := k20m3) (c := k20c3) (by decide +kernel) rfl rfl rfl (by decide +kernel)
set_option maxRecDepth 65536 in
theorem w_c51 : (Jvm.Cond.code ({ cls := "java/util/Arrays", name := "copyOfRangeByte", desc := "([BII)[B" } : Jvm.MethodName) jdk_65_method_133_code (5 : Nat) (Option.some (Jvm.ClassFile.FieldType.array Jvm.ClassFile.FieldType.byte))).before args0 about1 = true := code_word (m := ⟨20, 4⟩) (meth := k20m4) (c := k20c4) (by decide +kernel) rfl rfl rfl (by decide +kernel)
set_option maxRecDepth 65536 in
theorem w_c52 : (Jvm.Cond.code ({ cls := "java/util/Arrays", name := "checkLength", desc := "(II)V" } : Jvm.MethodName) jdk_65_method_131_code (2 : Nat) (Option.none : Option Jvm.ClassFile.FieldType)).before args0 about1 = true := code_word (m := ⟨20, 2⟩) (meth := k20m2) (c := k20c2) (by decide +kernel) rfl rfl rfl (by decide +kernel)
set_option maxRecDepth 65536 in
theorem w_c53 : (Jvm.Cond.code ({ cls := "com/example/kredential/kredential/ResourceToStringPinLaw", name := "at", desc := "(Ljava/lang/String;IC)Z" } : Jvm.MethodName) method_4_code (3 : Nat) (Option.some Jvm.ClassFile.FieldType.boolean)).before args0 about1 = true := code_word (m := ⟨1, 3⟩) (meth := k1m3) (c := k1c3) (by decide +kernel) rfl rfl rfl (by decide +kernel)
def codes1 : List Jvm.Cond := [Jvm.Cond.code x code maxLocals ret, Jvm.Cond.code ({ cls := "com/example/kredential/kredential/ResourceToStringPinLaw", name := "typeChar", desc := "(I)C" } : Jvm.MethodName) method_2_code (2 : Nat) (Option.some Jvm.ClassFile.FieldType.char), Jvm.Cond.code ({ cls := "com/example/kredential/kredential/ResourceToStringPinLaw", name := "idChar", desc := "(I)C" } : Jvm.MethodName) method_3_code (2 : Nat) (Option.some Jvm.ClassFile.FieldType.char), Jvm.Cond.code ({ cls := "com/example/kredential/kredential/ResourceToStringPinLaw", name := "make", desc := "(ICC)Ljava/lang/String;" } : Jvm.MethodName) method_5_code (3 : Nat) (Option.some (Jvm.ClassFile.FieldType.object "java/lang/String")), Jvm.Cond.code ({ cls := "java/lang/String", name := "<init>", desc := "([C)V" } : Jvm.MethodName) jdk_42_method_3_code (2 : Nat) (Option.none : Option Jvm.ClassFile.FieldType), Jvm.Cond.code ({ cls := "java/lang/String", name := "<init>", desc := "([CIILjava/lang/Void;)V" } : Jvm.MethodName) jdk_42_method_149_code (6 : Nat) (Option.none : Option Jvm.ClassFile.FieldType), Jvm.Cond.code ({ cls := "java/lang/Object", name := "<init>", desc := "()V" } : Jvm.MethodName) object_method_1_code (1 : Nat) (Option.none : Option Jvm.ClassFile.FieldType), Jvm.Cond.code ({ cls := "java/lang/StringUTF16", name := "compress", desc := "([CII)[B" } : Jvm.MethodName) jdk_52_method_16_code (6 : Nat) (Option.some (Jvm.ClassFile.FieldType.array Jvm.ClassFile.FieldType.byte)), Jvm.Cond.code ({ cls := "java/lang/StringUTF16", name := "compress", desc := "([CI[BII)I" } : Jvm.MethodName) jdk_52_method_21_code (7 : Nat) (Option.some Jvm.ClassFile.FieldType.int), Jvm.Cond.code ({ cls := "java/lang/StringUTF16", name := "coderFromArrayLen", desc := "([BI)B" } : Jvm.MethodName) jdk_52_method_15_code (2 : Nat) (Option.some Jvm.ClassFile.FieldType.byte), Jvm.Cond.code ({ cls := "java/lang/String", name := "valueOf", desc := "(C)Ljava/lang/String;" } : Jvm.MethodName) jdk_42_method_139_code (1 : Nat) (Option.some (Jvm.ClassFile.FieldType.object "java/lang/String")), Jvm.Cond.code ({ cls := "java/lang/StringLatin1", name := "canEncode", desc := "(C)Z" } : Jvm.MethodName) jdk_43_method_3_code (1 : Nat) (Option.some Jvm.ClassFile.FieldType.boolean), Jvm.Cond.code ({ cls := "java/lang/StringLatin1", name := "toBytes", desc := "(C)[B" } : Jvm.MethodName) jdk_43_method_46_code (1 : Nat) (Option.some (Jvm.ClassFile.FieldType.array Jvm.ClassFile.FieldType.byte)), Jvm.Cond.code ({ cls := "java/lang/String", name := "<init>", desc := "([BB)V" } : Jvm.MethodName) jdk_42_method_151_code (3 : Nat) (Option.none : Option Jvm.ClassFile.FieldType), Jvm.Cond.code ({ cls := "com/example/kredential/kredential/Resource", name := "<init>", desc := "(Ljava/lang/String;Ljava/lang/String;Ljava/lang/String;)V" } : Jvm.MethodName) prog_25_method_1_code (4 : Nat) (Option.none : Option Jvm.ClassFile.FieldType), Jvm.Cond.code ({ cls := "com/example/kredential/kredential/Resource", name := "isValidType", desc := "(Ljava/lang/String;)Z" } : Jvm.MethodName) prog_25_method_2_code (1 : Nat) (Option.some Jvm.ClassFile.FieldType.boolean), Jvm.Cond.code ({ cls := "com/example/kredential/kredential/NameRule", name := "accepts", desc := "(Ljava/lang/String;)Z" } : Jvm.MethodName) prog_15_method_5_code (4 : Nat) (Option.some Jvm.ClassFile.FieldType.boolean), Jvm.Cond.code ({ cls := "java/lang/String", name := "isEmpty", desc := "()Z" } : Jvm.MethodName) jdk_42_method_55_code (1 : Nat) (Option.some Jvm.ClassFile.FieldType.boolean), Jvm.Cond.code ({ cls := "java/lang/String", name := "length", desc := "()I" } : Jvm.MethodName) jdk_42_method_54_code (1 : Nat) (Option.some Jvm.ClassFile.FieldType.int), Jvm.Cond.code ({ cls := "java/lang/String", name := "coder", desc := "()B" } : Jvm.MethodName) jdk_42_method_152_code (1 : Nat) (Option.some Jvm.ClassFile.FieldType.byte), Jvm.Cond.code ({ cls := "java/lang/String", name := "charAt", desc := "(I)C" } : Jvm.MethodName) jdk_42_method_56_code (2 : Nat) (Option.some Jvm.ClassFile.FieldType.char), Jvm.Cond.code ({ cls := "java/lang/String", name := "isLatin1", desc := "()Z" } : Jvm.MethodName) jdk_42_method_154_code (1 : Nat) (Option.some Jvm.ClassFile.FieldType.boolean), Jvm.Cond.code ({ cls := "java/lang/StringLatin1", name := "charAt", desc := "([BI)C" } : Jvm.MethodName) jdk_43_method_2_code (2 : Nat) (Option.some Jvm.ClassFile.FieldType.char), Jvm.Cond.code ({ cls := "java/lang/String", name := "checkIndex", desc := "(II)V" } : Jvm.MethodName) jdk_42_method_155_code (2 : Nat) (Option.none : Option Jvm.ClassFile.FieldType), Jvm.Cond.code ({ cls := "jdk/internal/util/Preconditions", name := "checkIndex", desc := "(IILjava/util/function/BiFunction;)I" } : Jvm.MethodName) jdk_41_method_11_code (3 : Nat) (Option.some Jvm.ClassFile.FieldType.int), Jvm.Cond.code ({ cls := "com/example/kredential/kredential/Resource", name := "isValidId", desc := "(Ljava/lang/String;)Z" } : Jvm.MethodName) prog_25_method_3_code (1 : Nat) (Option.some Jvm.ClassFile.FieldType.boolean), Jvm.Cond.code ({ cls := "java/lang/String", name := "equals", desc := "(Ljava/lang/Object;)Z" } : Jvm.MethodName) jdk_42_method_66_code (3 : Nat) (Option.some Jvm.ClassFile.FieldType.boolean), Jvm.Cond.code ({ cls := "java/lang/StringLatin1", name := "equals", desc := "([B[B)Z" } : Jvm.MethodName) jdk_43_method_13_code (3 : Nat) (Option.some Jvm.ClassFile.FieldType.boolean), Jvm.Cond.code ({ cls := "com/example/kredential/kredential/Participant", name := "isValidId", desc := "(Ljava/lang/String;)Z" } : Jvm.MethodName) prog_16_method_3_code (1 : Nat) (Option.some Jvm.ClassFile.FieldType.boolean), Jvm.Cond.code ({ cls := "com/example/kredential/kredential/Resource", name := "toString", desc := "()Ljava/lang/String;" } : Jvm.MethodName) prog_25_method_9_code (1 : Nat) (Option.some (Jvm.ClassFile.FieldType.object "java/lang/String")), Jvm.Cond.code ({ cls := "java/lang/StringBuilder", name := "<init>", desc := "()V" } : Jvm.MethodName) jdk_67_method_1_code (1 : Nat) (Option.none : Option Jvm.ClassFile.FieldType), Jvm.Cond.code ({ cls := "java/lang/AbstractStringBuilder", name := "<init>", desc := "(I)V" } : Jvm.MethodName) jdk_68_method_2_code (2 : Nat) (Option.none : Option Jvm.ClassFile.FieldType), Jvm.Cond.code ({ cls := "java/lang/StringBuilder", name := "append", desc := "(Ljava/lang/String;)Ljava/lang/StringBuilder;" } : Jvm.MethodName) jdk_67_method_7_code (2 : Nat) (Option.some (Jvm.ClassFile.FieldType.object "java/lang/StringBuilder")), Jvm.Cond.code ({ cls := "java/lang/AbstractStringBuilder", name := "append", desc := "(Ljava/lang/String;)Ljava/lang/AbstractStringBuilder;" } : Jvm.MethodName) jdk_68_method_22_code (3 : Nat) (Option.some (Jvm.ClassFile.FieldType.object "java/lang/AbstractStringBuilder")), Jvm.Cond.code ({ cls := "java/lang/AbstractStringBuilder", name := "ensureCapacityInternal", desc := "(I)V" } : Jvm.MethodName) jdk_68_method_9_code (3 : Nat) (Option.none : Option Jvm.ClassFile.FieldType), Jvm.Cond.code ({ cls := "java/lang/AbstractStringBuilder", name := "putStringAt", desc := "(ILjava/lang/String;)V" } : Jvm.MethodName) jdk_68_method_73_code (3 : Nat) (Option.none : Option Jvm.ClassFile.FieldType), Jvm.Cond.code ({ cls := "java/lang/AbstractStringBuilder", name := "inflateIfNeededFor", desc := "(Ljava/lang/String;)V" } : Jvm.MethodName) jdk_68_method_71_code (2 : Nat) (Option.none : Option Jvm.ClassFile.FieldType), Jvm.Cond.code ({ cls := "java/lang/String", name := "getBytes", desc := "([BIB)V" } : Jvm.MethodName) jdk_42_method_147_code (4 : Nat) (Option.none : Option Jvm.ClassFile.FieldType), Jvm.Cond.code ({ cls := "java/lang/AbstractStringBuilder", name := "newCapacity", desc := "(I)I" } : Jvm.MethodName) jdk_68_method_10_code (6 : Nat) (Option.some Jvm.ClassFile.FieldType.int), Jvm.Cond.code ({ cls := "jdk/internal/util/ArraysSupport", name := "newLength", desc := "(III)I" } : Jvm.MethodName) jdk_48_method_27_code (4 : Nat) (Option.some Jvm.ClassFile.FieldType.int), Jvm.Cond.code ({ cls := "java/lang/Math", name := "max", desc := "(II)I" } : Jvm.MethodName) jdk_29_method_65_code (2 : Nat) (Option.some Jvm.ClassFile.FieldType.int), Jvm.Cond.code ({ cls := "java/util/Arrays", name := "copyOf", desc := "([BI)[B" } : Jvm.MethodName) jdk_65_method_121_code (3 : Nat) (Option.some (Jvm.ClassFile.FieldType.array Jvm.ClassFile.FieldType.byte)), Jvm.Cond.code ({ cls := "java/lang/Math", name := "min", desc := "(II)I" } : Jvm.MethodName) jdk_29_method_69_code (2 : Nat) (Option.some Jvm.ClassFile.FieldType.int), Jvm.Cond.code ({ cls := "java/lang/StringBuilder", name := "toString", desc := "()Ljava/lang/String;" } : Jvm.MethodName) jdk_67_method_42_code (1 : Nat) (Option.some (Jvm.ClassFile.FieldType.object "java/lang/String")), Jvm.Cond.code ({ cls := "java/lang/String", name := "<init>", desc := "(Ljava/lang/StringBuilder;)V" } : Jvm.MethodName) jdk_42_method_53_code (2 : Nat) (Option.none : Option Jvm.ClassFile.FieldType), Jvm.Cond.code ({ cls := "java/lang/String", name := "<init>", desc := "(Ljava/lang/AbstractStringBuilder;Ljava/lang/Void;)V" } : Jvm.MethodName) jdk_42_method_150_code (5 : Nat) (Option.none : Option Jvm.ClassFile.FieldType), Jvm.Cond.code ({ cls := "java/lang/AbstractStringBuilder", name := "getValue", desc := "()[B" } : Jvm.MethodName) jdk_68_method_64_code (1 : Nat) (Option.some (Jvm.ClassFile.FieldType.array Jvm.ClassFile.FieldType.byte)), Jvm.Cond.code ({ cls := "java/lang/StringBuilder", name := "length", desc := "()I" } : Jvm.MethodName) jdk_67_method_93_code (1 : Nat) (Option.some Jvm.ClassFile.FieldType.int), Jvm.Cond.code ({ cls := "java/lang/AbstractStringBuilder", name := "length", desc := "()I" } : Jvm.MethodName) jdk_68_method_6_code (1 : Nat) (Option.some Jvm.ClassFile.FieldType.int), Jvm.Cond.code ({ cls := "java/lang/AbstractStringBuilder", name := "isLatin1", desc := "()Z" } : Jvm.MethodName) jdk_68_method_68_code (1 : Nat) (Option.some Jvm.ClassFile.FieldType.boolean), Jvm.Cond.code ({ cls := "java/util/Arrays", name := "copyOfRange", desc := "([BII)[B" } : Jvm.MethodName) jdk_65_method_132_code (3 : Nat) (Option.some (Jvm.ClassFile.FieldType.array Jvm.ClassFile.FieldType.byte)), Jvm.Cond.code ({ cls := "java/util/Arrays", name := "copyOfRangeByte", desc := "([BII)[B" } : Jvm.MethodName) jdk_65_method_133_code (5 : Nat) (Option.some (Jvm.ClassFile.FieldType.array Jvm.ClassFile.FieldType.byte)), Jvm.Cond.code ({ cls := "java/util/Arrays", name := "checkLength", desc := "(II)V" } : Jvm.MethodName) jdk_65_method_131_code (2 : Nat) (Option.none : Option Jvm.ClassFile.FieldType), Jvm.Cond.code ({ cls := "com/example/kredential/kredential/ResourceToStringPinLaw", name := "at", desc := "(Ljava/lang/String;IC)Z" } : Jvm.MethodName) method_4_code (3 : Nat) (Option.some Jvm.ClassFile.FieldType.boolean)]
set_option maxRecDepth 65536 in
theorem codes_eq : words1.filter isCode = codes1 := rfl
theorem w_codes : ∀ c ∈ words1.filter isCode, c.before args0 about1 = true := by
  rw [codes_eq]
  intro c hc
  simp only [codes1, List.mem_cons, List.not_mem_nil, or_false] at hc
  rcases hc with rfl | rfl | rfl | rfl | rfl | rfl | rfl | rfl | rfl | rfl | rfl | rfl | rfl | rfl | rfl | rfl | rfl | rfl | rfl | rfl | rfl | rfl | rfl | rfl | rfl | rfl | rfl | rfl | rfl | rfl | rfl | rfl | rfl | rfl | rfl | rfl | rfl | rfl | rfl | rfl | rfl | rfl | rfl | rfl | rfl | rfl | rfl | rfl | rfl | rfl | rfl | rfl | rfl | rfl
  · exact w_c0
  · exact w_c1
  · exact w_c2
  · exact w_c3
  · exact w_c4
  · exact w_c5
  · exact w_c6
  · exact w_c7
  · exact w_c8
  · exact w_c9
  · exact w_c10
  · exact w_c11
  · exact w_c12
  · exact w_c13
  · exact w_c14
  · exact w_c15
  · exact w_c16
  · exact w_c17
  · exact w_c18
  · exact w_c19
  · exact w_c20
  · exact w_c21
  · exact w_c22
  · exact w_c23
  · exact w_c24
  · exact w_c25
  · exact w_c26
  · exact w_c27
  · exact w_c28
  · exact w_c29
  · exact w_c30
  · exact w_c31
  · exact w_c32
  · exact w_c33
  · exact w_c34
  · exact w_c35
  · exact w_c36
  · exact w_c37
  · exact w_c38
  · exact w_c39
  · exact w_c40
  · exact w_c41
  · exact w_c42
  · exact w_c43
  · exact w_c44
  · exact w_c45
  · exact w_c46
  · exact w_c47
  · exact w_c48
  · exact w_c49
  · exact w_c50
  · exact w_c51
  · exact w_c52
  · exact w_c53
set_option maxRecDepth 65536 in
theorem w_t1 : (words1.take 24).all (fun c => isCode c || c.before args0 about1) = true := by decide +kernel
set_option maxRecDepth 65536 in
theorem w_t2 : ((words1.drop 24).take 24).all (fun c => isCode c || c.before args0 about1) = true := by decide +kernel
set_option maxRecDepth 65536 in
theorem w_t3 : (((words1.drop 24).drop 24).take 24).all (fun c => isCode c || c.before args0 about1) = true := by decide +kernel
set_option maxRecDepth 65536 in
theorem w_t4 : ((((words1.drop 24).drop 24).drop 24).take 24).all (fun c => isCode c || c.before args0 about1) = true := by decide +kernel
set_option maxRecDepth 65536 in
theorem w_t5 : (((((words1.drop 24).drop 24).drop 24).drop 24).take 24).all (fun c => isCode c || c.before args0 about1) = true := by decide +kernel
set_option maxRecDepth 65536 in
theorem w_t6 : ((((((words1.drop 24).drop 24).drop 24).drop 24).drop 24).take 24).all (fun c => isCode c || c.before args0 about1) = true := by decide +kernel
set_option maxRecDepth 65536 in
theorem w_t7 : (((((((words1.drop 24).drop 24).drop 24).drop 24).drop 24).drop 24).take 24).all (fun c => isCode c || c.before args0 about1) = true := by decide +kernel
set_option maxRecDepth 65536 in
theorem w_t8 : ((((((((words1.drop 24).drop 24).drop 24).drop 24).drop 24).drop 24).drop 24).take 24).all (fun c => isCode c || c.before args0 about1) = true := by decide +kernel
set_option maxRecDepth 65536 in
theorem w_t9 : (((((((((words1.drop 24).drop 24).drop 24).drop 24).drop 24).drop 24).drop 24).drop 24).take 24).all (fun c => isCode c || c.before args0 about1) = true := by decide +kernel
set_option maxRecDepth 65536 in
theorem w_t10 : ((((((((((words1.drop 24).drop 24).drop 24).drop 24).drop 24).drop 24).drop 24).drop 24).drop 24).take 24).all (fun c => isCode c || c.before args0 about1) = true := by decide +kernel
set_option maxRecDepth 65536 in
theorem w_t11 : (((((((((((words1.drop 24).drop 24).drop 24).drop 24).drop 24).drop 24).drop 24).drop 24).drop 24).drop 24).take 24).all (fun c => isCode c || c.before args0 about1) = true := by decide +kernel
set_option maxRecDepth 65536 in
theorem w_t12 : (((((((((((words1.drop 24).drop 24).drop 24).drop 24).drop 24).drop 24).drop 24).drop 24).drop 24).drop 24).drop 24).all (fun c => isCode c || c.before args0 about1) = true := by decide +kernel
theorem w_tables : (allAtoms (Jvm.Cond.code x code maxLocals ret :: tables_1)).before args0 about1 = true := by
  rw [allAtoms_all]
  show words1.all (fun c => c.before args0 about1) = true
  refine all_split ?_ w_codes
  rw [← List.take_append_drop 24 words1, List.all_append, w_t1, ← List.take_append_drop 24 (words1.drop 24), List.all_append, w_t2, ← List.take_append_drop 24 ((words1.drop 24).drop 24), List.all_append, w_t3, ← List.take_append_drop 24 (((words1.drop 24).drop 24).drop 24), List.all_append, w_t4, ← List.take_append_drop 24 ((((words1.drop 24).drop 24).drop 24).drop 24), List.all_append, w_t5, ← List.take_append_drop 24 (((((words1.drop 24).drop 24).drop 24).drop 24).drop 24), List.all_append, w_t6, ← List.take_append_drop 24 ((((((words1.drop 24).drop 24).drop 24).drop 24).drop 24).drop 24), List.all_append, w_t7, ← List.take_append_drop 24 (((((((words1.drop 24).drop 24).drop 24).drop 24).drop 24).drop 24).drop 24), List.all_append, w_t8, ← List.take_append_drop 24 ((((((((words1.drop 24).drop 24).drop 24).drop 24).drop 24).drop 24).drop 24).drop 24), List.all_append, w_t9, ← List.take_append_drop 24 (((((((((words1.drop 24).drop 24).drop 24).drop 24).drop 24).drop 24).drop 24).drop 24).drop 24), List.all_append, w_t10, ← List.take_append_drop 24 ((((((((((words1.drop 24).drop 24).drop 24).drop 24).drop 24).drop 24).drop 24).drop 24).drop 24).drop 24), List.all_append, w_t11, w_t12]
  rfl
set_option maxRecDepth 65536 in
theorem w_rest : rest_1_c.before args0 about1 = true := by decide +kernel
set_option maxRecDepth 65536 in
theorem w_case : (Jvm.Cond.and given_1 narrow_1).before args0 about1 = true := by decide +kernel
set_option maxRecDepth 65536 in
theorem w_consts : constsHeld consts_1 about1 := Jvm.Lit.constsHeldB_iff.mp (by decide +kernel)
theorem w_applies : (headSpec (Jvm.Cond.code x code maxLocals ret :: tables_1) room_1).applies x e0.platform about1 = true :=
  (Spec.applies_iff w_frames).mpr ⟨w_running, w_runnable, w_alone, w_named, w_hears, w_ripe, w_room, w_tables⟩
theorem atStart : AtStart classFile x code maxLocals ret World_1 tables_1 room_1 Calls_1 rest_1 Pre_1 launch0 p0 e0 about1 theMethod args0 below0 :=
  ⟨lists_1, trivial, launch0.admits_env _ _ _, launch0.least_env, fairChoices_fair.cas, fairChoices_fair.clock, w_frames, w_args, w_heap, w_applies, ⟨w_consts, trivial⟩, w_rest, w_case⟩
end start1
theorem witness_1 : WitnessClaimed_1 := ⟨start1.p0, start1.e0, start1.about1, start1.theMethod, start1.args0, start1.below0, start1.atStart⟩
end Jvm.Pilot.@@N@@
