import JvmDerived
import JvmDerived.Pilot.@@N@@Statement
import JvmDerived.Pilot.@@N@@Code
set_option linter.unusedVariables false
set_option linter.unusedSimpArgs false
namespace Jvm.OwnK
open Jvm Jvm.ClassFile Sem Op Lib Jvm.Free Jvm.Stand Jvm.LawKit Jvm.RoadKit Bundle
/-! own kit, part 1: a walk as a triple on (heap, pc, locals, stack): Seg; contracts: Ct; who pays a call: Pays -/
def SfOk (Z : State) (EL : List (String × Nat)) (vm : Vm) (h : Heap) (sf : List Addr) : Prop := ∀ x ∈ sf, Z.heap.size ≤ x ∧ x < h.size ∧ Safe Z EL vm h x
def Wk (p : Program) (l : Launch) (e : Env) (R : Room) (s : State) (m : MethodId) (args : Array Value) (below : List Frame) (meth : Method) (c : Code) (Z : State) (a0 : Array Value) (EL : List (String × Nat)) (own : String) (sf : List Addr) (k n : Nat) (T : State) (h : Heap) : Prop :=
  ∃ (vm0 : Vm) (locs : List Loc) (k0 : Nat), Stand p l e R (s.setVm vm0) m args below meth c T locs k n ∧ T.heap = h ∧ s.Since vm0 k0 ∧ k0 ≤ h.size ∧ Z.Warmed39 vm0 ∧ vm0.findClass own = some m.cls ∧ CHr Z EL s.vm s.heap vm0 h ∧ Fr Z.heap.size locs ∧ Ext Z.heap h ∧ EW Z a0 EL ∧ SfOk Z EL vm0 h sf
def Cx (p : Program) (meth : Method) (c : Code) (y : MethodName) (bytes : ByteArray) (maxL : Nat) (ret : Option FieldType) : Prop :=
  p.tables.exec = Jvm.exec ∧ c.code = bytes ∧ c.maxLocals = maxL ∧ meth.sig.returnType = ret ∧ meth.locks = false ∧ meth.name = y.name
def Gl (p : Program) (e : Env) (below : List Frame) (s Z : State) (EL : List (String × Nat)) (Q : Option Value → Heap → Prop) (rc rs : Nat) (u : State) : Prop :=
  ∃ (s₂ : State) (o : Outcome), Steps p.tables e below u s₂ ∧ s₂.status = .running ∧ Ended s₂ below o ∧ ∃ v L, o = .returned v ∧ (Fr Z.heap.size L ∧ Ext Z.heap s₂.heap ∧ Q v s₂.heap) ∧ CHr Z EL s.vm s.heap s₂.vm s₂.heap ∧ ReturnedEndW s o s₂ L rc rs
def Seg (l : Launch) (Z : State) (a0 : Array Value) (EL : List (String × Nat)) (y : MethodName) (bytes : ByteArray) (maxL : Nat) (ret : Option FieldType) (rm : Room) (Q : Option Value → Heap → Prop) (h : Heap) (k n : Nat) (sf : List Addr) (pc : Nat) (L : Array Slot) (S : List Value) : Prop :=
  ∀ (p : Program) (e : Env) (s : State) (m : MethodId) (args : Array Value) (below : List Frame) (meth : Method) (c : Code) (T : State), Cx p meth c y bytes maxL ret → Wk p l e rm s m args below meth c Z a0 EL y.cls sf k n T h → Gl p e below s Z EL Q rm.cells rm.slots (T.setTop (mkF m pc L S))
/-- a contract -/
def Ct (l : Launch) (Z : State) (EL : List (String × Nat)) (sf : List Addr) (ws : List Jvm.Cond) (y : MethodName) (bytes : ByteArray) (maxL : Nat) (ret : Option FieldType) (rm : Room) (as' : Array Value) (h : Heap) (Q : Option Value → Heap → Prop) : Prop :=
  MetFree l y (head1 (Jvm.Cond.code y bytes maxL ret :: ws) rm) (fun a U => a = as' ∧ Z.Warmed39 U.vm ∧ U.heap = h ∧ CHv Z EL U.vm h ∧ SfOk Z EL U.vm h sf ∧ Ext Z.heap h) (fun _ _ _ _ _ => True)
    (fun _ U o U' => ∃ v L, o = .returned v ∧ (Fr Z.heap.size L ∧ Ext Z.heap U'.heap ∧ Q v U'.heap) ∧ CHr Z EL U.vm U.heap U'.vm U'.heap ∧ ReturnedEndW U o U' L rm.cells rm.slots)
section Facts
variable {Z : State} {EL : List (String × Nat)} {vm vm1 : Vm} {h h1 h2 h' : Heap} {sf sf' : List Addr} {ws : List Addr} {a x : Addr} {sl : Nat} {v : Value}
theorem ext_rfl (h : Heap) : Ext h h := ⟨Nat.le_refl _, fun _ _ q => q⟩
theorem ext_tr (A : Ext h h1) (B : Ext h1 h2) : Ext h h2 := ⟨Nat.le_trans A.1 B.1, fun x c q => B.2 x c (A.2 x c q)⟩
theorem ext_kp (A : Ext h h1) (K : Keep h1 h2 ws) (q : ∀ x ∈ ws, h.size ≤ x) : Ext h h2 := ⟨Nat.le_trans A.1 K.1, fun x c r => K.2.1 x c (A.2 x c r) fun z => absurd (Array.getElem?_eq_some_iff.mp r).1 (Nat.not_lt.mpr (q x z))⟩
theorem ext_wr (A : Ext h h1) (W : Wr h1 h2 a sl v) (q : h.size ≤ a) : Ext h h2 := ext_kp A (Keep.of_wr W) (allS q all0)
theorem keep_ext (E : Ext h h1) : Keep h h1 [] := (Keep.refl h []).ext E
theorem ext_keep (K : Keep h h1 []) : Ext h h1 := ⟨K.1, fun x c q => K.2.1 x c q (fun z => nomatch z)⟩
theorem keep_mono {ws' : List Addr} (K : Keep h h1 ws) (q : ∀ x ∈ ws, x ∈ ws' ∨ h.size ≤ x) : Keep h h1 ws' := (Keep.refl h ws').trans K q
theorem SfOk.sub (S : SfOk Z EL vm h sf) (q : ∀ x ∈ sf', x ∈ sf) : SfOk Z EL vm h sf' := fun x hx => S x (q x hx)
theorem SfOk.chr (S : SfOk Z EL vm h sf) (A : CHr Z EL vm h vm1 h') : SfOk Z EL vm1 h' sf := fun x hx => by
  obtain ⟨q1, q2, q3⟩ := S x hx
  exact ⟨q1, Nat.lt_of_lt_of_le q2 A.2.1, A.safe q2 q3⟩
theorem SfOk.cons (S : SfOk Z EL vm h sf) (q1 : Z.heap.size ≤ x) (q2 : x < h.size) (q3 : Safe Z EL vm h x) : SfOk Z EL vm h (x :: sf) := fun y hy => by
  rcases List.mem_cons.mp hy with rfl | hy
  · exact ⟨q1, q2, q3⟩
  · exact S y hy
theorem SfOk.safes (S : SfOk Z EL vm h sf) (q : ∀ x ∈ ws, x ∈ sf) : ∀ x ∈ ws, Safe Z EL vm h x := fun x hx => (S x (q x hx)).2.2
end Facts
section Core
variable {l : Launch} {Z : State} {a0 : Array Value} {EL : List (String × Nat)} {y : MethodName} {bytes : ByteArray} {maxL : Nat} {ret : Option FieldType} {rm : Room} {Q : Option Value → Heap → Prop} {h : Heap} {k n k' n' : Nat} {sf sf' : List Addr} {pc pc' : Nat} {L : Array Slot} {S : List Value}
variable {p : Program} {e : Env} {R : Room} {s : State} {m : MethodId} {args : Array Value} {below : List Frame} {meth : Method} {c : Code} {T : State} {own : String}
theorem Wk.here (w : Wk p l e R s m args below meth c Z a0 EL own sf k n T h) : At T m c below := by obtain ⟨_, _, _, X, -⟩ := w; exact X.here
theorem Wk.mono (w : Wk p l e R s m args below meth c Z a0 EL own sf k n T h) (hk : k ≤ k') (hn : n ≤ n') (q : ∀ x ∈ sf', x ∈ sf) : Wk p l e R s m args below meth c Z a0 EL own sf' k' n' T h := by
  obtain ⟨vm0, locs, k0, X, r1, r2, r3, r4, r5, r6, r7, r8, r9, r10⟩ := w
  exact ⟨vm0, locs, k0, X.mono hk hn, r1, r2, r3, r4, r5, r6, r7, r8, r9, r10.sub q⟩
theorem Seg.mono (hk : k ≤ k') (hn : n ≤ n') (q : ∀ x ∈ sf', x ∈ sf) (g : Seg l Z a0 EL y bytes maxL ret rm Q h k' n' sf' pc L S) : Seg l Z a0 EL y bytes maxL ret rm Q h k n sf pc L S :=
  fun p e s m args below meth c T C w => g p e s m args below meth c T C (w.mono hk hn q)
theorem Seg.post {Q' : Option Value → Heap → Prop} (q : ∀ v h, Q' v h → Q v h) (g : Seg l Z a0 EL y bytes maxL ret rm Q' h k n sf pc L S) : Seg l Z a0 EL y bytes maxL ret rm Q h k n sf pc L S :=
  fun p e s m args below meth c T C w => by
    obtain ⟨s₂, o, h1, h2, h3, v, Ls, h4, ⟨h5, h6, h7⟩, h8⟩ := g p e s m args below meth c T C w
    exact ⟨s₂, o, h1, h2, h3, v, Ls, h4, ⟨h5, h6, q _ _ h7⟩, h8⟩
theorem Gl.st {u u' : State} (hs : ∀ t, Steps p.tables e below u' t → Steps p.tables e below u t) (g : Gl p e below s Z EL Q k n u') : Gl p e below s Z EL Q k n u := by
  obtain ⟨s₂, o, h1, r⟩ := g
  exact ⟨s₂, o, hs _ h1, r⟩
theorem Seg.start (g : Ext Z.heap h → Seg l Z a0 EL y bytes maxL ret rm Q h k n sf pc L S) : Seg l Z a0 EL y bytes maxL ret rm Q h k n sf pc L S :=
  fun p e s m args below meth c T C w => by
    obtain ⟨vm0, locs, k0, X, r1, r2, r3, r4, r5, r6, r7, r8, r9, r10⟩ := w
    exact g r8 p e s m args below meth c T C ⟨vm0, locs, k0, X, r1, r2, r3, r4, r5, r6, r7, r8, r9, r10⟩
/-- a plain step -/
theorem Seg.plain {L' : Array Slot} {S' : List Value} (hs : ∀ (p : Program) (e : Env) (m : MethodId) (below : List Frame) (c : Code) (T : State) (t : State), p.tables.exec = Jvm.exec → c.code = bytes → At T m c below → Steps p.tables e below (T.setTop (mkF m pc' L' S')) t → Steps p.tables e below (T.setTop (mkF m pc L S)) t)
    (g : Seg l Z a0 EL y bytes maxL ret rm Q h k n sf pc' L' S') : Seg l Z a0 EL y bytes maxL ret rm Q h k n sf pc L S :=
  fun p e s m args below meth c T C w => Gl.st (fun t => hs p e m below c T t C.1 C.2.1 w.here) (g p e s m args below meth c T C w)
theorem Ct.of_seg {as' : Array Value} {ws : List Jvm.Cond} (hpn : plainFor y = true) (hEL : EW Z a0 EL) (hent : ∀ m, entryFrame m as' maxL = mkF m 0 L []) (g : Seg l Z a0 EL y bytes maxL ret rm Q h 0 0 sf 0 L []) :
    Ct l Z EL sf ws y bytes maxL ret rm as' h Q := by
  refine MetFree.of_bodySF hpn hisR ?_
  intro p e s m args below meth c s₁ Bd hml0 hP hK
  obtain ⟨rfl, hZ, hh, hC, hSf, hZ0⟩ := hP
  subst hh
  have X0 : Stand p l e rm (s.setVm s.vm) m _ below meth c s₁ [] 0 0 := Stand.of_body Bd
  have e0 : s₁.heap = s.heap := by rw [Bd.state]; rfl
  have hown : s.vm.findClass y.cls = some m.cls := findClass_of_methodNamed Bd.named
  rw [hent m]
  exact g p e s m _ below meth c s₁ ⟨Bd.exec, Bd.bytes, hml0, Bd.returns, Bd.notSynchronized, (name_of_methodNamed Bd.named Bd.method).1⟩ ⟨s.vm, [], 0, X0, e0, (State.WarmedH.refl s).since 0, Nat.zero_le _, hZ, hown, CHr.refl hC, Fr.nil _, hZ0, hEL, hSf⟩
theorem Wk.out (w : Wk p l e R s m args below meth c Z a0 EL own sf k n T h) (C : Cx p meth c y bytes maxL ret) {v : Option Value} (hv : ret = none → v = none) (hQ : Q v h) (hk : k ≤ R.cells) (hn : n ≤ R.slots) {u : State}
    (hs : ∀ (vm0 : Vm) (locs : List Loc), Stand p l e R (s.setVm vm0) m args below meth c T locs k n → ∀ fs, (∀ (f : JFrame) (acts : List Action), f.method = m → f.locked = none → f.entered = [] → (doReturn e (T.setTop f) acts v).1 = T.setFrames fs) → Steps p.tables e below u (T.setFrames fs)) : Gl p e below s Z EL Q R.cells R.slots u := by
  obtain ⟨vm0, locs, k0, X, rfl, r2, r3, r4, r5, r6, r7, r8, r9, r10⟩ := w
  obtain ⟨C1, C2, C3, C4, C5, C6⟩ := C
  obtain ⟨fs, h1, h2, h3, ⟨-, e1, e2, e3⟩⟩ := X.leaveW r2 r3 (v := v) (fun q => hv (C4 ▸ q)) C5
  refine ⟨_, _, hs vm0 locs X fs h1, h2, h3, v, locs, rfl, ⟨r7, r8, hQ⟩, ?_, ⟨v, rfl⟩, e1, e2, e3.mono hk hn⟩
  have A := CHv.at X r4 r9 r6.1
  exact r6.trans A
/-- returns -/
theorem Seg.retI {v : Int32} (hret : ret = some .int) (hd : decode bytes pc = .ok (.ireturn, 1)) (hk : k ≤ rm.cells) (hn : n ≤ rm.slots) (hQ : Q (some (.int v)) h) : Seg l Z a0 EL y bytes maxL ret rm Q h k n sf pc L [.int v] :=
  fun p e s m args below meth c T C w => w.out C (fun q => by rw [hret] at q; cases q) hQ hk hn fun vm0 locs X fs hl => X.ireturnOut C.1 (t := .int) (C.2.2.2.1.trans hret) rfl (Or.inl rfl) (hb C.2.1 hd) hl
theorem Seg.retN {v w : Int32} {t : FieldType} (hret : ret = some t) (ht : t = .boolean ∨ t = .byte ∨ t = .char ∨ t = .short) (hv : nar t v = w) (hd : decode bytes pc = .ok (.ireturn, 1)) (hk : k ≤ rm.cells) (hn : n ≤ rm.slots) (hQ : Q (some (.int w)) h) : Seg l Z a0 EL y bytes maxL ret rm Q h k n sf pc L [.int v] :=
  fun p e s m args below meth c T C w' => by
    subst hv
    exact w'.out C (fun q => by rw [hret] at q; cases q) hQ hk hn fun vm0 locs X fs hl => RoadKit.retN X C.1 (t := t) (C.2.2.2.1.trans hret) ht (hb C.2.1 hd) hl
theorem Seg.retA {v : Value} {t : FieldType} (hret : ret = some t) (ht : t.isReference = true) (hv : v.isRef = true) (hd : decode bytes pc = .ok (.areturn, 1)) (hk : k ≤ rm.cells) (hn : n ≤ rm.slots) (hQ : Q (some v) h) : Seg l Z a0 EL y bytes maxL ret rm Q h k n sf pc L [v] :=
  fun p e s m args below meth c T C w => w.out C (fun q => by rw [hret] at q; cases q) hQ hk hn fun vm0 locs X fs hl => X.areturnOut C.1 hv (C.2.2.2.1.trans hret) ht (hb C.2.1 hd) hl
theorem Seg.retL {v : Int64} (hret : ret = some .long) (hd : decode bytes pc = .ok (.lreturn, 1)) (hk : k ≤ rm.cells) (hn : n ≤ rm.slots) (hQ : Q (some (.long v)) h) : Seg l Z a0 EL y bytes maxL ret rm Q h k n sf pc L [.long v] :=
  fun p e s m args below meth c T C w => w.out C (fun q => by rw [hret] at q; cases q) hQ hk hn fun vm0 locs X fs hl => X.lreturnOut C.1 (C.2.2.2.1.trans hret) (hb C.2.1 hd) hl
theorem Seg.ret0 (hret : ret = none) (hd : decode bytes pc = .ok (.return_, 1)) (hk : k ≤ rm.cells) (hn : n ≤ rm.slots) (hQ : Q none h) : Seg l Z a0 EL y bytes maxL ret rm Q h k n sf pc L [] :=
  fun p e s m args below meth c T C w => w.out C (fun _ => rfl) hQ hk hn fun vm0 locs X fs hl => X.returnOut C.1 (C.2.2.2.1.trans hret) (hb C.2.1 hd) hl
end Core
section Plain
variable {l : Launch} {Z : State} {a0 : Array Value} {EL : List (String × Nat)} {y : MethodName} {bytes : ByteArray} {maxL : Nat} {ret : Option FieldType} {rm : Room} {Q : Option Value → Heap → Prop} {h : Heap} {k n : Nat} {sf : List Addr} {pc pc' : Nat} {L : Array Slot} {S : List Value}
theorem Seg.iloadN {i : Fin 4} {v : Int32} (hd : decode bytes pc = .ok (.iload_n i, 1)) (hl : L[i.val]? = some (.val (.int v))) (hp : pc + 1 = pc') (g : Seg l Z a0 EL y bytes maxL ret rm Q h k n sf pc' L (.int v :: S)) : Seg l Z a0 EL y bytes maxL ret rm Q h k n sf pc L S := by
  subst hp
  exact Seg.plain (fun p e m below c T t hx hc ha hr => XS.iloadN ha hx rfl (hb hc hd) hl hr) g
theorem Seg.iload {i : Nat} {v : Int32} (hd : decode bytes pc = .ok (.iload i, 2)) (hl : L[i]? = some (.val (.int v))) (hp : pc + 2 = pc') (g : Seg l Z a0 EL y bytes maxL ret rm Q h k n sf pc' L (.int v :: S)) : Seg l Z a0 EL y bytes maxL ret rm Q h k n sf pc L S := by
  subst hp
  exact Seg.plain (fun p e m below c T t hx hc ha hr => XS.iload ha hx rfl (hb hc hd) hl hr) g
theorem Seg.lloadN {i : Fin 4} {v : Int64} (hd : decode bytes pc = .ok (.lload_n i, 1)) (hl : L[i.val]? = some (.val (.long v))) (hp : pc + 1 = pc') (g : Seg l Z a0 EL y bytes maxL ret rm Q h k n sf pc' L (.long v :: S)) : Seg l Z a0 EL y bytes maxL ret rm Q h k n sf pc L S := by
  subst hp
  exact Seg.plain (fun p e m below c T t hx hc ha hr => XT.lloadN ha hx rfl (hb hc hd) hl hr) g
theorem Seg.lload {i : Nat} {v : Int64} (hd : decode bytes pc = .ok (.lload i, 2)) (hl : L[i]? = some (.val (.long v))) (hp : pc + 2 = pc') (g : Seg l Z a0 EL y bytes maxL ret rm Q h k n sf pc' L (.long v :: S)) : Seg l Z a0 EL y bytes maxL ret rm Q h k n sf pc L S := by
  subst hp
  exact Seg.plain (fun p e m below c T t hx hc ha hr => XT.lload ha hx rfl (hb hc hd) hl hr) g
theorem Seg.aloadN {i : Fin 4} {v : Value} (hd : decode bytes pc = .ok (.aload_n i, 1)) (hl : L[i.val]? = some (.val v)) (hv : v.isRef = true) (hp : pc + 1 = pc') (g : Seg l Z a0 EL y bytes maxL ret rm Q h k n sf pc' L (v :: S)) : Seg l Z a0 EL y bytes maxL ret rm Q h k n sf pc L S := by
  subst hp
  exact Seg.plain (fun p e m below c T t hx hc ha hr => XS.aloadN ha hx rfl (hb hc hd) hl hv hr) g
theorem Seg.aload {i : Nat} {v : Value} (hd : decode bytes pc = .ok (.aload i, 2)) (hl : L[i]? = some (.val v)) (hv : v.isRef = true) (hp : pc + 2 = pc') (g : Seg l Z a0 EL y bytes maxL ret rm Q h k n sf pc' L (v :: S)) : Seg l Z a0 EL y bytes maxL ret rm Q h k n sf pc L S := by
  subst hp
  exact Seg.plain (fun p e m below c T t hx hc ha hr => XS.aload ha hx rfl (hb hc hd) hl hv hr) g
theorem Seg.istoreN {i : Fin 4} {v : Int32} {L' : Array Slot} (hd : decode bytes pc = .ok (.istore_n i, 1)) (hl : storeLocals L i.val (.int v) = some L') (hp : pc + 1 = pc') (g : Seg l Z a0 EL y bytes maxL ret rm Q h k n sf pc' L' S) : Seg l Z a0 EL y bytes maxL ret rm Q h k n sf pc L (.int v :: S) := by
  subst hp
  exact Seg.plain (fun p e m below c T t hx hc ha hr => XS.istoreN ha hx rfl (hb hc hd) rfl hl hr) g
theorem Seg.istore {i : Nat} {v : Int32} {L' : Array Slot} (hd : decode bytes pc = .ok (.istore i, 2)) (hl : storeLocals L i (.int v) = some L') (hp : pc + 2 = pc') (g : Seg l Z a0 EL y bytes maxL ret rm Q h k n sf pc' L' S) : Seg l Z a0 EL y bytes maxL ret rm Q h k n sf pc L (.int v :: S) := by
  subst hp
  exact Seg.plain (fun p e m below c T t hx hc ha hr => XS.istore ha hx rfl (hb hc hd) rfl hl hr) g
theorem Seg.lstoreN {i : Fin 4} {v : Int64} {L' : Array Slot} (hd : decode bytes pc = .ok (.lstore_n i, 1)) (hl : storeLocals L i.val (.long v) = some L') (hp : pc + 1 = pc') (g : Seg l Z a0 EL y bytes maxL ret rm Q h k n sf pc' L' S) : Seg l Z a0 EL y bytes maxL ret rm Q h k n sf pc L (.long v :: S) := by
  subst hp
  exact Seg.plain (fun p e m below c T t hx hc ha hr => XT.lstoreN ha hx rfl (hb hc hd) rfl hl hr) g
theorem Seg.lstore {i : Nat} {v : Int64} {L' : Array Slot} (hd : decode bytes pc = .ok (.lstore i, 2)) (hl : storeLocals L i (.long v) = some L') (hp : pc + 2 = pc') (g : Seg l Z a0 EL y bytes maxL ret rm Q h k n sf pc' L' S) : Seg l Z a0 EL y bytes maxL ret rm Q h k n sf pc L (.long v :: S) := by
  subst hp
  exact Seg.plain (fun p e m below c T t hx hc ha hr => XT.lstore ha hx rfl (hb hc hd) rfl hl hr) g
theorem Seg.astoreN {i : Fin 4} {v : Value} {L' : Array Slot} (hd : decode bytes pc = .ok (.astore_n i, 1)) (hv : v.isRef = true) (hl : storeLocals L i.val v = some L') (hp : pc + 1 = pc') (g : Seg l Z a0 EL y bytes maxL ret rm Q h k n sf pc' L' S) : Seg l Z a0 EL y bytes maxL ret rm Q h k n sf pc L (v :: S) := by
  subst hp
  exact Seg.plain (fun p e m below c T t hx hc ha hr => XS.astoreN ha hx rfl (hb hc hd) rfl hv hl hr) g
theorem Seg.astore {i : Nat} {v : Value} {L' : Array Slot} (hd : decode bytes pc = .ok (.astore i, 2)) (hv : v.isRef = true) (hl : storeLocals L i v = some L') (hp : pc + 2 = pc') (g : Seg l Z a0 EL y bytes maxL ret rm Q h k n sf pc' L' S) : Seg l Z a0 EL y bytes maxL ret rm Q h k n sf pc L (v :: S) := by
  subst hp
  exact Seg.plain (fun p e m below c T t hx hc ha hr => XS.astore ha hx rfl (hb hc hd) rfl hv hl hr) g
theorem Seg.iconst {i : Int} {v : Int32} (hd : decode bytes pc = .ok (.iconst i, 1)) (hv : Int32.ofInt i = v) (hp : pc + 1 = pc') (g : Seg l Z a0 EL y bytes maxL ret rm Q h k n sf pc' L (.int v :: S)) : Seg l Z a0 EL y bytes maxL ret rm Q h k n sf pc L S := by
  subst hp
  exact Seg.plain (fun p e m below c T t hx hc ha hr => XT.iconstV ha hx rfl v (hb hc hd) hv hr) g
theorem Seg.bipush {i : Int} {v : Int32} (hd : decode bytes pc = .ok (.bipush i, 2)) (hv : (Int8.ofInt i).toInt32 = v) (hp : pc + 2 = pc') (g : Seg l Z a0 EL y bytes maxL ret rm Q h k n sf pc' L (.int v :: S)) : Seg l Z a0 EL y bytes maxL ret rm Q h k n sf pc L S := by
  subst hp
  exact Seg.plain (fun p e m below c T t hx hc ha hr => XT.bipushV ha hx rfl v (hb hc hd) hv hr) g
theorem Seg.sipush {i : Int} {v : Int32} (hd : decode bytes pc = .ok (.sipush i, 3)) (hv : (Int16.ofInt i).toInt32 = v) (hp : pc + 3 = pc') (g : Seg l Z a0 EL y bytes maxL ret rm Q h k n sf pc' L (.int v :: S)) : Seg l Z a0 EL y bytes maxL ret rm Q h k n sf pc L S := by
  subst hp
  exact Seg.plain (fun p e m below c T t hx hc ha hr => XT.sipushV ha hx rfl v (hb hc hd) hv hr) g
theorem Seg.lconst {i : Fin 2} {v : Int64} (hd : decode bytes pc = .ok (.lconst i, 1)) (hv : Int64.ofNat i = v) (hp : pc + 1 = pc') (g : Seg l Z a0 EL y bytes maxL ret rm Q h k n sf pc' L (.long v :: S)) : Seg l Z a0 EL y bytes maxL ret rm Q h k n sf pc L S := by
  subst hp
  exact Seg.plain (fun p e m below c T t hx hc ha hr => XT.lconstV ha hx rfl v (hb hc hd) hv hr) g
theorem Seg.anull  (hd : decode bytes pc = .ok (.aconst_null, 1))  (hp : pc + 1 = pc') (g : Seg l Z a0 EL y bytes maxL ret rm Q h k n sf pc' L (.null :: S)) : Seg l Z a0 EL y bytes maxL ret rm Q h k n sf pc L S := by
  subst hp
  exact Seg.plain (fun p e m below c T t hx hc ha hr => XS.aconstNull ha hx rfl (hb hc hd) hr) g
theorem Seg.iadd {x z v : Int32} (hd : decode bytes pc = .ok (.iadd, 1)) (hv : x + z = v) (hp : pc + 1 = pc') (g : Seg l Z a0 EL y bytes maxL ret rm Q h k n sf pc' L (.int v :: S)) : Seg l Z a0 EL y bytes maxL ret rm Q h k n sf pc L (.int z :: .int x :: S) := by
  subst hp
  exact Seg.plain (fun p e m below c T t hx hc ha hr => XS.iadd ha hx rfl (hb hc hd) rfl (by subst hv; exact hr)) g
theorem Seg.isub {x z v : Int32} (hd : decode bytes pc = .ok (.isub, 1)) (hv : x - z = v) (hp : pc + 1 = pc') (g : Seg l Z a0 EL y bytes maxL ret rm Q h k n sf pc' L (.int v :: S)) : Seg l Z a0 EL y bytes maxL ret rm Q h k n sf pc L (.int z :: .int x :: S) := by
  subst hp
  exact Seg.plain (fun p e m below c T t hx hc ha hr => XS.isub ha hx rfl (hb hc hd) rfl (by subst hv; exact hr)) g
theorem Seg.imul {x z v : Int32} (hd : decode bytes pc = .ok (.imul, 1)) (hv : x * z = v) (hp : pc + 1 = pc') (g : Seg l Z a0 EL y bytes maxL ret rm Q h k n sf pc' L (.int v :: S)) : Seg l Z a0 EL y bytes maxL ret rm Q h k n sf pc L (.int z :: .int x :: S) := by
  subst hp
  exact Seg.plain (fun p e m below c T t hx hc ha hr => XS.imul ha hx rfl (hb hc hd) rfl (by subst hv; exact hr)) g
theorem Seg.iand {x z v : Int32} (hd : decode bytes pc = .ok (.iand, 1)) (hv : x &&& z = v) (hp : pc + 1 = pc') (g : Seg l Z a0 EL y bytes maxL ret rm Q h k n sf pc' L (.int v :: S)) : Seg l Z a0 EL y bytes maxL ret rm Q h k n sf pc L (.int z :: .int x :: S) := by
  subst hp
  exact Seg.plain (fun p e m below c T t hx hc ha hr => XS.iand ha hx rfl (hb hc hd) rfl (by subst hv; exact hr)) g
theorem Seg.ior {x z v : Int32} (hd : decode bytes pc = .ok (.ior, 1)) (hv : x ||| z = v) (hp : pc + 1 = pc') (g : Seg l Z a0 EL y bytes maxL ret rm Q h k n sf pc' L (.int v :: S)) : Seg l Z a0 EL y bytes maxL ret rm Q h k n sf pc L (.int z :: .int x :: S) := by
  subst hp
  exact Seg.plain (fun p e m below c T t hx hc ha hr => XT.ior ha hx rfl (hb hc hd) rfl (by subst hv; exact hr)) g
theorem Seg.ixor {x z v : Int32} (hd : decode bytes pc = .ok (.ixor, 1)) (hv : x ^^^ z = v) (hp : pc + 1 = pc') (g : Seg l Z a0 EL y bytes maxL ret rm Q h k n sf pc' L (.int v :: S)) : Seg l Z a0 EL y bytes maxL ret rm Q h k n sf pc L (.int z :: .int x :: S) := by
  subst hp
  exact Seg.plain (fun p e m below c T t hx hc ha hr => XT.ixor ha hx rfl (hb hc hd) rfl (by subst hv; exact hr)) g
theorem Seg.ishl {x z v : Int32} (hd : decode bytes pc = .ok (.ishl, 1)) (hv : x <<< (z &&& 31) = v) (hp : pc + 1 = pc') (g : Seg l Z a0 EL y bytes maxL ret rm Q h k n sf pc' L (.int v :: S)) : Seg l Z a0 EL y bytes maxL ret rm Q h k n sf pc L (.int z :: .int x :: S) := by
  subst hp
  exact Seg.plain (fun p e m below c T t hx hc ha hr => XT.ishl ha hx rfl (hb hc hd) rfl (by subst hv; exact hr)) g
theorem Seg.ishr {x z v : Int32} (hd : decode bytes pc = .ok (.ishr, 1)) (hv : x >>> (z &&& 31) = v) (hp : pc + 1 = pc') (g : Seg l Z a0 EL y bytes maxL ret rm Q h k n sf pc' L (.int v :: S)) : Seg l Z a0 EL y bytes maxL ret rm Q h k n sf pc L (.int z :: .int x :: S) := by
  subst hp
  exact Seg.plain (fun p e m below c T t hx hc ha hr => XT.ishr ha hx rfl (hb hc hd) rfl (by subst hv; exact hr)) g
theorem Seg.iushr {x z v : Int32} (hd : decode bytes pc = .ok (.iushr, 1)) (hv : (x.toUInt32 >>> (z &&& 31).toUInt32).toInt32 = v) (hp : pc + 1 = pc') (g : Seg l Z a0 EL y bytes maxL ret rm Q h k n sf pc' L (.int v :: S)) : Seg l Z a0 EL y bytes maxL ret rm Q h k n sf pc L (.int z :: .int x :: S) := by
  subst hp
  exact Seg.plain (fun p e m below c T t hx hc ha hr => XT.iushr ha hx rfl (hb hc hd) rfl (by subst hv; exact hr)) g
theorem Seg.ladd {x z v : Int64} (hd : decode bytes pc = .ok (.ladd, 1)) (hv : x + z = v) (hp : pc + 1 = pc') (g : Seg l Z a0 EL y bytes maxL ret rm Q h k n sf pc' L (.long v :: S)) : Seg l Z a0 EL y bytes maxL ret rm Q h k n sf pc L (.long z :: .long x :: S) := by
  subst hp
  exact Seg.plain (fun p e m below c T t hx hc ha hr => XT.ladd ha hx rfl (hb hc hd) rfl (by subst hv; exact hr)) g
theorem Seg.lsub {x z v : Int64} (hd : decode bytes pc = .ok (.lsub, 1)) (hv : x - z = v) (hp : pc + 1 = pc') (g : Seg l Z a0 EL y bytes maxL ret rm Q h k n sf pc' L (.long v :: S)) : Seg l Z a0 EL y bytes maxL ret rm Q h k n sf pc L (.long z :: .long x :: S) := by
  subst hp
  exact Seg.plain (fun p e m below c T t hx hc ha hr => XT.lsub ha hx rfl (hb hc hd) rfl (by subst hv; exact hr)) g
theorem Seg.lmul {x z v : Int64} (hd : decode bytes pc = .ok (.lmul, 1)) (hv : x * z = v) (hp : pc + 1 = pc') (g : Seg l Z a0 EL y bytes maxL ret rm Q h k n sf pc' L (.long v :: S)) : Seg l Z a0 EL y bytes maxL ret rm Q h k n sf pc L (.long z :: .long x :: S) := by
  subst hp
  exact Seg.plain (fun p e m below c T t hx hc ha hr => XT.lmul ha hx rfl (hb hc hd) rfl (by subst hv; exact hr)) g
theorem Seg.land {x z v : Int64} (hd : decode bytes pc = .ok (.land, 1)) (hv : x &&& z = v) (hp : pc + 1 = pc') (g : Seg l Z a0 EL y bytes maxL ret rm Q h k n sf pc' L (.long v :: S)) : Seg l Z a0 EL y bytes maxL ret rm Q h k n sf pc L (.long z :: .long x :: S) := by
  subst hp
  exact Seg.plain (fun p e m below c T t hx hc ha hr => XT.land ha hx rfl (hb hc hd) rfl (by subst hv; exact hr)) g
theorem Seg.lushr {x v : Int64} {z : Int32} (hd : decode bytes pc = .ok (.lushr, 1)) (hv : XT.ushrL x z = v) (hp : pc + 1 = pc') (g : Seg l Z a0 EL y bytes maxL ret rm Q h k n sf pc' L (.long v :: S)) : Seg l Z a0 EL y bytes maxL ret rm Q h k n sf pc L (.int z :: .long x :: S) := by
  subst hp
  exact Seg.plain (fun p e m below c T t hx hc ha hr => XT.lushr ha hx rfl (hb hc hd) rfl (by subst hv; exact hr)) g
theorem Seg.lrem {x z v : Int64} (hd : decode bytes pc = .ok (.lrem, 1)) (hz : z ≠ 0) (hv : x - (x / z) * z = v) (hp : pc + 1 = pc') (g : Seg l Z a0 EL y bytes maxL ret rm Q h k n sf pc' L (.long v :: S)) : Seg l Z a0 EL y bytes maxL ret rm Q h k n sf pc L (.long z :: .long x :: S) := by
  subst hp
  exact Seg.plain (fun p e m below c T t hx hc ha hr => XT.lrem ha hx rfl (hb hc hd) rfl hz (by subst hv; exact hr)) g
theorem Seg.i2l {x : Int32} {v : Int64} (hd : decode bytes pc = .ok (.i2l, 1)) (hv : x.toInt64 = v) (hp : pc + 1 = pc') (g : Seg l Z a0 EL y bytes maxL ret rm Q h k n sf pc' L (.long v :: S)) : Seg l Z a0 EL y bytes maxL ret rm Q h k n sf pc L (.int x :: S) := by
  subst hp
  exact Seg.plain (fun p e m below c T t hx hc ha hr => XT.i2l ha hx rfl (hb hc hd) rfl (by subst hv; exact hr)) g
theorem Seg.l2i {x : Int64} {v : Int32} (hd : decode bytes pc = .ok (.l2i, 1)) (hv : x.toInt32 = v) (hp : pc + 1 = pc') (g : Seg l Z a0 EL y bytes maxL ret rm Q h k n sf pc' L (.int v :: S)) : Seg l Z a0 EL y bytes maxL ret rm Q h k n sf pc L (.long x :: S) := by
  subst hp
  exact Seg.plain (fun p e m below c T t hx hc ha hr => XT.l2i ha hx rfl (hb hc hd) rfl (by subst hv; exact hr)) g
theorem Seg.i2b {x : Int32} {v : Int32} (hd : decode bytes pc = .ok (.i2b, 1)) (hv : x.toInt8.toInt32 = v) (hp : pc + 1 = pc') (g : Seg l Z a0 EL y bytes maxL ret rm Q h k n sf pc' L (.int v :: S)) : Seg l Z a0 EL y bytes maxL ret rm Q h k n sf pc L (.int x :: S) := by
  subst hp
  exact Seg.plain (fun p e m below c T t hx hc ha hr => XT.i2b ha hx rfl (hb hc hd) rfl (by subst hv; exact hr)) g
theorem Seg.i2c {x : Int32} {v : Int32} (hd : decode bytes pc = .ok (.i2c, 1)) (hv : x.toUInt32.toUInt16.toUInt32.toInt32 = v) (hp : pc + 1 = pc') (g : Seg l Z a0 EL y bytes maxL ret rm Q h k n sf pc' L (.int v :: S)) : Seg l Z a0 EL y bytes maxL ret rm Q h k n sf pc L (.int x :: S) := by
  subst hp
  exact Seg.plain (fun p e m below c T t hx hc ha hr => XT.i2c ha hx rfl (hb hc hd) rfl (by subst hv; exact hr)) g
theorem Seg.irem {x z v : Int32} (hd : decode bytes pc = .ok (.irem, 1)) (hz : z ≠ 0) (hv : x % z = v) (hp : pc + 1 = pc') (g : Seg l Z a0 EL y bytes maxL ret rm Q h k n sf pc' L (.int v :: S)) : Seg l Z a0 EL y bytes maxL ret rm Q h k n sf pc L (.int z :: .int x :: S) := by
  subst hp
  exact Seg.plain (fun p e m below c T t hx hc ha hr => XS.irem ha hx rfl (hb hc hd) rfl hz (by subst hv; rw [irem_eq_mod]; exact hr)) g
theorem Seg.lcmp {x z : Int64} {v : Int32} (hd : decode bytes pc = .ok (.lcmp, 1)) (hv : lcmpW x z = v) (hp : pc + 1 = pc') (g : Seg l Z a0 EL y bytes maxL ret rm Q h k n sf pc' L (.int v :: S)) : Seg l Z a0 EL y bytes maxL ret rm Q h k n sf pc L (.long z :: .long x :: S) := by
  subst hp
  exact Seg.plain (fun p e m below c T t hx hc ha hr => XT.lcmp ha hx rfl (hb hc hd) rfl (by subst hv; exact hr)) g
theorem Seg.dup {v : Value} (hd : decode bytes pc = .ok (.dup, 1)) (hv : v.category = 1) (hp : pc + 1 = pc') (g : Seg l Z a0 EL y bytes maxL ret rm Q h k n sf pc' L (v :: v :: S)) : Seg l Z a0 EL y bytes maxL ret rm Q h k n sf pc L (v :: S) := by
  subst hp
  exact Seg.plain (fun p e m below c T t hx hc ha hr => XS.dup ha hx rfl (hb hc hd) rfl hv hr) g
theorem Seg.dupX1 {v w : Value} (hd : decode bytes pc = .ok (.dup_x1, 1)) (hv : v.category = 1) (hw : w.category = 1) (hp : pc + 1 = pc') (g : Seg l Z a0 EL y bytes maxL ret rm Q h k n sf pc' L (v :: w :: v :: S)) : Seg l Z a0 EL y bytes maxL ret rm Q h k n sf pc L (v :: w :: S) := by
  subst hp
  exact Seg.plain (fun p e m below c T t hx hc ha hr => XT.dupX1 ha hx rfl (hb hc hd) rfl hv hw hr) g
theorem Seg.pop {v : Value} (hd : decode bytes pc = .ok (.pop, 1)) (hv : v.category = 1) (hp : pc + 1 = pc') (g : Seg l Z a0 EL y bytes maxL ret rm Q h k n sf pc' L S) : Seg l Z a0 EL y bytes maxL ret rm Q h k n sf pc L (v :: S) := by
  subst hp
  exact Seg.plain (fun p e m below c T t hx hc ha hr => XT.pop ha hx rfl (hb hc hd) rfl hv hr) g
theorem Seg.iinc {i : Nat} {d : Int} {x v : Int32} {L' : Array Slot} (hd : decode bytes pc = .ok (.iinc i d, 3)) (hv : Int32.ofInt d = v) (hl : L[i]? = some (.val (.int x))) {z : Int32} (hz : x + v = z) (hl' : storeLocals L i (.int z) = some L') (hp : pc + 3 = pc') (g : Seg l Z a0 EL y bytes maxL ret rm Q h k n sf pc' L' S) : Seg l Z a0 EL y bytes maxL ret rm Q h k n sf pc L S := by
  subst hp
  exact Seg.plain (fun p e m below c T t hx hc ha hr => XT.iincV ha hx rfl v (hb hc hd) hv hl (by rw [hz]; exact hl') hr) g
theorem Seg.goto {o : Int} (hd : decode bytes pc = .ok (.goto o, 3))  (ho : 0 ≤ (pc : Int) + o) (hp : ((pc : Int) + o).toNat = pc') (g : Seg l Z a0 EL y bytes maxL ret rm Q h k n sf pc' L S) : Seg l Z a0 EL y bytes maxL ret rm Q h k n sf pc L S := by
  subst hp
  exact Seg.plain (fun p e m below c T t hx hc ha hr => XS.goto ha hx rfl rfl (hb hc hd) ho rfl hr) g
theorem Seg.ifY {cd : ClassFile.Cond} {o : Int} {x : Int32} (hd : decode bytes pc = .ok (.ifCond cd o, 3)) (hc' : ifCond.holds cd x = true) (ho : 0 ≤ (pc : Int) + o) (hp : ((pc : Int) + o).toNat = pc') (g : Seg l Z a0 EL y bytes maxL ret rm Q h k n sf pc' L S) : Seg l Z a0 EL y bytes maxL ret rm Q h k n sf pc L (.int x :: S) := by
  subst hp
  exact Seg.plain (fun p e m below c T t hx hc ha hr => XS.ifYes ha hx rfl rfl (hb hc hd) rfl hc' ho rfl hr) g
theorem Seg.ifN {cd : ClassFile.Cond} {o : Int} {x : Int32} (hd : decode bytes pc = .ok (.ifCond cd o, 3)) (hc' : ifCond.holds cd x = false) (hp : pc + 3 = pc') (g : Seg l Z a0 EL y bytes maxL ret rm Q h k n sf pc' L S) : Seg l Z a0 EL y bytes maxL ret rm Q h k n sf pc L (.int x :: S) := by
  subst hp
  exact Seg.plain (fun p e m below c T t hx hc ha hr => XS.ifNo ha hx rfl (hb hc hd) rfl hc' hr) g
theorem Seg.icY {cd : ClassFile.Cond} {o : Int} {x z : Int32} (hd : decode bytes pc = .ok (.if_icmp cd o, 3)) (hc' : if_icmp.holds cd x z = true) (ho : 0 ≤ (pc : Int) + o) (hp : ((pc : Int) + o).toNat = pc') (g : Seg l Z a0 EL y bytes maxL ret rm Q h k n sf pc' L S) : Seg l Z a0 EL y bytes maxL ret rm Q h k n sf pc L (.int z :: .int x :: S) := by
  subst hp
  exact Seg.plain (fun p e m below c T t hx hc ha hr => XS.icmpYes ha hx rfl rfl (hb hc hd) rfl hc' ho rfl hr) g
theorem Seg.icN {cd : ClassFile.Cond} {o : Int} {x z : Int32} (hd : decode bytes pc = .ok (.if_icmp cd o, 3)) (hc' : if_icmp.holds cd x z = false) (hp : pc + 3 = pc') (g : Seg l Z a0 EL y bytes maxL ret rm Q h k n sf pc' L S) : Seg l Z a0 EL y bytes maxL ret rm Q h k n sf pc L (.int z :: .int x :: S) := by
  subst hp
  exact Seg.plain (fun p e m below c T t hx hc ha hr => XS.icmpNo ha hx rfl (hb hc hd) rfl hc' hr) g
theorem Seg.nullY {o : Int} (hd : decode bytes pc = .ok (.ifnull o, 3))  (ho : 0 ≤ (pc : Int) + o) (hp : ((pc : Int) + o).toNat = pc') (g : Seg l Z a0 EL y bytes maxL ret rm Q h k n sf pc' L S) : Seg l Z a0 EL y bytes maxL ret rm Q h k n sf pc L (.null :: S) := by
  subst hp
  exact Seg.plain (fun p e m below c T t hx hc ha hr => XS.ifnullYes ha hx rfl rfl (hb hc hd) rfl ho rfl hr) g
theorem Seg.nullN {o : Int} {a : Addr} (hd : decode bytes pc = .ok (.ifnull o, 3))  (hp : pc + 3 = pc') (g : Seg l Z a0 EL y bytes maxL ret rm Q h k n sf pc' L S) : Seg l Z a0 EL y bytes maxL ret rm Q h k n sf pc L (.ref a :: S) := by
  subst hp
  exact Seg.plain (fun p e m below c T t hx hc ha hr => XS.ifnullNo ha hx rfl (hb hc hd) rfl hr) g
theorem Seg.nonnY {o : Int} {a : Addr} (hd : decode bytes pc = .ok (.ifnonnull o, 3))  (ho : 0 ≤ (pc : Int) + o) (hp : ((pc : Int) + o).toNat = pc') (g : Seg l Z a0 EL y bytes maxL ret rm Q h k n sf pc' L S) : Seg l Z a0 EL y bytes maxL ret rm Q h k n sf pc L (.ref a :: S) := by
  subst hp
  exact Seg.plain (fun p e m below c T t hx hc ha hr => XT.ifnonnullYes ha hx rfl rfl (hb hc hd) rfl ho rfl hr) g
theorem Seg.nonnN {o : Int} (hd : decode bytes pc = .ok (.ifnonnull o, 3))  (hp : pc + 3 = pc') (g : Seg l Z a0 EL y bytes maxL ret rm Q h k n sf pc' L S) : Seg l Z a0 EL y bytes maxL ret rm Q h k n sf pc L (.null :: S) := by
  subst hp
  exact Seg.plain (fun p e m below c T t hx hc ha hr => XT.ifnonnullNo ha hx rfl (hb hc hd) rfl hr) g
theorem Seg.acY {cd : ClassFile.ACond} {o : Int} {x z : Value} (hd : decode bytes pc = .ok (.if_acmp cd o, 3)) (hx' : x.isRef = true) (hz' : z.isRef = true) (hc' : XT.acmp cd x z = true) (ho : 0 ≤ (pc : Int) + o) (hp : ((pc : Int) + o).toNat = pc') (g : Seg l Z a0 EL y bytes maxL ret rm Q h k n sf pc' L S) : Seg l Z a0 EL y bytes maxL ret rm Q h k n sf pc L (z :: x :: S) := by
  subst hp
  exact Seg.plain (fun p e m below c T t hx hc ha hr => XT.acmpYes ha hx rfl rfl (hb hc hd) rfl hx' hz' hc' ho rfl hr) g
theorem Seg.acN {cd : ClassFile.ACond} {o : Int} {x z : Value} (hd : decode bytes pc = .ok (.if_acmp cd o, 3)) (hx' : x.isRef = true) (hz' : z.isRef = true) (hc' : XT.acmp cd x z = false) (hp : pc + 3 = pc') (g : Seg l Z a0 EL y bytes maxL ret rm Q h k n sf pc' L S) : Seg l Z a0 EL y bytes maxL ret rm Q h k n sf pc L (z :: x :: S) := by
  subst hp
  exact Seg.plain (fun p e m below c T t hx hc ha hr => XT.acmpNo ha hx rfl (hb hc hd) rfl hx' hz' hc' hr) g
end Plain
section Heap
variable {l : Launch} {Z : State} {a0 : Array Value} {EL : List (String × Nat)} {y : MethodName} {bytes : ByteArray} {maxL : Nat} {ret : Option FieldType} {rm : Room} {Q : Option Value → Heap → Prop} {h : Heap} {k n : Nat} {sf : List Addr} {pc pc' : Nat} {L : Array Slot} {S : List Value}
variable {p : Program} {e : Env} {R : Room} {s : State} {m : MethodId} {args : Array Value} {below : List Frame} {meth : Method} {c : Code} {T : State} {own : String}
theorem Seg.newO {C : String} {idx sz : Nat} (w : (Cond.classLink y.cls idx C).before a0 Z = true) (wi : (Cond.instantiable C sz).before a0 Z = true) (wz : (Cond.initialized C).before a0 Z = true) (hd : decode bytes pc = .ok (.new idx, 3)) (hp : pc + 3 = pc') {k' n' : Nat} (hk : k + 1 = k') (hn : n + sz = n') (hk2 : k' ≤ rm.cells) (hn2 : n' ≤ rm.slots)
    (g : ∀ (x : Addr) (h' : Heap), Ext h h' → h.size = x → x < h'.size → Exa Z h' x C → (∀ {O nm d : String} {ty : FieldType}, Laid Z a0 C O nm d → parseFieldDescriptor d = some ty → Fld Z h' x O nm d (defaultValue ty)) → Seg l Z a0 EL y bytes maxL ret rm Q h' k' n' (x :: sf) pc' L (.ref x :: S)) :
    Seg l Z a0 EL y bytes maxL ret rm Q h k n sf pc L S := by
  subst hp hk hn
  intro p e s m args below meth c T C' w'
  obtain ⟨vm0, locs, k0, X, r1, r2, r3, r4, r5, r6, r7, r8, r9, r10⟩ := w'
  obtain ⟨T', h', X', e', E, A, D, -, st⟩ := RoadKit.newO X C'.1 r4 r5 w wi wz r1 (g := mkF m pc L S) rfl (hb C'.2.1 hd) hk2 hn2
  refine Gl.st st (g _ h' E rfl A.lt A D p e s m args below meth c T' C' ⟨vm0, locs, k0, X', e', r2, Nat.le_trans r3 E.1, r4, r5, r6.trans (CHr.ext E r6.1), r7, ext_tr r8 E, r9, ?_⟩)
  exact (r10.chr (CHr.ext E r6.1)).cons r8.1 A.lt ((Safe.new (Nat.le_refl _)).ext E r6.1)
theorem Seg.newP {aty : ArrayType} {ty : FieldType} {dv : Value} {z : Int32} (hty : newarray.typeOf aty = ty) (hdv : defaultValue ty = dv) (w : (Cond.arrayClass ty).before a0 Z = true) (hd : decode bytes pc = .ok (.newarray aty, 2)) (hp : pc + 2 = pc') (hz : ¬ z < 0) {cap : Nat} (hcap : z.toNatClampNeg ≤ cap) (hb8 : cap * 8 ≤ 536870912) {k' n' : Nat} (hk : k + 1 = k') (hn : n + cap = n') (hk2 : k' ≤ rm.cells) (hn2 : n' ≤ rm.slots)
    (g : ∀ (x : Addr) (h' : Heap) (kc : ClassId), Ext h h' → h.size = x → x < h'.size → Arv Z h' x kc ty z [] dv → Seg l Z a0 EL y bytes maxL ret rm Q h' k' n' (x :: sf) pc' L (.ref x :: S)) :
    Seg l Z a0 EL y bytes maxL ret rm Q h k n sf pc L (.int z :: S) := by
  subst hp hk hn hty hdv
  intro p e s m args below meth c T C' w'
  obtain ⟨vm0, locs, k0, X, r1, r2, r3, r4, r5, r6, r7, r8, r9, r10⟩ := w'
  obtain ⟨T', h', cA, X', e', E, A, st⟩ := RoadKit.newP X C'.1 r4 w r1 (g := mkF m pc L (.int z :: S)) rfl (hb C'.2.1 hd) rfl hz hcap hb8 hk2 hn2
  have V := Arv.new A hz
  refine Gl.st st (g _ h' cA E rfl A.lt V p e s m args below meth c T' C' ⟨vm0, locs, k0, X', e', r2, Nat.le_trans r3 E.1, r4, r5, r6.trans (CHr.ext E r6.1), r7, ext_tr r8 E, r9, ?_⟩)
  exact (r10.chr (CHr.ext E r6.1)).cons r8.1 A.lt ((Safe.new (Nat.le_refl _)).ext E r6.1)
theorem Seg.getF {R0 O nm d host : String} {idx : Nat} {a : Addr} {v : Value} (w : (Cond.fieldLink y.cls idx R0 nm d).before a0 Z = true ∨ (Cond.fieldLinkNest y.cls idx R0 nm d host).before a0 Z = true) (via : Via Z R0 O nm d) (F : Fld Z h a O nm d v) (hd : decode bytes pc = .ok (.getfield idx, 3)) (hp : pc + 3 = pc')
    (g : Seg l Z a0 EL y bytes maxL ret rm Q h k n sf pc' L (v :: S)) : Seg l Z a0 EL y bytes maxL ret rm Q h k n sf pc L (.ref a :: S) := by
  subst hp
  intro p e s m args below meth c T C' w'
  obtain ⟨vm0, locs, k0, X, r1, r2, r3, r4, r5, r⟩ := w'
  obtain ⟨T', X', e', st⟩ := RoadKit.getF X C'.1 r4 r5 w via r1 F (g := mkF m pc L (.ref a :: S)) rfl rfl (hb C'.2.1 hd)
  exact Gl.st st (g p e s m args below meth c T' C' ⟨vm0, locs, k0, X', e', r2, r3, r4, r5, r⟩)
theorem Seg.getS {R0 O nm d : String} {idx : Nat} {v : Value} (w : (Cond.fieldLink y.cls idx R0 nm d).before a0 Z = true) (via : Via Z R0 O nm d) (F : Sta Z Z.heap O nm d v) (hd : decode bytes pc = .ok (.getstatic idx, 3)) (hp : pc + 3 = pc')
    (g : Seg l Z a0 EL y bytes maxL ret rm Q h k n sf pc' L (v :: S)) : Seg l Z a0 EL y bytes maxL ret rm Q h k n sf pc L S := by
  subst hp
  intro p e s m args below meth c T C' w'
  obtain ⟨vm0, locs, k0, X, r1, r2, r3, r4, r5, r6, r7, r8, r⟩ := w'
  obtain ⟨T', X', e', st⟩ := RoadKit.getS X C'.1 r4 (host := "") r5 w via r1 (F.ext r8) (g := mkF m pc L S) rfl (hb C'.2.1 hd)
  exact Gl.st st (g p e s m args below meth c T' C' ⟨vm0, locs, k0, X', e', r2, r3, r4, r5, r6, r7, r8, r⟩)
theorem Seg.castY {K : String} {idx : Nat} {a : Addr} (w : (Cond.classLink y.cls idx K).before a0 Z = true) (F : Ins Z h a K true) (hd : decode bytes pc = .ok (.checkcast idx, 3)) (hp : pc + 3 = pc')
    (g : Seg l Z a0 EL y bytes maxL ret rm Q h k n sf pc' L (.ref a :: S)) : Seg l Z a0 EL y bytes maxL ret rm Q h k n sf pc L (.ref a :: S) := by
  subst hp
  intro p e s m args below meth c T C' w'
  obtain ⟨vm0, locs, k0, X, r1, r2, r3, r4, r5, r⟩ := w'
  obtain ⟨T', X', e', st⟩ := RoadKit.castY X C'.1 r4 r5 w r1 F (g := mkF m pc L (.ref a :: S)) rfl rfl (hb C'.2.1 hd)
  exact Gl.st st (g p e s m args below meth c T' C' ⟨vm0, locs, k0, X', e', r2, r3, r4, r5, r⟩)
theorem Seg.castNull {idx : Nat} (hd : decode bytes pc = .ok (.checkcast idx, 3)) (hp : pc + 3 = pc')
    (g : Seg l Z a0 EL y bytes maxL ret rm Q h k n sf pc' L (.null :: S)) : Seg l Z a0 EL y bytes maxL ret rm Q h k n sf pc L (.null :: S) := by
  subst hp
  intro p e s m args below meth c T C' w'
  obtain ⟨vm0, locs, k0, X, r⟩ := w'
  exact Gl.st (X.checkcastNull C'.1 (g := mkF m pc L (.null :: S)) rfl rfl (hb C'.2.1 hd)) (g p e s m args below meth c T C' ⟨vm0, locs, k0, X, r⟩)
theorem Seg.instNull {idx : Nat} (hd : decode bytes pc = .ok (.instanceof idx, 3)) (hp : pc + 3 = pc')
    (g : Seg l Z a0 EL y bytes maxL ret rm Q h k n sf pc' L (.int 0 :: S)) : Seg l Z a0 EL y bytes maxL ret rm Q h k n sf pc L (.null :: S) := by
  subst hp
  intro p e s m args below meth c T C' w'
  obtain ⟨vm0, locs, k0, X, r⟩ := w'
  exact Gl.st (X.instanceofNull C'.1 (g := mkF m pc L (.null :: S)) rfl rfl (hb C'.2.1 hd)) (g p e s m args below meth c T C' ⟨vm0, locs, k0, X, r⟩)
theorem Seg.instY {K : String} {idx : Nat} {a : Addr} (w : (Cond.classLink y.cls idx K).before a0 Z = true) (F : Ins Z h a K true) (hd : decode bytes pc = .ok (.instanceof idx, 3)) (hp : pc + 3 = pc')
    (g : Seg l Z a0 EL y bytes maxL ret rm Q h k n sf pc' L (.int 1 :: S)) : Seg l Z a0 EL y bytes maxL ret rm Q h k n sf pc L (.ref a :: S) := by
  subst hp
  intro p e s m args below meth c T C' w'
  obtain ⟨vm0, locs, k0, X, r1, r2, r3, r4, r5, r⟩ := w'
  obtain ⟨T', X', e', st⟩ := RoadKit.instY X C'.1 r4 r5 w r1 F (g := mkF m pc L (.ref a :: S)) rfl rfl (hb C'.2.1 hd)
  exact Gl.st st (g p e s m args below meth c T' C' ⟨vm0, locs, k0, X', e', r2, r3, r4, r5, r⟩)
theorem Seg.instNo {K C : String} {idx : Nat} {a : Addr} (w : (Cond.classLink y.cls idx K).before a0 Z = true) (E : Exa Z h a C) (F : ∃ c t, Z.vm.findClass C = some c ∧ Z.vm.findClass K = some t ∧ Z.vm.assignable c t = false) (hd : decode bytes pc = .ok (.instanceof idx, 3)) (hp : pc + 3 = pc')
    (g : Seg l Z a0 EL y bytes maxL ret rm Q h k n sf pc' L (.int 0 :: S)) : Seg l Z a0 EL y bytes maxL ret rm Q h k n sf pc L (.ref a :: S) := by
  subst hp
  intro p e s m args below meth c T C' w'
  obtain ⟨vm0, locs, k0, X, r1, r2, r3, r4, r5, r⟩ := w'
  obtain ⟨T', X', e', st⟩ := RoadKit.instNo X C'.1 r4 r5 w r1 E F (g := mkF m pc L (.ref a :: S)) rfl rfl (hb C'.2.1 hd)
  exact Gl.st st (g p e s m args below meth c T' C' ⟨vm0, locs, k0, X', e', r2, r3, r4, r5, r⟩)
theorem Seg.initO {idx : Nat} {a : Addr} (w1 : (Cond.methodLink y.cls idx Lib.objectInit).before a0 Z = true) (w2 : (Cond.instanceMethod Lib.objectInit).before a0 Z = true) (w3 : (Cond.code Lib.objectInit ⟨#[0xb1]⟩ 1 none).before a0 Z = true) (hsz : L.size = maxL) (hd : decode bytes pc = .ok (.invokespecial idx, 3)) (hp : pc + 3 = pc') (hf : 1 ≤ rm.frames) {W : Nat} (hW : (S.map fun v => v.category).sum ≤ W) (hl : W + 12 ≤ rm.locals)
    (g : Seg l Z a0 EL y bytes maxL ret rm Q h k n sf pc' L S) : Seg l Z a0 EL y bytes maxL ret rm Q h k n sf pc L (.ref a :: S) := by
  subst hp
  intro p e s m args below meth c T C' w'
  obtain ⟨vm0, locs, k0, X, r1, r2, r3, r4, r5, r⟩ := w'
  obtain ⟨T', X', e', st⟩ := RoadKit.initO X C'.1 r4 r5 w1 w2 w3 r1 (g := mkF m pc L (.ref a :: S)) rfl (hsz.trans C'.2.2.1.symm) rfl (hb C'.2.1 hd) hf (W := W) (by show 2 * 0 + _ ≤ _; omega) hl
  exact Gl.st st (g p e s m args below meth c T' C' ⟨vm0, locs, k0, X', e', r2, r3, r4, r5, r⟩)
theorem wkWr {h' : Heap} {a : Addr} {sl : Nat} {v : Value} {T' : State} {vm0 : Vm} {locs : List Loc} {k0 : Nat} (W : Wr h h' a sl v) (hsf : a ∈ sf) (X' : Stand p l e R (s.setVm vm0) m args below meth c T' (locs ++ [⟨a, sl⟩]) k n) (e' : T'.heap = h')
    (r : s.Since vm0 k0 ∧ k0 ≤ h.size ∧ Z.Warmed39 vm0 ∧ vm0.findClass own = some m.cls ∧ CHr Z EL s.vm s.heap vm0 h ∧ Fr Z.heap.size locs ∧ Ext Z.heap h ∧ EW Z a0 EL ∧ SfOk Z EL vm0 h sf) : Wk p l e R s m args below meth c Z a0 EL own sf k n T' h' := by
  obtain ⟨r2, r3, r4, r5, r6, r7, r8, r9, r10⟩ := r
  obtain ⟨q1, q2, q3⟩ := r10 a hsf
  have A := CHr.wr W q3 r6.1
  exact ⟨vm0, _, k0, X', e', r2, Nat.le_trans r3 A.2.1, r4, r5, r6.trans A, Fr.snoc X' r7 q1, ext_wr r8 W q1, r9, r10.chr A⟩
theorem Seg.putF {R0 O nm d host C : String} {idx kk : Nat} {ty : FieldType} {a : Addr} {v v' old : Value} (w : (Cond.fieldLink y.cls idx R0 nm d).before a0 Z = true) (via : Via Z R0 O nm d) (F : Fld Z h a O nm d old) (E : Exa Z h a C) (Lw : (Cond.lays C O nm d).before a0 Z = true ∨ ((Cond.laysFinal C O nm d).before a0 Z = true ∧ y.cls = O ∧ y.name = "<init>")) (wi : (Cond.instantiable C kk).before a0 Z = true)
    (hty : parseFieldDescriptor d = some ty) (hnw : narrow ty v = v') (hf : fits ty v' = true) (hsf : a ∈ sf) (hd : decode bytes pc = .ok (.putfield idx, 3)) (hp : pc + 3 = pc')
    (g : ∀ h', Wr h h' a (RoadKit.slotOf Z O nm d) v' → Fld Z h' a O nm d v' → Seg l Z a0 EL y bytes maxL ret rm Q h' k n sf pc' L S) : Seg l Z a0 EL y bytes maxL ret rm Q h k n sf pc L (v :: .ref a :: S) := by
  subst hp
  intro p e s m args below meth c T C' w'
  obtain ⟨vm0, locs, k0, X, r1, r2, r3, r4, r5, r⟩ := w'
  obtain ⟨T', h', X', e', W, st⟩ := RoadKit.putFN X C'.1 r4 r5 w via r1 F E (Lw.imp id fun q => ⟨q.1, q.2.1, C'.2.2.2.2.2.trans q.2.2⟩) wi hty hnw hf (g := mkF m pc L (v :: .ref a :: S)) rfl rfl (hb C'.2.1 hd)
  exact Gl.st st (g h' W (F.same W) p e s m args below meth c T' C' (wkWr W hsf X' e' ⟨r2, r3, r4, r5, r⟩))
theorem Seg.castore {a : Addr} {kc : ClassId} {z j v v' : Int32} {vs : List Value} {dv : Value} {i : Nat} (F : Arv Z h a kc .char z vs dv) (hj : ¬ j < 0 ∧ j < z) (hi : j.toNatClampNeg = i) (hil : i < vs.length) (hv : nar .char v = v') (hsf : a ∈ sf) (hd : decode bytes pc = .ok (.castore, 1)) (hp : pc + 1 = pc')
    (g : ∀ h', Wr h h' a i (.int v') → Arv Z h' a kc .char z (vs.set i (.int v')) dv → Seg l Z a0 EL y bytes maxL ret rm Q h' k n sf pc' L S) : Seg l Z a0 EL y bytes maxL ret rm Q h k n sf pc L (.int v :: .int j :: .ref a :: S) := by
  subst hp hv hi
  intro p e s m args below meth c T C' w'
  obtain ⟨vm0, locs, k0, X, r1, r2, r3, r4, r5, r⟩ := w'
  obtain ⟨cl, A, q, Sz, N, H, G⟩ := F
  obtain ⟨T', h', X', e', W, st⟩ := RoadKit.stC X C'.1 r4 r1 A (inb_of Sz hj) (g := mkF m pc L (.int v :: .int j :: .ref a :: S)) rfl rfl (hb C'.2.1 hd)
  exact Gl.st st (g h' W (Arv.set A q Sz N H G (fits_nar_char _) W _ rfl hil) p e s m args below meth c T' C' (wkWr W hsf X' e' ⟨r2, r3, r4, r5, r⟩))
theorem Seg.bastore {a : Addr} {kc : ClassId} {z j v v' : Int32} {vs : List Value} {dv : Value} {i : Nat} (F : Arv Z h a kc .byte z vs dv) (hj : ¬ j < 0 ∧ j < z) (hi : j.toNatClampNeg = i) (hil : i < vs.length) (hv : nar .byte v = v') (hsf : a ∈ sf) (hd : decode bytes pc = .ok (.bastore, 1)) (hp : pc + 1 = pc')
    (g : ∀ h', Wr h h' a i (.int v') → Arv Z h' a kc .byte z (vs.set i (.int v')) dv → Seg l Z a0 EL y bytes maxL ret rm Q h' k n sf pc' L S) : Seg l Z a0 EL y bytes maxL ret rm Q h k n sf pc L (.int v :: .int j :: .ref a :: S) := by
  subst hp hv hi
  intro p e s m args below meth c T C' w'
  obtain ⟨vm0, locs, k0, X, r1, r2, r3, r4, r5, r⟩ := w'
  obtain ⟨cl, A, q, Sz, N, H, G⟩ := F
  obtain ⟨T', h', X', e', W, st⟩ := RoadKit.stB X C'.1 r4 r1 A (inb_of Sz hj) (g := mkF m pc L (.int v :: .int j :: .ref a :: S)) rfl rfl (hb C'.2.1 hd)
  exact Gl.st st (g h' W (Arv.set A q Sz N H G (fits_nar_byte _) W _ rfl hil) p e s m args below meth c T' C' (wkWr W hsf X' e' ⟨r2, r3, r4, r5, r⟩))
theorem Seg.iastore {a : Addr} {kc : ClassId} {z j v : Int32} {vs : List Value} {dv : Value} {i : Nat} (F : Arv Z h a kc .int z vs dv) (hj : ¬ j < 0 ∧ j < z) (hi : j.toNatClampNeg = i) (hil : i < vs.length) (hsf : a ∈ sf) (hd : decode bytes pc = .ok (.iastore, 1)) (hp : pc + 1 = pc')
    (g : ∀ h', Wr h h' a i (.int v) → Arv Z h' a kc .int z (vs.set i (.int v)) dv → Seg l Z a0 EL y bytes maxL ret rm Q h' k n sf pc' L S) : Seg l Z a0 EL y bytes maxL ret rm Q h k n sf pc L (.int v :: .int j :: .ref a :: S) := by
  subst hp hi
  intro p e s m args below meth c T C' w'
  obtain ⟨vm0, locs, k0, X, r1, r2, r3, r4, r5, r⟩ := w'
  obtain ⟨cl, A, q, Sz, N, H, G⟩ := F
  obtain ⟨T', h', X', e', W, st⟩ := RoadKit.stI X C'.1 r4 r1 A (inb_of Sz hj) (g := mkF m pc L (.int v :: .int j :: .ref a :: S)) rfl rfl (hb C'.2.1 hd)
  exact Gl.st st (g h' W (Arv.set A q Sz N H G rfl W _ rfl hil) p e s m args below meth c T' C' (wkWr W hsf X' e' ⟨r2, r3, r4, r5, r⟩))
theorem Seg.caload {a : Addr} {kc : ClassId} {z j : Int32} {vs : List Value} {dv v : Value} (F : Arv Z h a kc .char z vs dv) (hj : ¬ j < 0 ∧ j < z) (hv : vs.getD j.toNatClampNeg dv = v) (hd : decode bytes pc = .ok (.caload, 1)) (hp : pc + 1 = pc')
    (g : Seg l Z a0 EL y bytes maxL ret rm Q h k n sf pc' L (v :: S)) : Seg l Z a0 EL y bytes maxL ret rm Q h k n sf pc L (.int j :: .ref a :: S) := by
  subst hp
  intro p e s m args below meth c T C' w'
  obtain ⟨vm0, locs, k0, X, r1, r2, r3, r4, r⟩ := w'
  obtain ⟨cl, A, q, Sz, N, H, G⟩ := F
  exact Gl.st (X.caload C'.1 (by rw [r1]; exact A.1) (State.isArrayOf_alike r4.alike A.2.1) A.2.2 (inb_of Sz hj) (H.at (inb_of Sz hj) hv) (g := mkF m pc L (.int j :: .ref a :: S)) rfl rfl (hb C'.2.1 hd)) (g p e s m args below meth c T C' ⟨vm0, locs, k0, X, r1, r2, r3, r4, r⟩)
theorem Seg.baload {a : Addr} {kc : ClassId} {z j : Int32} {vs : List Value} {dv v : Value} (F : Arv Z h a kc .byte z vs dv) (hj : ¬ j < 0 ∧ j < z) (hv : vs.getD j.toNatClampNeg dv = v) (hd : decode bytes pc = .ok (.baload, 1)) (hp : pc + 1 = pc')
    (g : Seg l Z a0 EL y bytes maxL ret rm Q h k n sf pc' L (v :: S)) : Seg l Z a0 EL y bytes maxL ret rm Q h k n sf pc L (.int j :: .ref a :: S) := by
  subst hp
  intro p e s m args below meth c T C' w'
  obtain ⟨vm0, locs, k0, X, r1, r2, r3, r4, r⟩ := w'
  obtain ⟨cl, A, q, Sz, N, H, G⟩ := F
  exact Gl.st (X.baloadBytes C'.1 (by rw [r1]; exact A.1) (State.isArrayOf_alike r4.alike A.2.1) A.2.2 (inb_of Sz hj) (H.at (inb_of Sz hj) hv) (g := mkF m pc L (.int j :: .ref a :: S)) rfl rfl (hb C'.2.1 hd)) (g p e s m args below meth c T C' ⟨vm0, locs, k0, X, r1, r2, r3, r4, r⟩)
theorem Seg.iaload {a : Addr} {kc : ClassId} {z j : Int32} {vs : List Value} {dv v : Value} (F : Arv Z h a kc .int z vs dv) (hj : ¬ j < 0 ∧ j < z) (hv : vs.getD j.toNatClampNeg dv = v) (hd : decode bytes pc = .ok (.iaload, 1)) (hp : pc + 1 = pc')
    (g : Seg l Z a0 EL y bytes maxL ret rm Q h k n sf pc' L (v :: S)) : Seg l Z a0 EL y bytes maxL ret rm Q h k n sf pc L (.int j :: .ref a :: S) := by
  subst hp
  intro p e s m args below meth c T C' w'
  obtain ⟨vm0, locs, k0, X, r1, r2, r3, r4, r⟩ := w'
  obtain ⟨cl, A, q, Sz, N, H, G⟩ := F
  exact Gl.st (X.iaload C'.1 (by rw [r1]; exact A.1) (State.isArrayOf_alike r4.alike A.2.1) A.2.2 (inb_of Sz hj) (H.at (inb_of Sz hj) hv) (g := mkF m pc L (.int j :: .ref a :: S)) rfl rfl (hb C'.2.1 hd)) (g p e s m args below meth c T C' ⟨vm0, locs, k0, X, r1, r2, r3, r4, r⟩)
theorem Seg.aaload {a : Addr} {kc : ClassId} {z j : Int32} {ty : FieldType} {vs : List Value} {dv v : Value} (hty : ty.isReference = true) (F : Arv Z h a kc ty z vs dv) (hj : ¬ j < 0 ∧ j < z) (hv : vs.getD j.toNatClampNeg dv = v) (hd : decode bytes pc = .ok (.aaload, 1)) (hp : pc + 1 = pc')
    (g : Seg l Z a0 EL y bytes maxL ret rm Q h k n sf pc' L (v :: S)) : Seg l Z a0 EL y bytes maxL ret rm Q h k n sf pc L (.int j :: .ref a :: S) := by
  subst hp
  intro p e s m args below meth c T C' w'
  obtain ⟨vm0, locs, k0, X, r1, r2, r3, r4, r⟩ := w'
  obtain ⟨cl, A, q, Sz, N, H, G⟩ := F
  exact Gl.st (X.aaload C'.1 (by rw [r1]; exact A.1) (State.isArrayOf_alike r4.alike A.2.1) hty A.2.2 (inb_of Sz hj) (H.at (inb_of Sz hj) hv) (g := mkF m pc L (.int j :: .ref a :: S)) rfl rfl (hb C'.2.1 hd)) (g p e s m args below meth c T C' ⟨vm0, locs, k0, X, r1, r2, r3, r4, r⟩)
theorem Seg.alen {a : Addr} {kc : ClassId} {z : Int32} {ty : FieldType} {vs : List Value} {dv : Value} (F : Arv Z h a kc ty z vs dv) (hd : decode bytes pc = .ok (.arraylength, 1)) (hp : pc + 1 = pc')
    (g : Seg l Z a0 EL y bytes maxL ret rm Q h k n sf pc' L (.int z :: S)) : Seg l Z a0 EL y bytes maxL ret rm Q h k n sf pc L (.ref a :: S) := by
  subst hp
  intro p e s m args below meth c T C' w'
  obtain ⟨vm0, locs, k0, X, r1, r2, r3, r4, r⟩ := w'
  obtain ⟨cl, A, q, Sz, N, H, G⟩ := F
  refine Gl.st (fun t hr => X.arraylength C'.1 (by rw [r1]; exact A.1) (State.isArrayOf_alike r4.alike A.2.1) (g := mkF m pc L (.ref a :: S)) rfl rfl (hb C'.2.1 hd) t ?_) (g p e s m args below meth c T C' ⟨vm0, locs, k0, X, r1, r2, r3, r4, r⟩)
  rw [len_of Sz N]; exact hr
theorem Seg.ldcI {idx : Nat} {v : Int32} (w : (Cond.constant y.cls idx v).before a0 Z = true) (hd : decode bytes pc = .ok (.ldc idx, 2)) (hp : pc + 2 = pc')
    (g : Seg l Z a0 EL y bytes maxL ret rm Q h k n sf pc' L (.int v :: S)) : Seg l Z a0 EL y bytes maxL ret rm Q h k n sf pc L S := by
  subst hp
  intro p e s m args below meth c T C' w'
  obtain ⟨vm0, locs, k0, X, r1, r2, r3, r4, r5, r⟩ := w'
  exact Gl.st (fun t hr => X.ldcI C'.1 r5 (mv r4 w) (g := mkF m pc L S) rfl (hb C'.2.1 hd) hr) (g p e s m args below meth c T C' ⟨vm0, locs, k0, X, r1, r2, r3, r4, r5, r⟩)
theorem Seg.ldcWI {idx : Nat} {v : Int32} (w : (Cond.constant y.cls idx v).before a0 Z = true) (hd : decode bytes pc = .ok (.ldc_w idx, 3)) (hp : pc + 3 = pc')
    (g : Seg l Z a0 EL y bytes maxL ret rm Q h k n sf pc' L (.int v :: S)) : Seg l Z a0 EL y bytes maxL ret rm Q h k n sf pc L S := by
  subst hp
  intro p e s m args below meth c T C' w'
  obtain ⟨vm0, locs, k0, X, r1, r2, r3, r4, r5, r⟩ := w'
  exact Gl.st (fun t hr => X.ldcWI C'.1 r5 (mv r4 w) (g := mkF m pc L S) rfl (hb C'.2.1 hd) hr) (g p e s m args below meth c T C' ⟨vm0, locs, k0, X, r1, r2, r3, r4, r5, r⟩)
theorem Seg.ldc2J {idx : Nat} {v : Int64} (w : (Cond.constantLong y.cls idx v).before a0 Z = true) (hd : decode bytes pc = .ok (.ldc2_w idx, 3)) (hp : pc + 3 = pc')
    (g : Seg l Z a0 EL y bytes maxL ret rm Q h k n sf pc' L (.long v :: S)) : Seg l Z a0 EL y bytes maxL ret rm Q h k n sf pc L S := by
  subst hp
  intro p e s m args below meth c T C' w'
  obtain ⟨vm0, locs, k0, X, r1, r2, r3, r4, r5, r⟩ := w'
  exact Gl.st (fun t hr => X.ldc2J C'.1 r5 (mv r4 w) (g := mkF m pc L S) rfl (hb C'.2.1 hd) hr) (g p e s m args below meth c T C' ⟨vm0, locs, k0, X, r1, r2, r3, r4, r5, r⟩)
/-- ldc of a String constant whose text the sheet assumes held -/
theorem Seg.ldcS {idx nn : Nat} {text : String} {vs : List Value} {z : Int32} (w : (Cond.stringLink y.cls idx text).before a0 Z = true) (wS : ∀ a ∈ Bundle.stringAtoms, a.before a0 Z = true) (hmem : (y.cls, idx) ∈ EL)
    (ht : (∀ c ∈ text.toList, c.toNat < 256) ∧ text.toList.map (fun c => Value.int (Jvm.Lit.byteI c.toNat.toUInt16)) = vs) (hz : ¬ z < 0) (hl : z.toNatClampNeg = vs.length)
    (hd : decode bytes pc = .ok (.ldc idx, 2)) (hp : pc + 2 = pc') (hnn : 4 * text.toList.length ≤ nn) (hbig : nn ≤ 536870912) {k' n' : Nat} (hk : k + 2 = k') (hn : n + (nn + 4) = n') (hk2 : k' ≤ rm.cells) (hn2 : n' ≤ rm.slots)
    (g : ∀ (a : Addr) (h' : Heap) (b : Addr) (kb : ClassId), Ext h h' → Exa Z h' a "java/lang/String" → Fld Z h' a "java/lang/String" "coder" "B" (.int 0) → Fld Z h' a "java/lang/String" "value" "[B" (.ref b) → Arv Z h' b kb .byte z vs (.int 0) → (∀ x ∈ sf, x ≠ a ∧ x ≠ b) → Seg l Z a0 EL y bytes maxL ret rm Q h' k' n' sf pc' L (.ref a :: S)) :
    Seg l Z a0 EL y bytes maxL ret rm Q h k n sf pc L S := by
  subst hp hk hn
  intro p e s m args below meth c T C' w'
  obtain ⟨vm0, locs, k0, X, r1, r2, r3, r4, r5, r6, r7, r8, r9, r10⟩ := w'
  obtain ⟨a, T', h', k1, b, kb, X', e', E, q1, q2, q3, q4, f1, f2, f3, f4, -, -, f5, -, f6, st⟩ := RoadKit.ldcCH X C'.1 r4 r5 w wS r1 r2 r3 r9 hmem r6.1 ht hz hl (g := mkF m pc L S) rfl (hb C'.2.1 hd) hnn hbig hk2 hn2
  have r10' := r10.chr f5
  exact Gl.st st (g a h' b kb E f1 f2 f3 f4 (fun x hx => f6 x (r10' x hx).2.2) p e s m args below meth c T' C' ⟨T'.vm, locs, k1, X', e', q1, q2, q3, q4, r6.trans f5, r7, ext_tr r8 E, r9, r10'⟩)
/-- ldc of a String constant, its text unread -/
theorem Seg.ldcO {idx nn : Nat} {text : String} (w : (Cond.stringLink y.cls idx text).before a0 Z = true) (wS : ∀ a ∈ Bundle.stringAtoms, a.before a0 Z = true)
    (hd : decode bytes pc = .ok (.ldc idx, 2)) (hp : pc + 2 = pc') (hnn : 4 * text.toList.length ≤ nn) (hbig : nn ≤ 536870912) {k' n' : Nat} (hk : k + 2 = k') (hn : n + (nn + 4) = n') (hk2 : k' ≤ rm.cells) (hn2 : n' ≤ rm.slots)
    (g : ∀ (a : Addr) (h' : Heap), Ext h h' → Seg l Z a0 EL y bytes maxL ret rm Q h' k' n' sf pc' L (.ref a :: S)) :
    Seg l Z a0 EL y bytes maxL ret rm Q h k n sf pc L S := by
  subst hp hk hn
  intro p e s m args below meth c T C' w'
  obtain ⟨vm0, locs, k0, X, r1, r2, r3, r4, r5, r6, r7, r8, r9, r10⟩ := w'
  obtain ⟨a, T', h', k1, X', e', E, q1, q2, q3, q4, f5, -, st⟩ := RoadKit.ldcOH X C'.1 r4 r5 w wS r1 r2 r3 r9 r6.1 (g := mkF m pc L S) rfl (hb C'.2.1 hd) hnn hbig hk2 hn2
  exact Gl.st st (g a h' E p e s m args below meth c T' C' ⟨T'.vm, locs, k1, X', e', q1, q2, q3, q4, r6.trans f5, r7, ext_tr r8 E, r9, r10.chr f5⟩)
end Heap
section Calls
variable {l : Launch} {Z : State} {a0 : Array Value} {EL : List (String × Nat)} {y : MethodName} {bytes : ByteArray} {maxL : Nat} {ret : Option FieldType} {rm : Room} {Q : Option Value → Heap → Prop} {h : Heap} {k n : Nat} {sf : List Addr} {pc pc' : Nat} {L : Array Slot} {S : List Value}
/-- WHO PAYS a call of y with the arguments as' at the heap h -/
def Pays (l : Launch) (R : Room) (Z : State) (a0 : Array Value) (EL : List (String × Nat)) (sf : List Addr) (y : MethodName) (len W : Nat) (as' : Array Value) (h : Heap) (rc rs : Nat) (Q : Option Value → Heap → Prop) : Prop :=
  ∀ (p : Program) (e : Env) (below : List Frame) (s : State) (args : Array Value) (vm0 : Vm), Z.Warmed39 vm0 → CHv Z EL vm0 h → SfOk Z EL vm0 h sf → Ext Z.heap h → EW Z a0 EL →
    BackS l R p e below (s.setVm vm0) args y len W (fun A a => a = as' ∧ A.U.heap = h ∧ A.cells + rc ≤ R.cells ∧ A.slots + rs ≤ R.slots)
      (fun A _ v B => ∃ L, (Fr Z.heap.size L ∧ Ext Z.heap B.U.heap ∧ Q v B.U.heap) ∧ B.locs = A.locs ++ L ∧ B.cells = A.cells + rc ∧ B.slots = A.slots + rs ∧ CHr Z EL vm0 h B.U.vm B.U.heap)
theorem Pays.of_ct {R : Room} {as' : Array Value} {rc rs len W : Nat} {sf' : List Addr} (hM : Ct l Z EL sf' [] y bytes maxL ret rm as' h Q) (hsf : ∀ x ∈ sf', x ∈ sf) (wc : (Jvm.Cond.code y bytes maxL ret).before a0 Z = true) (wz : (Jvm.Cond.initialized y.cls).before a0 Z = true) (hf : rm.frames + 1 ≤ R.frames) (hl : W + (maxL + 11) + rm.locals ≤ R.locals) (hrc : rm.cells = rc) (hrs : rm.slots = rs) :
    Pays l R Z a0 EL sf y len W as' h rc rs Q := by
  subst hrc hrs
  intro p e below s args vm0 hZ H hS hE hEL
  refine BackS.of_freeW (bytes := bytes) (maxL := maxL) (ret := ret) (E := fun _ first o t L k n => k = rm.cells ∧ n = rm.slots ∧ (∃ v, o = .returned v ∧ (Fr Z.heap.size L ∧ Ext Z.heap t.heap ∧ Q v t.heap)) ∧ CHr Z EL first.vm first.heap t.vm t.heap) hM hf hl
    (fun m meth c A a Y hp => have hU : Z.Warmed39 A.U.vm := wtrans (s := s.setVm vm0) hZ Y.warmed
      ⟨by show (Cond.and _ .tt).before a A.U = true; rw [Cond.before_and, mv hU wc]; rfl, mv hU wc, mv hU wz, hp.2.2.1, hp.2.2.2⟩)
    (fun m meth c A a g mk Y hp => have q := CHv.at Y hZ hEL H; ⟨hp.1, wtrans (s := s.setVm vm0) hZ Y.warmed, hp.2.1, q.1, (hS.sub hsf).chr q, hE⟩) (fun _ _ _ _ _ _ _ _ _ => trivial)
    (fun _ _ _ _ ⟨v, L, h1, h2, h3, h4⟩ => ⟨L, _, _, h4, rfl, rfl, ⟨v, h1, h2⟩, h3⟩)
    (fun m meth c A a g mk v t L k n Y hp _ _ ⟨e1, e2, ⟨v', e3, e4⟩, e5⟩ => ?_)
  cases e3; subst e1 e2
  refine ⟨L, e4, rfl, rfl, rfl, (CHv.at Y hZ hEL H).trans ?_⟩
  rw [← hp.2.1]; exact e5
theorem Pays.of_back {R : Room} {as' : Array Value} {rc rs len W : Nat} {ws : List Addr} {QL : Option Value → Heap → List Loc → Prop}
    (hK : ∀ (p : Program) (e : Env) (below : List Frame) (s : State) (args : Array Value), Z.Warmed39 s.vm → Ext Z.heap h → (∀ x ∈ sf, Z.heap.size ≤ x) → Back l R p e below s args y len W (fun A a => a = as' ∧ A.U.heap = h ∧ A.cells + rc ≤ R.cells ∧ A.slots + rs ≤ R.slots) (fun A _ v B => ∃ L, QL v B.U.heap L ∧ B.locs = A.locs ++ L ∧ B.cells = A.cells + rc ∧ B.slots = A.slots + rs))
    (hws : ∀ x ∈ ws, x ∈ sf) (hQ : ∀ v h' L, Ext Z.heap h → QL v h' L → Fr Z.heap.size L ∧ Keep h h' ws ∧ Q v h') :
    Pays l R Z a0 EL sf y len W as' h rc rs Q := by
  intro p e below s args vm0 hZ H hS hE hEL m meth c A g ig mk a X hg hsize hdg hW hn hp
  obtain ⟨v, B, X', ⟨L, q, hl, hc, hs⟩, hsteps⟩ := hK p e below (s.setVm vm0) args hZ hE (fun x hx => (hS x hx).1) m meth c A g ig mk a X hg hsize hdg hW hn hp
  obtain ⟨q1, q2, q3⟩ := hQ _ _ _ hE q
  have A1 := CHr.keep q2 (hS.safes hws) H
  have A2 := CHv.at X' hZ hEL A1.1
  refine ⟨v, B, X'.retabled X'.warmed.wide, X'.warmed.since _, by rw [hp.2.1]; exact q2.1, ⟨L, ⟨q1, ext_kp hE q2 (fun x hx => (hS x (hws x hx)).1), q3⟩, hl, hc, hs, A1.trans A2⟩, hsteps⟩
theorem Pays.post {R : Room} {as' : Array Value} {rc rs len W : Nat} {Q' : Option Value → Heap → Prop} (hP : Pays l R Z a0 EL sf y len W as' h rc rs Q) (q : ∀ v h', Q v h' → Q' v h') : Pays l R Z a0 EL sf y len W as' h rc rs Q' := by
  intro p e below s args vm0 hZ H hS hE hEL m meth c A g ig mk a X hg hsize hdg hW hn hp
  obtain ⟨v, B, X', hS', hgr, ⟨L, ⟨q1, q2, q3⟩, hl, hc, hs, hr⟩, hsteps⟩ := hP p e below s args vm0 hZ H hS hE hEL m meth c A g ig mk a X hg hsize hdg hW hn hp
  exact ⟨v, B, X', hS', hgr, ⟨L, ⟨q1, q2, q _ _ q3⟩, hl, hc, hs, hr⟩, hsteps⟩
section Use
variable {y' : MethodName} {as' : Array Value} {rc rs W : Nat} {Q' : Option Value → Heap → Prop} {idx : Nat} {argsL rest : List Value} {k' n' : Nat}
theorem wkBack {p : Program} {e : Env} {R : Room} {s : State} {m : MethodId} {args : Array Value} {below : List Frame} {meth : Method} {c : Code} {own : String} {vm0 : Vm} {locs L0 : List Loc} {k0 : Nat} {B : Pt}
    (r : s.Since vm0 k0 ∧ k0 ≤ h.size ∧ Z.Warmed39 vm0 ∧ vm0.findClass own = some m.cls ∧ CHr Z EL s.vm s.heap vm0 h ∧ Fr Z.heap.size locs ∧ Ext Z.heap h ∧ EW Z a0 EL ∧ SfOk Z EL vm0 h sf)
    (X' : Stand p l e R ((s.setVm vm0).setVm B.U.vm) m args below meth c B.U B.locs B.cells B.slots) (hS : (s.setVm vm0).Since B.U.vm B.U.heap.size) (hg : h.size ≤ B.U.heap.size) (q1 : Fr Z.heap.size L0 ∧ Ext Z.heap B.U.heap) (hl : B.locs = locs ++ L0) (hc : B.cells = k') (hs : B.slots = n') (q : CHr Z EL vm0 h B.U.vm B.U.heap) :
    Wk p l e R s m args below meth c Z a0 EL own sf k' n' B.U B.U.heap := by
  obtain ⟨r2, r3, r4, r5, r6, r7, r8, r9, r10⟩ := r
  obtain ⟨X1, S1, Z1, o1⟩ := rebS r2 r3 X' hS hg r4 r5
  rw [hl, hc, hs] at X1
  exact ⟨B.U.vm, _, _, X1, rfl, S1, Nat.le_refl _, Z1, o1, r6.trans q, r7.app q1.1, q1.2, r9, r10.chr q⟩
theorem Seg.callS {bytes' : ByteArray} {maxL' : Nat} {ret' : Option FieldType} (w1 : (Cond.methodLink y.cls idx y').before a0 Z = true) (w2 : (Cond.static y').before a0 Z = true) (w3 : (Cond.initialized y'.cls).before a0 Z = true) (w4 : (Cond.code y' bytes' maxL' ret').before a0 Z = true) (hy : y'.cls ≠ "java/lang/invoke/MethodHandle" ∧ y'.cls ≠ "java/lang/invoke/VarHandle")
    (hP : Pays l rm Z a0 EL sf y' 3 W as' h rc rs Q') (has : argsL.toArray = as') (hlen : ∀ sig, parseMethodDescriptor y'.desc = some sig → argsL.length = sig.parameters.length) (hst : S = argsL.reverse ++ rest) (hW : (rest.map fun v => v.category).sum ≤ W) (hsz : L.size = maxL) (hd : decode bytes pc = .ok (.invokestatic idx, 3)) (hp : pc + 3 = pc')
    (hk : k + rc = k') (hn : n + rs = n') (hk2 : k' ≤ rm.cells) (hn2 : n' ≤ rm.slots)
    (g : ∀ (v : Option Value) (h' : Heap), h.size ≤ h'.size → Q' v h' → Seg l Z a0 EL y bytes maxL ret rm Q h' k' n' sf pc' L (v.toList ++ rest)) : Seg l Z a0 EL y bytes maxL ret rm Q h k n sf pc L S := by
  subst hp hk hn hst has
  intro p e s m args below meth c T C' w'
  obtain ⟨vm0, locs, k0, X, r1, r2, r3, r4, r5, r6, r7, r8, r9, r10⟩ := w'
  obtain ⟨v, vm1, B, -, X', hS, hg, ⟨L0, ⟨q1, q2, q3⟩, hl, hc, hs, q4⟩, st⟩ := callSS X C'.1 r5 (mvT r4 w1) (mvT r4 w2) (mvT r4 w3) (mvT r4 w4) hy (hP p e below s args vm0 r4 r6.1 r10 r8 r9) (g := mkF m pc L (argsL.reverse ++ rest)) rfl (hsz.trans C'.2.2.1.symm) (argsL := argsL) (rest := rest) hlen rfl (by show 2 * 0 + _ ≤ _; omega) (hb C'.2.1 hd) (fun _ _ => ⟨rfl, r1, hk2, hn2⟩)
  rw [r1] at hg
  exact Gl.st (fun t hr => st.trans hr) (g v B.U.heap hg q3 p e s m args below meth c B.U C' (wkBack ⟨r2, r3, r4, r5, r6, r7, r8, r9, r10⟩ X' hS hg ⟨q1, q2⟩ hl hc hs q4))
theorem Seg.callN {bytes' : ByteArray} {maxL' : Nat} {a : Addr} (hy1 : y'.name = "<init>") (w1 : (Cond.methodLink y.cls idx y').before a0 Z = true) (w2 : (Cond.instanceMethod y').before a0 Z = true) (w4 : (Cond.code y' bytes' maxL' none).before a0 Z = true) (hy : y'.cls ≠ "java/lang/invoke/MethodHandle" ∧ y'.cls ≠ "java/lang/invoke/VarHandle")
    (hP : Pays l rm Z a0 EL sf y' 3 W as' h rc rs Q') (has : (.ref a :: argsL).toArray = as') (hlen : ∀ sig, parseMethodDescriptor y'.desc = some sig → argsL.length = sig.parameters.length) (hst : S = argsL.reverse ++ .ref a :: rest) (hW : (rest.map fun v => v.category).sum ≤ W) (hsz : L.size = maxL) (hd : decode bytes pc = .ok (.invokespecial idx, 3)) (hp : pc + 3 = pc')
    (hk : k + rc = k') (hn : n + rs = n') (hk2 : k' ≤ rm.cells) (hn2 : n' ≤ rm.slots)
    (g : ∀ (v : Option Value) (h' : Heap), h.size ≤ h'.size → Q' v h' → Seg l Z a0 EL y bytes maxL ret rm Q h' k' n' sf pc' L (v.toList ++ rest)) : Seg l Z a0 EL y bytes maxL ret rm Q h k n sf pc L S := by
  subst hp hk hn hst has
  intro p e s m args below meth c T C' w'
  obtain ⟨vm0, locs, k0, X, r1, r2, r3, r4, r5, r6, r7, r8, r9, r10⟩ := w'
  obtain ⟨v, vm1, B, -, X', hS, hg, ⟨L0, ⟨q1, q2, q3⟩, hl, hc, hs, q4⟩, st⟩ := X.specialBackS C'.1 hy1 r5 (mvT r4 w1) (mvT r4 w2) (mvT r4 w4) hy (hP p e below s args vm0 r4 r6.1 r10 r8 r9) (g := mkF m pc L (argsL.reverse ++ .ref a :: rest)) rfl (hsz.trans C'.2.2.1.symm) (Steps.refl _) (a := a) (argsL := argsL) (rest := rest) hlen rfl (by show 2 * 0 + _ ≤ _; omega) (hb C'.2.1 hd) (fun _ _ => ⟨rfl, r1, hk2, hn2⟩)
  rw [r1] at hg
  exact Gl.st (fun t hr => st.trans hr) (g v B.U.heap hg q3 p e s m args below meth c B.U C' (wkBack ⟨r2, r3, r4, r5, r6, r7, r8, r9, r10⟩ X' hS hg ⟨q1, q2⟩ hl hc hs q4))
theorem Seg.callV {z : MethodName} {C : String} {a : Addr} (w1 : (Cond.methodLink y.cls idx y').before a0 Z = true) (w2 : (Cond.declares y').before a0 Z = true) (hnf : ∀ (s : State) (vm0 : Vm), Z.Warmed39 vm0 → Free.NotFace (s.setVm vm0) y') (w3 : (Cond.selects C y' z).before a0 Z = true) (w4 : (Cond.instanceMethod z).before a0 Z = true) (hy : y'.cls ≠ "java/lang/invoke/MethodHandle" ∧ y'.cls ≠ "java/lang/invoke/VarHandle") (E : Exa Z h a C)
    (hP : Pays l rm Z a0 EL sf z 3 W as' h rc rs Q') (has : (.ref a :: argsL).toArray = as') (hlen : ∀ sig, parseMethodDescriptor y'.desc = some sig → argsL.length = sig.parameters.length) (hst : S = argsL.reverse ++ .ref a :: rest) (hW : (rest.map fun v => v.category).sum ≤ W) (hsz : L.size = maxL) (hd : decode bytes pc = .ok (.invokevirtual idx, 3)) (hp : pc + 3 = pc')
    (hk : k + rc = k') (hn : n + rs = n') (hk2 : k' ≤ rm.cells) (hn2 : n' ≤ rm.slots)
    (g : ∀ (v : Option Value) (h' : Heap), h.size ≤ h'.size → Q' v h' → Seg l Z a0 EL y bytes maxL ret rm Q h' k' n' sf pc' L (v.toList ++ rest)) : Seg l Z a0 EL y bytes maxL ret rm Q h k n sf pc L S := by
  subst hp hk hn hst has
  intro p e s m args below meth c T C' w'
  obtain ⟨vm0, locs, k0, X, r1, r2, r3, r4, r5, r6, r7, r8, r9, r10⟩ := w'
  obtain ⟨cq, kq, qa, qb, qc⟩ := isOf (s := s.setVm vm0) r4 r1 E
  obtain ⟨v, vm1, B, -, X', hS, hg, ⟨L0, ⟨q1, q2, q3⟩, hl, hc, hs, q4⟩, st⟩ := X.virtualBackS C'.1 r5 (mvT r4 w1) (mvT r4 w2) (hnf s vm0 r4) (mvT r4 w3) (mvT r4 w4) hy (hP p e below s args vm0 r4 r6.1 r10 r8 r9) qa qc (g := mkF m pc L (argsL.reverse ++ .ref a :: rest)) rfl (hsz.trans C'.2.2.1.symm) (Steps.refl _) (argsL := argsL) (rest := rest) hlen rfl (by show 2 * 0 + _ ≤ _; omega) (hb C'.2.1 hd) (fun _ _ => ⟨rfl, r1, hk2, hn2⟩)
  rw [r1] at hg
  exact Gl.st (fun t hr => st.trans hr) (g v B.U.heap hg q3 p e s m args below meth c B.U C' (wkBack ⟨r2, r3, r4, r5, r6, r7, r8, r9, r10⟩ X' hS hg ⟨q1, q2⟩ hl hc hs q4))
theorem Seg.callI {z : MethodName} {C : String} {a : Addr} {count : Nat} (w1 : (Cond.methodLink y.cls idx y').before a0 Z = true) (w2 : (Cond.declares y').before a0 Z = true) (w5 : (Cond.interfaceMethod y'.cls y'.cls y'.name y'.desc).before a0 Z = true) (hw5 : ((Cond.interfaceMethod y'.cls y'.cls y'.name y'.desc).onTables && (Cond.interfaceMethod y'.cls y'.cls y'.name y'.desc).keepsFace) = true) (w3 : (Cond.selects C y' z).before a0 Z = true) (w4 : (Cond.instanceMethod z).before a0 Z = true) (w6 : (Cond.publicMethod z).before a0 Z = true) (w7 : (Cond.unhidden C y'.name y'.desc).before a0 Z = true) (w8 : (Cond.castable C y'.cls).before a0 Z = true) (hy : y'.cls ≠ "java/lang/invoke/MethodHandle" ∧ y'.cls ≠ "java/lang/invoke/VarHandle") (E : Exa Z h a C)
    (hP : Pays l rm Z a0 EL sf z 5 W as' h rc rs Q') (has : (.ref a :: argsL).toArray = as') (hlen : ∀ sig, parseMethodDescriptor y'.desc = some sig → argsL.length = sig.parameters.length) (hst : S = argsL.reverse ++ .ref a :: rest) (hW : (rest.map fun v => v.category).sum ≤ W) (hsz : L.size = maxL) (hd : decode bytes pc = .ok (.invokeinterface idx count, 5)) (hp : pc + 5 = pc')
    (hk : k + rc = k') (hn : n + rs = n') (hk2 : k' ≤ rm.cells) (hn2 : n' ≤ rm.slots)
    (g : ∀ (v : Option Value) (h' : Heap), h.size ≤ h'.size → Q' v h' → Seg l Z a0 EL y bytes maxL ret rm Q h' k' n' sf pc' L (v.toList ++ rest)) : Seg l Z a0 EL y bytes maxL ret rm Q h k n sf pc L S := by
  subst hp hk hn hst has
  intro p e s m args below meth c T C' w'
  obtain ⟨vm0, locs, k0, X, r1, r2, r3, r4, r5, r6, r7, r8, r9, r10⟩ := w'
  obtain ⟨cq, kq, qa, qb, qc⟩ := isOf (s := s.setVm vm0) r4 r1 E
  obtain ⟨v, vm1, B, -, X', hS, hg, ⟨L0, ⟨q1, q2, q3⟩, hl, hc, hs, q4⟩, st⟩ := X.interfaceBackS C'.1 r5 (mvT r4 w1) (mvT r4 w2) (mvT r4 w5 hw5) (mvT r4 w3) (mvT r4 w4) (mvT r4 w6) (mvT r4 w7) (mvT r4 w8) hy (hP p e below s args vm0 r4 r6.1 r10 r8 r9) qa qb qc (g := mkF m pc L (argsL.reverse ++ .ref a :: rest)) rfl (hsz.trans C'.2.2.1.symm) (Steps.refl _) (argsL := argsL) (rest := rest) hlen rfl (by show 2 * 0 + _ ≤ _; omega) (hb C'.2.1 hd) (fun _ _ => ⟨rfl, r1, hk2, hn2⟩)
  rw [r1] at hg
  exact Gl.st (fun t hr => st.trans hr) (g v B.U.heap hg q3 p e s m args below meth c B.U C' (wkBack ⟨r2, r3, r4, r5, r6, r7, r8, r9, r10⟩ X' hS hg ⟨q1, q2⟩ hl hc hs q4))
theorem nf_sel {C : String} (w3 : (Cond.selects C y' y').before a0 Z = true) (s : State) (vm0 : Vm) (hZ : Z.Warmed39 vm0) : Free.NotFace (s.setVm vm0) y' :=
  notFace_of_selects (args := #[]) (mvT (s := s.setVm vm0) hZ w3)
theorem nf_topS (w : (Cond.noSuperclass y'.cls).before a0 Z = true) (s : State) (vm0 : Vm) (hZ : Z.Warmed39 vm0) : Free.NotFace (s.setVm vm0) y' := nf_top (args := #[]) (mvT (s := s.setVm vm0) hZ w)
theorem nf_supS {C : String} (w : (Cond.superclass y'.cls C).before a0 Z = true) (s : State) (vm0 : Vm) (hZ : Z.Warmed39 vm0) : Free.NotFace (s.setVm vm0) y' := nf_super (args := #[]) (mvT (s := s.setVm vm0) hZ w)
end Use
end Calls
end Jvm.OwnK
namespace Jvm.OwnK
open Jvm Jvm.ClassFile Sem Op Lib Jvm.Free Jvm.Stand Jvm.LawKit Jvm.RoadKit Bundle
/-! own kit, part 4: small numbers as Int32 -/
theorem n32i {i : Nat} (h : i ≤ 100000) : (Int32.ofNat i).toInt = i := Int32.toInt_ofNat_of_lt (by omega)
theorem n32c {i : Nat} (h : i ≤ 100000) : (Int32.ofNat i).toNatClampNeg = i := by
  show (Int32.ofNat i).toInt.toNat = i
  rw [n32i h]; rfl
theorem n32lt {i n : Nat} (h : i < n) (hn : n ≤ 100000) : Int32.ofNat i < Int32.ofNat n := by
  rw [Int32.lt_iff_toInt_lt, n32i (by omega), n32i hn]; omega
theorem n32nlt {i n : Nat} (h : n ≤ i) (hn : i ≤ 100000) : ¬ Int32.ofNat i < Int32.ofNat n := by
  rw [Int32.lt_iff_toInt_lt, n32i (by omega), n32i (by omega)]; omega
theorem n32nn {i : Nat} (h : i ≤ 100000) : ¬ Int32.ofNat i < 0 := by
  rw [Int32.lt_iff_toInt_lt, n32i h]; show ¬ (i : Int) < 0; omega
theorem n32in {i n : Nat} (h : i < n) (hn : n ≤ 100000) : ¬ Int32.ofNat i < 0 ∧ Int32.ofNat i < Int32.ofNat n := ⟨n32nn (by omega), n32lt h hn⟩
theorem n32add (i j : Nat) : Int32.ofNat i + Int32.ofNat j = Int32.ofNat (i + j) := (Int32.ofNat_add i j).symm
theorem n32s (i : Nat) : Int32.ofNat i + 1 = Int32.ofNat (i + 1) := n32add i 1
theorem n32eq {i j : Nat} (hi : i ≤ 100000) (hj : j ≤ 100000) (h : Int32.ofNat i = Int32.ofNat j) : i = j := by
  have := congrArg Int32.toInt h
  rw [n32i hi, n32i hj] at this; omega
theorem getDmap {α : Type} (f : α → Value) (cs : List α) (i : Nat) (d : α) (dv : Value) (h : i < cs.length) : (cs.map f).getD i dv = f (cs.getD i d) := by
  simp [List.getD_eq_getElem?_getD, h]
theorem toInt_cases {x : Int32} {n : Nat} (h0 : 0 ≤ x.toInt) (h1 : x.toInt < n) (hn : n ≤ 1000) : ∃ i : Nat, i < n ∧ x = Int32.ofNat i := by
  refine ⟨x.toInt.toNat, by omega, Int32.toInt_inj.mp ?_⟩
  rw [Int32.toInt_ofNat_of_lt (by omega)]; omega
end Jvm.OwnK
namespace Jvm.OwnK
open Jvm Jvm.ClassFile Sem Op Lib Jvm.Free Jvm.Stand Jvm.LawKit Jvm.RoadKit Bundle
/-! own kit, part 5: arraycopy and clone -/
section Copies
variable {l : Launch} {Z : State} {a0 : Array Value} {EL : List (String × Nat)} {y : MethodName} {bytes : ByteArray} {maxL : Nat} {ret : Option FieldType} {rm : Room} {Q : Option Value → Heap → Prop} {h : Heap} {k n : Nat} {sf : List Addr} {pc pc' : Nat} {L : Array Slot} {S : List Value}
theorem Seg.cpA {idx : Nat} {a b : Addr} {kc kc' : ClassId} {ty ty' : FieldType} {z z' sp dp nn : Int32} {vs vd us vr : List Value} {dv dd : Value} (w1 : (Cond.methodLink y.cls idx Jvm.Stand.acN).before a0 Z = true) (w2 : (Cond.native Jvm.Stand.acN).before a0 Z = true) (w3 : (Cond.static Jvm.Stand.acN).before a0 Z = true) (w4 : (Cond.initialized "java/lang/System").before a0 Z = true)
    (A : Arv Z h a kc ty z vs dv) (B : Arv Z h b kc' ty' z' vd dd) (hty : (ty = ty' ∧ refKind ty = false) ∨ (refKind ty = true ∧ refKind ty' = true ∧ StoL Z h b us))
    (h1 : ¬ sp < 0) (h2 : ¬ dp < 0) (h3 : ¬ nn < 0) (h4 : sp.toNatClampNeg + nn.toNatClampNeg ≤ z.toNatClampNeg) (h5 : dp.toNatClampNeg + nn.toNatClampNeg ≤ z'.toNatClampNeg)
    (hus : us = (List.range nn.toNatClampNeg).map fun i => vs.getD (sp.toNatClampNeg + i) dv) (hl : dp.toNatClampNeg + nn.toNatClampNeg ≤ vd.length) (hvr : vd.take dp.toNatClampNeg ++ us ++ vd.drop (dp.toNatClampNeg + nn.toNatClampNeg) = vr) (hsf : b ∈ sf) (hsz : L.size = maxL) (hd : decode bytes pc = .ok (.invokestatic idx, 3)) (hp : pc + 3 = pc') (hf : 1 ≤ rm.frames) {W : Nat} (hW : (S.map fun v => v.category).sum ≤ W) (hlo : W + (nativeFrameWords "java/lang/System" "arraycopy" 5 + 11) ≤ rm.locals)
    (g : ∀ h', Keep h h' [b] → Arv Z h' b kc' ty' z' vr dd → Seg l Z a0 EL y bytes maxL ret rm Q h' k n sf pc' L S) : Seg l Z a0 EL y bytes maxL ret rm Q h k n sf pc L (.int nn :: .int dp :: .ref b :: .int sp :: .ref a :: S) := by
  subst hp hvr
  intro p e s m args below meth c T C' w'
  obtain ⟨vm0, locs, k0, X, r1, r2, r3, r4, r5, r6, r7, r8, r9, r10⟩ := w'
  obtain ⟨T', h', L', X', e', FL, K, A', st⟩ := RoadKit.cpA X C'.1 r4 r5 w1 w2 w3 w4 r1 A B hty h1 h2 h3 h4 h5 hus hl r7 (r10 b hsf).1 (g := mkF m pc L (.int nn :: .int dp :: .ref b :: .int sp :: .ref a :: S)) rfl (hsz.trans C'.2.2.1.symm) rfl (hb C'.2.1 hd) hf (W := W) (by show 2 * 0 + _ ≤ _; omega) hlo
  have A1 := CHr.keep K (r10.safes (allS hsf all0)) r6.1
  exact Gl.st st (g h' K A' p e s m args below meth c T' C' ⟨vm0, L', k0, X', e', r2, Nat.le_trans r3 K.1, r4, r5, r6.trans A1, FL, ext_kp r8 K (allS (r10 b hsf).1 all0), r9, r10.chr A1⟩)
theorem Seg.cloneH {idx : Nat} {ad : String} {a : Addr} {kc : ClassId} {ty : FieldType} {z : Int32} {vs : List Value} {dv : Value} (w1 : (Cond.methodLink y.cls idx ⟨ad, "clone", "()Ljava/lang/Object;"⟩).before a0 Z = true) (w2 : (Cond.sameMethod ad "java/lang/Object" "clone" "()Ljava/lang/Object;").before a0 Z = true) (w3 : (Cond.native ⟨"java/lang/Object", "clone", "()Ljava/lang/Object;"⟩).before a0 Z = true)
    (w4 : (Cond.instanceMethod ⟨"java/lang/Object", "clone", "()Ljava/lang/Object;"⟩).before a0 Z = true) (w5 : (Cond.selects ad ⟨ad, "clone", "()Ljava/lang/Object;"⟩ ⟨"java/lang/Object", "clone", "()Ljava/lang/Object;"⟩).before a0 Z = true) (w6 : (Cond.castable ad "java/lang/Cloneable").before a0 Z = true)
    (F : Arv Z h a kc ty z vs dv) (E : Exa Z h a ad) (hsz : L.size = maxL) (hd : decode bytes pc = .ok (.invokevirtual idx, 3)) (hp : pc + 3 = pc') (hf : 1 ≤ rm.frames) {W cap : Nat} (hW : (S.map fun v => v.category).sum ≤ W) (hlo : W + 14 ≤ rm.locals) (hcap : z.toNatClampNeg ≤ cap) {k' n' : Nat} (hk : k + 1 = k') (hn : n + cap = n') (hk2 : k' ≤ rm.cells) (hn2 : n' ≤ rm.slots)
    (g : ∀ (x : Addr) (h' : Heap), Ext h h' → h.size = x → x < h'.size → Arv Z h' x kc ty z vs dv → Exa Z h' x ad → Seg l Z a0 EL y bytes maxL ret rm Q h' k' n' (x :: sf) pc' L (.ref x :: S)) : Seg l Z a0 EL y bytes maxL ret rm Q h k n sf pc L (.ref a :: S) := by
  subst hp hk hn
  intro p e s m args below meth c T C' w'
  obtain ⟨vm0, locs, k0, X, r1, r2, r3, r4, r5, r6, r7, r8, r9, r10⟩ := w'
  obtain ⟨T', h', X', e', Ex, A, E', st⟩ := RoadKit.cloneH X C'.1 r4 r5 w1 w2 w3 w4 w5 w6 r1 F.arh E (g := mkF m pc L (.ref a :: S)) rfl (hsz.trans C'.2.2.1.symm) rfl (hb C'.2.1 hd) hf (W := W) (by show 2 * 0 + _ ≤ _; omega) hlo hcap hk2 hn2
  refine Gl.st st (g _ h' Ex rfl E'.lt A E' p e s m args below meth c T' C' ⟨vm0, locs, k0, X', e', r2, Nat.le_trans r3 Ex.1, r4, r5, r6.trans (CHr.ext Ex r6.1), r7, ext_tr r8 Ex, r9, ?_⟩)
  exact (r10.chr (CHr.ext Ex r6.1)).cons r8.1 E'.lt ((Safe.new (Nat.le_refl _)).ext Ex r6.1)
end Copies
theorem n32p (i : Nat) : Int32.ofNat (i + 1) - 1 = Int32.ofNat i := by rw [← n32s, Int32.add_sub_cancel]
theorem n32m (i : Nat) : Int32.ofNat (i + 1) + (-1) = Int32.ofNat i := by rw [← Int32.sub_eq_add_neg, n32p]
theorem n32z (x : Int32) : x - 0 = x := Int32.sub_zero x
theorem n32zp (x : Int32) : 0 + x = x := Int32.zero_add x
theorem range_take (f : Int32 → Value) (cs : List Int32) (e : Nat) (dv : Value) (he : e ≤ cs.length) (h' : e ≤ 100000) : (cs.take e).map f = (List.range (Int32.ofNat e).toNatClampNeg).map fun i => (cs.map f).getD ((0 : Int32).toNatClampNeg + i) dv := by
  rw [n32c h']
  refine List.ext_getElem? fun i => ?_
  by_cases hi : i < e
  · have : i < cs.length := by omega
    simp [hi, this, List.getElem?_take]
  · simp [hi, List.getElem?_take]
theorem take_all (xs : List Value) (vd : List Value) (e : Nat) (h : vd.length = e) (h' : e ≤ 100000) : vd.take (0 : Int32).toNatClampNeg ++ xs ++ vd.drop ((0 : Int32).toNatClampNeg + (Int32.ofNat e).toNatClampNeg) = xs := by
  rw [n32c h']
  have : (0 : Int32).toNatClampNeg = 0 := rfl
  rw [this, Nat.zero_add, ← h]; simp
end Jvm.OwnK
namespace Jvm.OwnK
open Jvm Jvm.ClassFile Sem Op Lib Jvm.Free Jvm.Stand Jvm.LawKit Jvm.RoadKit Bundle
section More
variable {l : Launch} {Z : State} {a0 : Array Value} {EL : List (String × Nat)} {y : MethodName} {Q : Option Value → Heap → Prop} {h : Heap} {sf : List Addr}
theorem Pays.more {R : Room} {as' : Array Value} {rc rs rc' rs' len W : Nat} (hP : Pays l R Z a0 EL sf y len W as' h rc rs Q) (h1 : rc ≤ rc') (h2 : rs ≤ rs') : Pays l R Z a0 EL sf y len W as' h rc' rs' Q := by
  intro p e below s args vm0 hZ H hS hE hEL m meth c A g ig mk a X hg hsize hdg hW hn hp
  obtain ⟨v, B, X', hS', hgr, ⟨L, ⟨q1, q2, q3⟩, hl, hc, hs, hr⟩, hsteps⟩ := hP p e below s args vm0 hZ H hS hE hEL m meth c A g ig mk a X hg hsize hdg hW hn ⟨hp.1, hp.2.1, Nat.le_trans (Nat.add_le_add_left h1 _) hp.2.2.1, Nat.le_trans (Nat.add_le_add_left h2 _) hp.2.2.2⟩
  exact ⟨v, (B.U, B.locs, A.cells + rc', A.slots + rs'), X'.more (by rw [hc]; exact Nat.add_le_add_left h1 _) (by rw [hs]; exact Nat.add_le_add_left h2 _), hS', hgr, ⟨L, ⟨q1, q2, q3⟩, hl, rfl, rfl, hr⟩, hsteps⟩
end More
theorem arv_start {Z : State} {args : Array Value} {t : Term} {ty : FieldType} {n : Int32} {vs : List Value} {a : Addr} (dv : Value) (hf : Fit Z) (ev : t.eval args Z none [] Z = some (.ref a)) (hx : (Cond.arrayOf t ty).value args Z none Z [] = some true) (hlen : (Term.length t).eval args Z none [] Z = some (.int n)) (hz : ¬ n < 0) (hl : n.toNatClampNeg = vs.length)
    (H : ∀ cl, Z.heap[a]? = some cl → HasL cl 0 vs) : ∃ kc, Arv Z Z.heap a kc ty n vs dv := by
  obtain ⟨cl, A⟩ := Arr.start ev hx
  obtain ⟨cl', e1, e2⟩ := length_at hlen ev
  cases A.1.symm.trans e1
  have q : cl.slots.size < 2 ^ 31 := by
    simp only [Term.eval, Option.bind_eq_bind] at hlen
    rw [ev] at hlen
    simp only [Option.bind_some] at hlen
    cases hat : Z.arrayAt? a with
    | none => simp [hat] at hlen
    | some c1 =>
      cases e1.symm.trans (State.arrayAt?_spec hat).1
      simp only [hat, Option.bind_some] at hlen
      by_cases q : cl.slots.size < 2 ^ 31
      · exact q
      · simp [q] at hlen
  exact ⟨_, Arv.start hf A q e2 hz hl (H cl e1)⟩
theorem b255L (x : Int64) : ¬ ((x &&& 255).toInt32).toUInt32.toUInt16.toUInt32.toInt32 < 0 ∧ ¬ (255 : Int32) < ((x &&& 255).toInt32).toUInt32.toUInt16.toUInt32.toInt32 := by
  have h1 := c_maskL x 255 8 (by decide) (by decide)
  have h2 := c_l2i (x &&& 255)
  have h3 := c_i2c ((x &&& 255).toInt32)
  have e : (255 : Int32).toInt = 255 := by decide
  have e0 : (0 : Int32).toInt = 0 := by decide
  have r := Int32.toInt_lt ((x &&& 255).toInt32)
  have r' := Int32.le_toInt ((x &&& 255).toInt32)
  rw [Int32.lt_iff_toInt_lt, Int32.lt_iff_toInt_lt, e, e0]
  omega
theorem rem_ushr (x q : Int32) (k : Nat) (m : Nat) (hk : q.toBitVec.toNat % 32 = k) (h0 : 0 < k) (hm : 0 < m) (hm' : m ≤ 1000) : ∃ i : Nat, i < m ∧ (((x.toUInt32 >>> (q &&& 31).toUInt32).toInt32) % Int32.ofNat m) = Int32.ofNat i := by
  have h1 := c_iushr x q k hk h0
  have h2 := c_iremV ((x.toUInt32 >>> (q &&& 31).toUInt32).toInt32) (Int32.ofNat m)
  have e := n32i (i := m) (by omega)
  have h3 := h2.1 (by rw [h1]; exact Int.ediv_nonneg (by omega) (by exact_mod_cast Nat.zero_le _)) (by rw [e]; omega)
  exact toInt_cases h3.1 (by rw [e] at h3; exact h3.2.1) hm'
end Jvm.OwnK
/- laws to paste: Road.backV, Road.codOf, Road.lenW, Road.chN, Road.eqW (cut by pick.py; bodies as the Statement names them) -/
namespace Jvm.Pilot.@@N@@
namespace StrChars
open Jvm Sem ClassFile Op Lib Jvm.Stand Jvm.Free.XT Jvm.Free.ALB Jvm.Free.JM Jvm.Free
open Jvm.Lib.Cold (StaticIs)
/-- a char array whose places are chars -/
def Ch (a : Addr) (A : Cell) (U : State) : Prop := Arr .char a A U ∧ Typed .char A
theorem Ch.mv {a : Addr} {A : Cell} {U U' : State} (h : Ch a A U) (hal : U.vm.Alike U'.vm) (hh : U'.heap = U.heap) : Ch a A U' := ⟨h.1.mv hal hh, h.2⟩
theorem Ch.keep {a : Addr} {A : Cell} {U U' : State} (h : Ch a A U) (hal : U.vm.Alike U'.vm) (hk : U'.heap[a]? = some A) : Ch a A U' := ⟨h.1.keep hal hk, h.2⟩
/-- what place i of a char[]'s cell holds -/
def cv (A : Cell) (i : Nat) : Int32 := match A.slots[i]? with | some (.int x) => x | _ => 0
theorem Ch.get {a : Addr} {A : Cell} {U : State} (h : Ch a A U) {i : Nat} (hi : i < A.slots.size) : A.slots[i]? = some (.int (cv A i)) := by
  have e := Array.getElem?_eq_getElem hi
  have f := h.2 i _ e
  unfold cv; rw [e]
  generalize A.slots[i] = v at f
  cases v <;> simp [fits] at f ⊢
/-- the byte that i2b leaves of a char -/
def lo8 (x : Int32) : Int32 := x.toInt8.toInt32
theorem fits_lo8 (y : Int32) : fits .byte (.int (lo8 y)) = true := by
  have h1 := y.toInt8.le_toInt
  have h2 := y.toInt8.toInt_lt
  simp only [lo8, fits, Bool.and_eq_true, decide_eq_true_eq, Int32.le_iff_toInt_le, Int8.toInt_toInt32, show (-128 : Int32).toInt = -128 from by decide, show (127 : Int32).toInt = 127 from by decide]
  omega
/-- A' is A but that each place j of lo .. hi - 1 holds f j -/
def Laid (A A' : Cell) (lo hi : Nat) (f : Nat → Value) : Prop := A'.cls = A.cls ∧ A'.vm = A.vm ∧ A'.slots.size = A.slots.size ∧ ∀ i, A'.slots[i]? = if lo ≤ i ∧ i < hi then some (f i) else A.slots[i]?
theorem Laid.zero (A : Cell) (lo : Nat) (f : Nat → Value) : Laid A A lo (lo + 0) f := ⟨rfl, rfl, rfl, fun i => by rw [if_neg (by omega)]⟩
theorem Laid.step {A Ak : Cell} {lo k : Nat} {f : Nat → Value} {v : Value} (h : Laid A Ak lo k f) (hlo : lo ≤ k) (hk : k < Ak.slots.size) (hv : v = f k) : Laid A (Ak.setSlot k v) lo (k + 1) f := by
  refine ⟨h.1, h.2.1, by simpa [Cell.setSlot] using h.2.2.1, fun i => ?_⟩
  by_cases e : k = i
  · subst e; rw [Cell.slots_setSlot_self v hk, if_pos (by omega), hv]
  · rw [Cell.slots_setSlot_ne v e, h.2.2.2 i]
    by_cases q : lo ≤ i ∧ i < k
    · rw [if_pos q, if_pos (by omega)]
    · rw [if_neg q, if_neg (by omega)]
def U16 : String := "java/lang/StringUTF16"
namespace Cmp5
def yN : MethodName := ⟨"java/lang/StringUTF16", "compress", "([CI[BII)I"⟩
abbrev yB : ByteArray := jdk_52_method_21_code
theorem d0 : decode yB 0 = .ok (.iconst 0, 1) := by decide +kernel
theorem d1 : decode yB 1 = .ok (.istore 5, 2) := by decide +kernel
theorem d3 : decode yB 3 = .ok (.iload 5, 2) := by decide +kernel
theorem d5 : decode yB 5 = .ok (.iload 4, 2) := by decide +kernel
theorem d7 : decode yB 7 = .ok (.if_icmp (.ge) 37, 3) := by decide +kernel
theorem d10 : decode yB 10 = .ok (.aload_n 0, 1) := by decide +kernel
theorem d11 : decode yB 11 = .ok (.iload_n 1, 1) := by decide +kernel
theorem d12 : decode yB 12 = .ok (.caload, 1) := by decide +kernel
theorem d13 : decode yB 13 = .ok (.istore 6, 2) := by decide +kernel
theorem d15 : decode yB 15 = .ok (.iload 6, 2) := by decide +kernel
theorem d17 : decode yB 17 = .ok (.sipush 255, 3) := by decide +kernel
theorem d20 : decode yB 20 = .ok (.if_icmp (.le) 6, 3) := by decide +kernel
theorem d26 : decode yB 26 = .ok (.aload_n 2, 1) := by decide +kernel
theorem d27 : decode yB 27 = .ok (.iload_n 3, 1) := by decide +kernel
theorem d28 : decode yB 28 = .ok (.iload 6, 2) := by decide +kernel
theorem d30 : decode yB 30 = .ok (.i2b, 1) := by decide +kernel
theorem d31 : decode yB 31 = .ok (.bastore, 1) := by decide +kernel
theorem d32 : decode yB 32 = .ok (.iinc 1 1, 3) := by decide +kernel
theorem d35 : decode yB 35 = .ok (.iinc 3 1, 3) := by decide +kernel
theorem d38 : decode yB 38 = .ok (.iinc 5 1, 3) := by decide +kernel
theorem d41 : decode yB 41 = .ok (.goto (-38), 3) := by decide +kernel
theorem d44 : decode yB 44 = .ok (.iload 4, 2) := by decide +kernel
theorem d46 : decode yB 46 = .ok (.ireturn, 1) := by decide +kernel
def site : List Cond := []
def tab : Cond := tabOf yN yB 7 (some .int) site
def P (b : Addr) (A : Cell) (d : Addr) (B : Cell) (o q len : Nat) (args : Array Value) (s : State) : Prop := args = #[.ref b, .int (Int32.ofNat o), .ref d, .int (Int32.ofNat q), .int (Int32.ofNat len)] ∧ Ch b A s ∧ Arr .byte d B s ∧ b ≠ d ∧ o + len ≤ A.slots.size ∧ q + len ≤ B.slots.size ∧ ∀ i, i < len → ¬ 255 < cv A (o + i)
def E (b : Addr) (A : Cell) (d : Addr) (B : Cell) (o q len : Nat) (r : Option Value) (s u : State) : Prop := r = some (.int (Int32.ofNat len)) ∧ ∃ B', Put d B' s u ∧ Laid B B' q (q + len) (fun j => Value.int (lo8 (cv A (o + (j - q)))))
/-- no char of the range above 255: len; the places written hold each char's low byte -/
theorem law (l : Launch) (b : Addr) (A : Cell) (d : Addr) (B : Cell) (o q len : Nat) : Law l yN 5 5 0 0 yB 7 (some .int) site (P b A d B o q len) (E b A d B o q len) (copyLocs d q len) 0 0 := by
  refine Law.of_walk (plainFor_of_name (by decide +kernel)) (by decide +kernel) (by decide +kernel) (by decide) (fun _ _ h => by rw [h.1]; rfl) (fun _ U U' hal hh h => ⟨h.1, h.2.1.mv hal hh, h.2.2.1.mv hal hh, h.2.2.2⟩) (fun r U U' V V' h1 hal h2 h => ⟨h.1, h.2.elim fun B' q => ⟨B', q.1.mv h1 h2, q.2⟩⟩) ?_
  intro p e s m args below meth c s₁ X0 hexec hbytes hml hret hlk hnm hown hh0 W hP
  obtain ⟨rfl, hA, hB, hne, l1, l2, hp⟩ := hP
  have c1 : Steps p.tables e below (s₁.setTop (entryFrame m #[.ref b, .int (Int32.ofNat o), .ref d, .int (Int32.ofNat q), .int (Int32.ofNat len)] 7)) (s₁.setTop (mkF m 0 #[.val (.ref b), .val (.int (Int32.ofNat o)), .val (.ref d), .val (.int (Int32.ofNat q)), .val (.int (Int32.ofNat len)), .unset, .unset] [])) := entry rfl
  have hA0 := hA.1.mv X0.warmed.alike hh0
  have hB0 := hB.mv X0.warmed.alike hh0
  have a31 := hA.1.2.2.2
  have c2 : Steps p.tables e below (s₁.setTop (entryFrame m #[.ref b, .int (Int32.ofNat o), .ref d, .int (Int32.ofNat q), .int (Int32.ofNat len)] 7)) (s₁.setTop (mkF m 3 #[.val (.ref b), .val (.int (Int32.ofNat o)), .val (.ref d), .val (.int (Int32.ofNat q)), .val (.int (Int32.ofNat len)), .val (.int 0), .unset] [])) := c1.trans (by
    refine iconstV X0.here hexec rfl 0 (hb hbytes d0) (by decide) ?_
    refine XS.istore X0.here hexec rfl (hb hbytes d1) rfl rfl ?_
    exact Steps.refl _)
  have loop : ∀ (r i : Nat), i + r = len → ∀ (z : Slot), (z = .unset ∨ ∃ w, z = .val w ∧ w.category = 1) → ∀ (Tl : State) (Bk : Cell), Stand p l e { frames := 0, locals := 0, cells := 0, slots := 0 } s m #[.ref b, .int (Int32.ofNat o), .ref d, .int (Int32.ofNat q), .int (Int32.ofNat len)] below meth c Tl ([] ++ copyLocs d q i) 0 0 → Put d Bk s₁ Tl → Laid B Bk q (q + i) (fun j => Value.int (lo8 (cv A (o + (j - q))))) →
      Steps p.tables e below (s₁.setTop (entryFrame m #[.ref b, .int (Int32.ofNat o), .ref d, .int (Int32.ofNat q), .int (Int32.ofNat len)] 7)) (Tl.setTop (mkF m 3 #[.val (.ref b), .val (.int (Int32.ofNat (o + i))), .val (.ref d), .val (.int (Int32.ofNat (q + i))), .val (.int (Int32.ofNat len)), .val (.int (Int32.ofNat i)), z] [])) → ∃ (T' : State) (B' : Cell) (z' : Slot), Stand p l e { frames := 0, locals := 0, cells := 0, slots := 0 } s m #[.ref b, .int (Int32.ofNat o), .ref d, .int (Int32.ofNat q), .int (Int32.ofNat len)] below meth c T' ([] ++ copyLocs d q len) 0 0 ∧ Put d B' s₁ T' ∧ Laid B B' q (q + len) (fun j => Value.int (lo8 (cv A (o + (j - q))))) ∧
      Steps p.tables e below (s₁.setTop (entryFrame m #[.ref b, .int (Int32.ofNat o), .ref d, .int (Int32.ofNat q), .int (Int32.ofNat len)] 7)) (T'.setTop (mkF m 3 #[.val (.ref b), .val (.int (Int32.ofNat (o + len))), .val (.ref d), .val (.int (Int32.ofNat (q + len))), .val (.int (Int32.ofNat len)), .val (.int (Int32.ofNat len)), z'] [])) := by
    intro r
    induction r with
    | zero =>
      intro i hi z hz Tl Bk Xl pl fl cl
      have hil : i = len := by omega
      rw [hil] at Xl fl cl
      exact ⟨Tl, Bk, z, Xl, pl, fl, cl⟩
    | succ r ih =>
      intro i hi z hz Tl Bk Xl pl fl cl
      have all := X0.warmed.alike.symm.trans Xl.warmed.alike
      have hAl := hA0.keep all (pl.other hne hA0.1)
      have hBk := hB0.like all pl.1 fl.1 fl.2.1 fl.2.2.1
      have hlt : q + i < Bk.slots.size := by rw [fl.2.2.1]; omega
      have c3 : Steps p.tables e below (s₁.setTop (entryFrame m #[.ref b, .int (Int32.ofNat o), .ref d, .int (Int32.ofNat q), .int (Int32.ofNat len)] 7)) (Tl.setTop (mkF m 12 #[.val (.ref b), .val (.int (Int32.ofNat (o + i))), .val (.ref d), .val (.int (Int32.ofNat (q + i))), .val (.int (Int32.ofNat len)), .val (.int (Int32.ofNat i)), z] [.int (Int32.ofNat (o + i)), .ref b])) := cl.trans (by
        refine XS.iload Xl.here hexec rfl (hb hbytes d3) rfl ?_
        refine XS.iload Xl.here hexec rfl (hb hbytes d5) rfl ?_
        refine XS.icmpNo Xl.here hexec rfl (hb hbytes d7) rfl (ii_ge_f (lt32 (by omega) (by omega))) ?_
        refine XS.aloadN Xl.here hexec rfl (hb hbytes d10) rfl rfl ?_
        refine XS.iloadN Xl.here hexec rfl (hb hbytes d11) rfl ?_
        exact Steps.refl _)
      have c4 : Steps p.tables e below (s₁.setTop (entryFrame m #[.ref b, .int (Int32.ofNat o), .ref d, .int (Int32.ofNat q), .int (Int32.ofNat len)] 7)) (Tl.setTop (mkF m 13 #[.val (.ref b), .val (.int (Int32.ofNat (o + i))), .val (.ref d), .val (.int (Int32.ofNat (q + i))), .val (.int (Int32.ofNat len)), .val (.int (Int32.ofNat i)), z] [.int (cv A (o + i))])) := c3.trans (by
        refine Xl.aget hexec hAl rfl (hA.get (i := o + i) (by omega)) rfl rfl (hb hbytes d12) ?_
        exact Steps.refl _)
      have c5 : Steps p.tables e below (s₁.setTop (entryFrame m #[.ref b, .int (Int32.ofNat o), .ref d, .int (Int32.ofNat q), .int (Int32.ofNat len)] 7)) (Tl.setTop (mkF m 15 #[.val (.ref b), .val (.int (Int32.ofNat (o + i))), .val (.ref d), .val (.int (Int32.ofNat (q + i))), .val (.int (Int32.ofNat len)), .val (.int (Int32.ofNat i)), .val (.int (cv A (o + i)))] [])) := c4.trans (by
        refine XS.istoreS Xl.here hexec rfl (hb hbytes d13) rfl rfl hz ?_
        exact Steps.refl _)
      have c6 : Steps p.tables e below (s₁.setTop (entryFrame m #[.ref b, .int (Int32.ofNat o), .ref d, .int (Int32.ofNat q), .int (Int32.ofNat len)] 7)) (Tl.setTop (mkF m 31 #[.val (.ref b), .val (.int (Int32.ofNat (o + i))), .val (.ref d), .val (.int (Int32.ofNat (q + i))), .val (.int (Int32.ofNat len)), .val (.int (Int32.ofNat i)), .val (.int (cv A (o + i)))] [.int (lo8 (cv A (o + i))), .int (Int32.ofNat (q + i)), .ref d])) := c5.trans (by
        refine XS.iload Xl.here hexec rfl (hb hbytes d15) rfl ?_
        refine sipushV Xl.here hexec rfl 255 (hb hbytes d17) (by decide) ?_
        refine XS.icmpYes Xl.here hexec rfl (pc0 := 20) rfl (hb hbytes d20) rfl (ii_le_t (hp i (by omega))) (by decide) rfl ?_
        refine XS.aloadN Xl.here hexec rfl (hb hbytes d26) rfl rfl ?_
        refine XS.iloadN Xl.here hexec rfl (hb hbytes d27) rfl ?_
        refine XS.iload Xl.here hexec rfl (hb hbytes d28) rfl ?_
        refine i2b Xl.here hexec rfl (hb hbytes d30) rfl ?_
        exact Steps.refl _)
      obtain ⟨T7, X7, p7, st7⟩ := Xl.aput hexec hBk rfl hlt rfl (fits_lo8 (cv A (o + i))) (g := (mkF m 31 #[.val (.ref b), .val (.int (Int32.ofNat (o + i))), .val (.ref d), .val (.int (Int32.ofNat (q + i))), .val (.int (Int32.ofNat len)), .val (.int (Int32.ofNat i)), .val (.int (cv A (o + i)))] [.int (lo8 (cv A (o + i))), .int (Int32.ofNat (q + i)), .ref d])) rfl (rest := []) rfl (hb hbytes d31)
      have c8 : Steps p.tables e below (s₁.setTop (entryFrame m #[.ref b, .int (Int32.ofNat o), .ref d, .int (Int32.ofNat q), .int (Int32.ofNat len)] 7)) (T7.setTop (mkF m 32 #[.val (.ref b), .val (.int (Int32.ofNat (o + i))), .val (.ref d), .val (.int (Int32.ofNat (q + i))), .val (.int (Int32.ofNat len)), .val (.int (Int32.ofNat i)), .val (.int (cv A (o + i)))] [])) := c6.trans (st7 _ (Steps.refl _))
      have c9 : Steps p.tables e below (s₁.setTop (entryFrame m #[.ref b, .int (Int32.ofNat o), .ref d, .int (Int32.ofNat q), .int (Int32.ofNat len)] 7)) (T7.setTop (mkF m 3 #[.val (.ref b), .val (.int (Int32.ofNat (o + i) + 1)), .val (.ref d), .val (.int (Int32.ofNat (q + i) + 1)), .val (.int (Int32.ofNat len)), .val (.int (Int32.ofNat i + 1)), .val (.int (cv A (o + i)))] [])) := c8.trans (by
        refine iincV X7.here hexec rfl 1 (hb hbytes d32) (by decide) rfl rfl ?_
        refine iincV X7.here hexec rfl 1 (hb hbytes d35) (by decide) rfl rfl ?_
        refine iincV X7.here hexec rfl 1 (hb hbytes d38) (by decide) rfl rfl ?_
        refine XS.goto X7.here hexec rfl (pc0 := 41) rfl (hb hbytes d41) (by decide) rfl ?_
        exact Steps.refl _)
      have c10 : Steps p.tables e below (s₁.setTop (entryFrame m #[.ref b, .int (Int32.ofNat o), .ref d, .int (Int32.ofNat q), .int (Int32.ofNat len)] 7)) (T7.setTop (mkF m 3 #[.val (.ref b), .val (.int (Int32.ofNat (o + (i + 1)))), .val (.ref d), .val (.int (Int32.ofNat (q + (i + 1)))), .val (.int (Int32.ofNat len)), .val (.int (Int32.ofNat (i + 1))), .val (.int (cv A (o + i)))] [])) := by
        have := c9
        rw [succ32, succ32, succ32] at this
        exact this
      exact ih (i + 1) (by omega) _ (Or.inr ⟨_, rfl, rfl⟩) T7 _ (by rw [copyLocs_step, ← List.append_assoc]; exact X7) (pl.trans p7) (fl.step (by omega) hlt (by simp)) c10
  obtain ⟨T9, B9, z9, X9, p9, f9, g9⟩ := loop len 0 (by omega) .unset (Or.inl rfl) s₁ B (by simpa [copyLocs] using X0) ⟨hB0.1, fun _ _ => rfl, rfl⟩ (Laid.zero _ _ _) c2
  have c11 : Steps p.tables e below (s₁.setTop (entryFrame m #[.ref b, .int (Int32.ofNat o), .ref d, .int (Int32.ofNat q), .int (Int32.ofNat len)] 7)) (T9.setTop (mkF m 46 #[.val (.ref b), .val (.int (Int32.ofNat (o + len))), .val (.ref d), .val (.int (Int32.ofNat (q + len))), .val (.int (Int32.ofNat len)), .val (.int (Int32.ofNat len)), z9] [.int (Int32.ofNat len)])) := g9.trans (by
    refine XS.iload X9.here hexec rfl (hb hbytes d3) rfl ?_
    refine XS.iload X9.here hexec rfl (hb hbytes d5) rfl ?_
    refine XS.icmpYes X9.here hexec rfl (pc0 := 7) rfl (hb hbytes d7) rfl (ii_ge_t (nlt32 (by omega) (Nat.le_refl _))) (by decide) rfl ?_
    refine XS.iload X9.here hexec rfl (hb hbytes d44) rfl ?_
    exact Steps.refl _)
  exact ⟨T9, some (.int (Int32.ofNat len)), _, _, _, X9, by simp, rfl, rfl, (fun h => by cases h), ⟨rfl, B9, p9.from hh0, f9⟩, fun fs hl => c11.trans (X9.ireturnOut hexec hret rfl (Or.inl rfl) (hb hbytes d46) hl)⟩
end Cmp5
namespace Cmp3
def yN : MethodName := ⟨"java/lang/StringUTF16", "compress", "([CII)[B"⟩
abbrev yB : ByteArray := jdk_52_method_16_code
theorem d0 : decode yB 0 = .ok (.iload_n 2, 1) := by decide +kernel
theorem d1 : decode yB 1 = .ok (.newarray .byte, 2) := by decide +kernel
theorem d3 : decode yB 3 = .ok (.astore_n 3, 1) := by decide +kernel
theorem d4 : decode yB 4 = .ok (.aload_n 0, 1) := by decide +kernel
theorem d5 : decode yB 5 = .ok (.iload_n 1, 1) := by decide +kernel
theorem d6 : decode yB 6 = .ok (.aload_n 3, 1) := by decide +kernel
theorem d7 : decode yB 7 = .ok (.iconst 0, 1) := by decide +kernel
theorem d8 : decode yB 8 = .ok (.iload_n 2, 1) := by decide +kernel
theorem d9 : decode yB 9 = .ok (.invokestatic 115, 3) := by decide +kernel
theorem d12 : decode yB 12 = .ok (.istore 4, 2) := by decide +kernel
theorem d14 : decode yB 14 = .ok (.iload 4, 2) := by decide +kernel
theorem d16 : decode yB 16 = .ok (.iload_n 2, 1) := by decide +kernel
theorem d17 : decode yB 17 = .ok (.if_icmp (.eq) 40, 3) := by decide +kernel
theorem d57 : decode yB 57 = .ok (.aload_n 3, 1) := by decide +kernel
theorem d58 : decode yB 58 = .ok (.areturn, 1) := by decide +kernel
def site : List Cond := [.arrayClass .byte, Cmp5.tab] ++ staticW U16 115 Cmp5.yN
def tab : Cond := tabOf yN yB 6 (some (.array .byte)) site
def P (b : Addr) (A : Cell) (o len : Nat) (args : Array Value) (s : State) : Prop := args = #[.ref b, .int (Int32.ofNat o), .int (Int32.ofNat len)] ∧ Ch b A s ∧ o + len ≤ A.slots.size ∧ len ≤ 536870912 ∧ ∀ i, i < len → ¬ 255 < cv A (o + i)
def E (b : Addr) (A : Cell) (o len : Nat) (r : Option Value) (s u : State) : Prop := NewArr .byte "[B" len (fun j => .int (lo8 (cv A (o + j)))) r s u ∧ u.heap.size = s.heap.size + 1
/-- no char of the range above 255: a new byte[] of their low bytes -/
theorem law (l : Launch) (b : Addr) (A : Cell) (o len : Nat) : Law l yN 3 3 1 18 yB 6 (some (.array .byte)) site (P b A o len) (E b A o len) [] 1 len := by
  refine Law.of_walk (plainFor_of_name (by decide +kernel)) (by decide +kernel) (by decide +kernel) (by decide) (fun _ _ h => by rw [h.1]; rfl) (fun _ U U' hal hh h => ⟨h.1, h.2.1.mv hal hh, h.2.2⟩) (fun r U U' V V' h1 hal h2 h => ⟨NewArr.mv r U U' V V' h1 hal h2 h.1, by rw [h1, h2]; exact h.2⟩) ?_
  intro p e s m args below meth c s₁ X0 hexec hbytes hml hret hlk hnm hown hh0 W hP
  obtain ⟨rfl, hA, l1, l2, hp⟩ := hP
  have a31 := hA.1.2.2.2
  have c1 : Steps p.tables e below (s₁.setTop (entryFrame m #[.ref b, .int (Int32.ofNat o), .int (Int32.ofNat len)] 6)) (s₁.setTop (mkF m 0 #[.val (.ref b), .val (.int (Int32.ofNat o)), .val (.int (Int32.ofNat len)), .unset, .unset, .unset] [])) := entry rfl
  have c2 : Steps p.tables e below (s₁.setTop (entryFrame m #[.ref b, .int (Int32.ofNat o), .int (Int32.ofNat len)] 6)) (s₁.setTop (mkF m 1 #[.val (.ref b), .val (.int (Int32.ofNat o)), .val (.int (Int32.ofNat len)), .unset, .unset, .unset] [.int (Int32.ofNat len)])) := c1.trans (by
    refine XS.iloadN X0.here hexec rfl (hb hbytes d0) rfl ?_
    exact Steps.refl _)
  obtain ⟨T3, B3, X3, ba3, bs3, bv3, bh3, bf3, st3⟩ := X0.anew hexec (atype := .byte) (wk W (.arrayClass .byte)) rfl (by show len * 1 ≤ _; omega) (by omega) (g := (mkF m 1 #[.val (.ref b), .val (.int (Int32.ofNat o)), .val (.int (Int32.ofNat len)), .unset, .unset, .unset] [.int (Int32.ofNat len)])) rfl (hb hbytes d1) (rest := []) rfl (Nat.le_refl _) (by show 0 + len ≤ len; omega)
  rw [hh0] at ba3 st3
  have kp3 : XT.Kept s T3 := (XT.Kept.of_eq hh0).push bh3
  have hA3 := hA.keep X3.warmed.alike (kp3 _ _ hA.1.1)
  have hne : b ≠ s.heap.size := hA.1.ne
  have c4 : Steps p.tables e below (s₁.setTop (entryFrame m #[.ref b, .int (Int32.ofNat o), .int (Int32.ofNat len)] 6)) (T3.setTop (mkF m 3 #[.val (.ref b), .val (.int (Int32.ofNat o)), .val (.int (Int32.ofNat len)), .unset, .unset, .unset] [.ref s.heap.size])) := c2.trans (st3 _ (Steps.refl _))
  have c5 : Steps p.tables e below (s₁.setTop (entryFrame m #[.ref b, .int (Int32.ofNat o), .int (Int32.ofNat len)] 6)) (T3.setTop (mkF m 9 #[.val (.ref b), .val (.int (Int32.ofNat o)), .val (.int (Int32.ofNat len)), .val (.ref s.heap.size), .unset, .unset] [.int (Int32.ofNat len), .int 0, .ref s.heap.size, .int (Int32.ofNat o), .ref b])) := c4.trans (by
    refine XS.astoreN X3.here hexec rfl (hb hbytes d3) rfl rfl rfl ?_
    refine XS.aloadN X3.here hexec rfl (hb hbytes d4) rfl rfl ?_
    refine XS.iloadN X3.here hexec rfl (hb hbytes d5) rfl ?_
    refine XS.aloadN X3.here hexec rfl (hb hbytes d6) rfl rfl ?_
    refine iconstV X3.here hexec rfl 0 (hb hbytes d7) (by decide) ?_
    refine XS.iloadN X3.here hexec rfl (hb hbytes d8) rfl ?_
    exact Steps.refl _)
  obtain ⟨v6, T6, X6, E6, g6⟩ := X3.callS hexec (Cmp5.law l b A s.heap.size B3 o 0 len) hown (wks W (staticW U16 115 Cmp5.yN)) (wk W Cmp5.tab) (W := 0) (Nat.le_of_ble_eq_true rfl) (Nat.le_of_ble_eq_true rfl) (Nat.le_refl _) (by show 0 + len + 0 ≤ len; omega) (g := (mkF m 9 #[.val (.ref b), .val (.int (Int32.ofNat o)), .val (.int (Int32.ofNat len)), .val (.ref s.heap.size), .unset, .unset] [.int (Int32.ofNat len), .int (Int32.ofNat 0), .ref s.heap.size, .int (Int32.ofNat o), .ref b])) rfl (by rw [hml]; rfl) c5 (argsL := [.ref b, .int (Int32.ofNat o), .ref s.heap.size, .int (Int32.ofNat 0), .int (Int32.ofNat len)]) (rest := []) rfl rfl (by show 2 * 0 + 0 ≤ _; decide) (hb hbytes d9) (⟨rfl, hA3, ba3, hne, l1, by rw [bs3]; simp, hp⟩)
  obtain ⟨rfl, B6, p6, f6⟩ := E6
  have c7 : Steps p.tables e below (s₁.setTop (entryFrame m #[.ref b, .int (Int32.ofNat o), .int (Int32.ofNat len)] 6)) (T6.setTop (mkF m 12 #[.val (.ref b), .val (.int (Int32.ofNat o)), .val (.int (Int32.ofNat len)), .val (.ref s.heap.size), .unset, .unset] [.int (Int32.ofNat len)])) := g6
  have c8 : Steps p.tables e below (s₁.setTop (entryFrame m #[.ref b, .int (Int32.ofNat o), .int (Int32.ofNat len)] 6)) (T6.setTop (mkF m 58 #[.val (.ref b), .val (.int (Int32.ofNat o)), .val (.int (Int32.ofNat len)), .val (.ref s.heap.size), .val (.int (Int32.ofNat len)), .unset] [.ref s.heap.size])) := c7.trans (by
    refine XS.istore X6.here hexec rfl (hb hbytes d12) rfl rfl ?_
    refine XS.iload X6.here hexec rfl (hb hbytes d14) rfl ?_
    refine XS.iloadN X6.here hexec rfl (hb hbytes d16) rfl ?_
    refine XS.icmpYes X6.here hexec rfl (pc0 := 17) rfl (hb hbytes d17) rfl (ii_eq_t rfl) (by decide) rfl ?_
    refine XS.aloadN X6.here hexec rfl (hb hbytes d57) rfl rfl ?_
    exact Steps.refl _)
  have X8 := X6.wide (L' := []) (cells' := 1) (slots' := len) (fun x hx hlt => by
    simp only [List.nil_append, copyLocs, List.mem_map, List.mem_range] at hx
    obtain ⟨i, -, rfl⟩ := hx
    exact absurd hlt (Nat.lt_irrefl _)) (Nat.le_refl _) (by omega)
  exact ⟨T6, some (.ref s.heap.size), _, _, _, X8, rfl, rfl, rfl, (fun h => by cases h), ⟨⟨rfl, B6, ba3.like (X3.warmed.alike.symm.trans X6.warmed.alike) p6.1 f6.1 f6.2.1 f6.2.2.1, f6.2.1.trans bv3, by rw [X6.warmed.alike.findClass, f6.1]; exact bf3, by rw [f6.2.2.1, bs3]; simp, fun j hj => by rw [f6.2.2.2 j, if_pos (by omega)]; rfl, kp3.put p6 (Nat.le_refl _)⟩, by rw [p6.2.2, bh3, hh0]; simp⟩, fun fs hl => c8.trans (X8.areturnOut hexec rfl hret rfl (hb hbytes d58) hl)⟩
end Cmp3
namespace CodL
def yN : MethodName := ⟨"java/lang/StringUTF16", "coderFromArrayLen", "([BI)B"⟩
abbrev yB : ByteArray := jdk_52_method_15_code
theorem d0 : decode yB 0 = .ok (.iload_n 1, 1) := by decide +kernel
theorem d1 : decode yB 1 = .ok (.aload_n 0, 1) := by decide +kernel
theorem d2 : decode yB 2 = .ok (.arraylength, 1) := by decide +kernel
theorem d3 : decode yB 3 = .ok (.isub, 1) := by decide +kernel
theorem d4 : decode yB 4 = .ok (.bipush 31, 2) := by decide +kernel
theorem d6 : decode yB 6 = .ok (.iushr, 1) := by decide +kernel
theorem d7 : decode yB 7 = .ok (.i2b, 1) := by decide +kernel
theorem d8 : decode yB 8 = .ok (.ireturn, 1) := by decide +kernel
def site : List Cond := []
def tab : Cond := tabOf yN yB 2 (some .byte) site
def P (d : Addr) (B : Cell) (args : Array Value) (s : State) : Prop := args = #[.ref d, .int (Int32.ofNat B.slots.size)] ∧ Arr .byte d B s
def E (r : Option Value) (s u : State) : Prop := XT.PureE (some (.int 0)) r s u
/-- an array as long as the number of chars: LATIN1 -/
theorem law (l : Launch) (d : Addr) (B : Cell) : Law l yN 2 2 0 0 yB 2 (some .byte) site (P d B) E [] 0 0 := by
  refine Law.of_walk (plainFor_of_name (by decide +kernel)) (by decide +kernel) (by decide +kernel) (by decide) (fun _ _ h => by rw [h.1]; rfl) (fun _ U U' hal hh h => ⟨h.1, h.2.mv hal hh⟩) (fun r U U' V V' h1 hal h2 h => XT.PureE.mv r U U' V V' h1 hal h2 h) ?_
  intro p e s m args below meth c s₁ X0 hexec hbytes hml hret hlk hnm hown hh0 W hP
  obtain ⟨rfl, hB⟩ := hP
  have hB0 := hB.mv X0.warmed.alike hh0
  have c1 : Steps p.tables e below (s₁.setTop (entryFrame m #[.ref d, .int (Int32.ofNat B.slots.size)] 2)) (s₁.setTop (mkF m 0 #[.val (.ref d), .val (.int (Int32.ofNat B.slots.size))] [])) := entry rfl
  have c2 : Steps p.tables e below (s₁.setTop (entryFrame m #[.ref d, .int (Int32.ofNat B.slots.size)] 2)) (s₁.setTop (mkF m 2 #[.val (.ref d), .val (.int (Int32.ofNat B.slots.size))] [.ref d, .int (Int32.ofNat B.slots.size)])) := c1.trans (by
    refine XS.iloadN X0.here hexec rfl (hb hbytes d0) rfl ?_
    refine XS.aloadN X0.here hexec rfl (hb hbytes d1) rfl rfl ?_
    exact Steps.refl _)
  have c3 : Steps p.tables e below (s₁.setTop (entryFrame m #[.ref d, .int (Int32.ofNat B.slots.size)] 2)) (s₁.setTop (mkF m 8 #[.val (.ref d), .val (.int (Int32.ofNat B.slots.size))] [.int (lo8 (ushr (Int32.ofNat B.slots.size - Int32.ofNat B.slots.size) 31))])) := c2.trans (by
    refine X0.alen hexec hB0 rfl rfl (hb hbytes d2) ?_
    refine XS.isub X0.here hexec rfl (hb hbytes d3) rfl ?_
    refine bipushV X0.here hexec rfl 31 (hb hbytes d4) (by decide) ?_
    refine iushr X0.here hexec rfl (hb hbytes d6) rfl ?_
    refine i2b X0.here hexec rfl (hb hbytes d7) rfl ?_
    exact Steps.refl _)
  have e0 : lo8 (ushr (Int32.ofNat B.slots.size - Int32.ofNat B.slots.size) 31) = 0 := by rw [Int32.sub_self]; decide
  rw [e0] at c3
  exact ⟨s₁, some (.int 0), _, _, _, X0, rfl, rfl, rfl, (fun h => by cases h), ⟨rfl, hh0⟩, fun fs hl => c3.trans (X0.ireturnOut hexec hret rfl (Or.inr (Or.inr (Or.inl rfl))) (hb hbytes d8) hl)⟩
end CodL
/-- the String at a is Latin-1 over a new byte[] (the heap's one new cell): the low bytes of the len chars of A from o on; every cell but a is kept -/
def Got (a : Addr) (D : Cell) (fV fC : Field) (A : Cell) (o len : Nat) (r : Option Value) (s u : State) : Prop := r = none ∧ ∃ D' V : Cell, Blank "java/lang/String" a D' u ∧ Same D D' [fV.slot, fC.slot] ∧ D'.slots[fV.slot]? = some (.ref s.heap.size) ∧ D'.slots[fC.slot]? = some (.int 0) ∧ Arr .byte s.heap.size V u ∧ V.vm = .none ∧ u.vm.findClass "[B" = some V.cls ∧ V.slots.size = len ∧ (∀ j, j < len → V.slots[j]? = some (.int (lo8 (cv A (o + j))))) ∧ (∀ (y : Addr) (c : Cell), y ≠ a → s.heap[y]? = some c → u.heap[y]? = some c) ∧ u.heap.size = s.heap.size + 1
theorem Got.mv {a : Addr} {D A : Cell} {fV fC : Field} {o len : Nat} : ∀ r (U U' V V' : State), U'.heap = U.heap → V.vm.Alike V'.vm → V'.heap = V.heap → Got a D fV fC A o len r U V → Got a D fV fC A o len r U' V' :=
  fun r U U' V V' h1 hal h2 ⟨e0, D', X, a1, a2, a3, a4, a5, a6, a7, a8, a9, a10, a11⟩ => ⟨e0, D', X, a1.mv hal h2, a2, by rw [h1]; exact a3, a4, by rw [h1]; exact a5.mv hal h2, a6, by rw [hal.findClass]; exact a7, a8, a9, by rw [h1, h2]; exact a10, by rw [h1, h2]; exact a11⟩
namespace New4
def yN : MethodName := ⟨"java/lang/String", "<init>", "([CIILjava/lang/Void;)V"⟩
abbrev yB : ByteArray := jdk_42_method_149_code
theorem d0 : decode yB 0 = .ok (.aload_n 0, 1) := by decide +kernel
theorem d1 : decode yB 1 = .ok (.invokespecial 1, 3) := by decide +kernel
theorem d4 : decode yB 4 = .ok (.iload_n 3, 1) := by decide +kernel
theorem d5 : decode yB 5 = .ok (.ifCond (.ne) 22, 3) := by decide +kernel
theorem d27 : decode yB 27 = .ok (.getstatic 38, 3) := by decide +kernel
theorem d30 : decode yB 30 = .ok (.ifCond (.eq) 28, 3) := by decide +kernel
theorem d33 : decode yB 33 = .ok (.aload_n 1, 1) := by decide +kernel
theorem d34 : decode yB 34 = .ok (.iload_n 2, 1) := by decide +kernel
theorem d35 : decode yB 35 = .ok (.iload_n 3, 1) := by decide +kernel
theorem d36 : decode yB 36 = .ok (.invokestatic 177, 3) := by decide +kernel
theorem d39 : decode yB 39 = .ok (.astore 5, 2) := by decide +kernel
theorem d41 : decode yB 41 = .ok (.aload_n 0, 1) := by decide +kernel
theorem d42 : decode yB 42 = .ok (.aload 5, 2) := by decide +kernel
theorem d44 : decode yB 44 = .ok (.iload_n 3, 1) := by decide +kernel
theorem d45 : decode yB 45 = .ok (.invokestatic 47, 3) := by decide +kernel
theorem d48 : decode yB 48 = .ok (.putfield 15, 3) := by decide +kernel
theorem d51 : decode yB 51 = .ok (.aload_n 0, 1) := by decide +kernel
theorem d52 : decode yB 52 = .ok (.aload 5, 2) := by decide +kernel
theorem d54 : decode yB 54 = .ok (.putfield 9, 3) := by decide +kernel
theorem d57 : decode yB 57 = .ok (.return_, 1) := by decide +kernel
def site : List Cond := [.fieldLink "java/lang/String" 38 "java/lang/String" "COMPACT_STRINGS" "Z", Cmp3.tab, CodL.tab, .laysFinal "java/lang/String" "java/lang/String" "value" "[B", .fieldLink "java/lang/String" 9 "java/lang/String" "value" "[B", .laysFinal "java/lang/String" "java/lang/String" "coder" "B", .fieldLink "java/lang/String" 15 "java/lang/String" "coder" "B"] ++ objW "java/lang/String" 1 ++ staticW "java/lang/String" 177 Cmp3.yN ++ staticW "java/lang/String" 47 CodL.yN
def tab : Cond := tabOf yN yB 6 none site
def P (a : Addr) (D : Cell) (fV fC : Field) (b : Addr) (A : Cell) (z : Int32) (o len : Nat) (args : Array Value) (s : State) : Prop := args = #[.ref a, .ref b, .int (Int32.ofNat o), .int (Int32.ofNat len), .null] ∧ Blank "java/lang/String" a D s ∧ Found "java/lang/String" "value" "[B" fV s ∧ Found "java/lang/String" "coder" "B" fC s ∧ Ch b A s ∧ StaticIs s "java/lang/String" "COMPACT_STRINGS" "Z" (.int z) ∧ ¬ z = 0 ∧ 0 < len ∧ o + len ≤ A.slots.size ∧ len ≤ 536870912 ∧ ∀ i, i < len → ¬ 255 < cv A (o + i)
def E (a : Addr) (D : Cell) (fV fC : Field) (A : Cell) (o len : Nat) (r : Option Value) (s u : State) : Prop := Got a D fV fC A o len r s u
/-- len > 0, no char of the range above 255: a Latin-1 String of their low bytes -/
theorem law (l : Launch) (a : Addr) (D : Cell) (fV fC : Field) (b : Addr) (A : Cell) (z : Int32) (o len : Nat) : Law l yN 5 4 2 35 yB 6 none site (P a D fV fC b A z o len) (E a D fV fC A o len) [⟨a, fC.slot⟩, ⟨a, fV.slot⟩] 1 len := by
  refine Law.of_walk (plainFor_of_name (by decide +kernel)) (by decide +kernel) (by decide +kernel) (by decide) (fun _ _ h => by rw [h.1]; rfl) (fun _ U U' hal hh h => ⟨h.1, h.2.1.mv hal hh, h.2.2.1.al hal, h.2.2.2.1.al hal, h.2.2.2.2.1.mv hal hh, h.2.2.2.2.2.1.there hal hh, h.2.2.2.2.2.2⟩) (fun r U U' V V' h1 hal h2 h => Got.mv r U U' V V' h1 hal h2 h) ?_
  intro p e s m args below meth c s₁ X0 hexec hbytes hml hret hlk hnm hown hh0 W hP
  obtain ⟨rfl, hB, f1, f2, hA, s1, hz, l0, l1, l2, hp⟩ := hP
  have a31 := hA.1.2.2.2
  have c1 : Steps p.tables e below (s₁.setTop (entryFrame m #[.ref a, .ref b, .int (Int32.ofNat o), .int (Int32.ofNat len), .null] 6)) (s₁.setTop (mkF m 0 #[.val (.ref a), .val (.ref b), .val (.int (Int32.ofNat o)), .val (.int (Int32.ofNat len)), .val .null, .unset] [])) := entry rfl
  have c2 : Steps p.tables e below (s₁.setTop (entryFrame m #[.ref a, .ref b, .int (Int32.ofNat o), .int (Int32.ofNat len), .null] 6)) (s₁.setTop (mkF m 1 #[.val (.ref a), .val (.ref b), .val (.int (Int32.ofNat o)), .val (.int (Int32.ofNat len)), .val .null, .unset] [.ref a])) := c1.trans (by
    refine XS.aloadN X0.here hexec rfl (hb hbytes d0) rfl rfl ?_
    exact Steps.refl _)
  obtain ⟨T3, X3, q3, st3⟩ := X0.oinit hexec hown (wks W (objW "java/lang/String" 1)) (g := (mkF m 1 #[.val (.ref a), .val (.ref b), .val (.int (Int32.ofNat o)), .val (.int (Int32.ofNat len)), .val .null, .unset] [.ref a])) rfl (by rw [hml]; rfl) (rest := []) rfl (hb hbytes d1) (W := 0) (by show 2 * 0 + 0 ≤ _; decide) (Nat.le_of_ble_eq_true rfl) (Nat.le_of_ble_eq_true rfl)
  have hh3 := q3.trans hh0
  have c4 : Steps p.tables e below (s₁.setTop (entryFrame m #[.ref a, .ref b, .int (Int32.ofNat o), .int (Int32.ofNat len), .null] 6)) (T3.setTop (mkF m 27 #[.val (.ref a), .val (.ref b), .val (.int (Int32.ofNat o)), .val (.int (Int32.ofNat len)), .val .null, .unset] [])) := (c2.trans (st3 _ (Steps.refl _))).trans (by
    refine XS.iloadN X3.here hexec rfl (hb hbytes d4) rfl ?_
    refine XS.ifYes X3.here hexec rfl (pc0 := 5) rfl (hb hbytes d5) rfl (i0_ne_t (nz32 (by omega) l0)) (by decide) rfl ?_
    exact Steps.refl _)
  obtain ⟨T5, X5, q5, st5⟩ := X3.sget hexec hown (wk W (.fieldLink "java/lang/String" 38 "java/lang/String" "COMPACT_STRINGS" "Z")) s1 (fun _ _ h => by rw [hh3]; exact h) (g := (mkF m 27 #[.val (.ref a), .val (.ref b), .val (.int (Int32.ofNat o)), .val (.int (Int32.ofNat len)), .val .null, .unset] [])) rfl (hb hbytes d27)
  have hh5 := q5.trans hh3
  have c6 : Steps p.tables e below (s₁.setTop (entryFrame m #[.ref a, .ref b, .int (Int32.ofNat o), .int (Int32.ofNat len), .null] 6)) (T5.setTop (mkF m 30 #[.val (.ref a), .val (.ref b), .val (.int (Int32.ofNat o)), .val (.int (Int32.ofNat len)), .val .null, .unset] [.int z])) := c4.trans (st5 _ (Steps.refl _))
  have c7 : Steps p.tables e below (s₁.setTop (entryFrame m #[.ref a, .ref b, .int (Int32.ofNat o), .int (Int32.ofNat len), .null] 6)) (T5.setTop (mkF m 36 #[.val (.ref a), .val (.ref b), .val (.int (Int32.ofNat o)), .val (.int (Int32.ofNat len)), .val .null, .unset] [.int (Int32.ofNat len), .int (Int32.ofNat o), .ref b])) := c6.trans (by
    refine XS.ifNo X5.here hexec rfl (hb hbytes d30) rfl (i0_eq_f hz) ?_
    refine XS.aloadN X5.here hexec rfl (hb hbytes d33) rfl rfl ?_
    refine XS.iloadN X5.here hexec rfl (hb hbytes d34) rfl ?_
    refine XS.iloadN X5.here hexec rfl (hb hbytes d35) rfl ?_
    exact Steps.refl _)
  obtain ⟨v8, T8, X8, E8, g8⟩ := X5.callS hexec (Cmp3.law l b A o len) hown (wks W (staticW "java/lang/String" 177 Cmp3.yN)) (wk W Cmp3.tab) (W := 0) (Nat.le_of_ble_eq_true rfl) (Nat.le_of_ble_eq_true rfl) (Nat.le_refl _) (by show 0 + len ≤ len; omega) (g := (mkF m 36 #[.val (.ref a), .val (.ref b), .val (.int (Int32.ofNat o)), .val (.int (Int32.ofNat len)), .val .null, .unset] [.int (Int32.ofNat len), .int (Int32.ofNat o), .ref b])) rfl (by rw [hml]; rfl) c7 (argsL := [.ref b, .int (Int32.ofNat o), .int (Int32.ofNat len)]) (rest := []) rfl rfl (by show 2 * 0 + 0 ≤ _; decide) (hb hbytes d36) (⟨rfl, hA.mv X5.warmed.alike hh5, l1, l2, hp⟩)
  obtain ⟨e8, z8⟩ := E8
  obtain ⟨rfl, N, n1, n2, n3, n4, n5, n6⟩ := NewArr.mv _ T5 s _ _ hh5.symm (Vm.Alike.refl _) rfl e8
  rw [hh5] at z8
  have hB1 := hB.keep X8.warmed.alike (n6 _ _ hB.1)
  have hne : s.heap.size ≠ a := (Nat.ne_of_lt (Array.getElem?_eq_some_iff.mp hB.1).1).symm
  have c9 : Steps p.tables e below (s₁.setTop (entryFrame m #[.ref a, .ref b, .int (Int32.ofNat o), .int (Int32.ofNat len), .null] 6)) (T8.setTop (mkF m 39 #[.val (.ref a), .val (.ref b), .val (.int (Int32.ofNat o)), .val (.int (Int32.ofNat len)), .val .null, .unset] [.ref s.heap.size])) := g8
  have c10 : Steps p.tables e below (s₁.setTop (entryFrame m #[.ref a, .ref b, .int (Int32.ofNat o), .int (Int32.ofNat len), .null] 6)) (T8.setTop (mkF m 45 #[.val (.ref a), .val (.ref b), .val (.int (Int32.ofNat o)), .val (.int (Int32.ofNat len)), .val .null, .val (.ref s.heap.size)] [.int (Int32.ofNat N.slots.size), .ref s.heap.size, .ref a])) := by
    have hc : Steps p.tables e below (s₁.setTop (entryFrame m #[.ref a, .ref b, .int (Int32.ofNat o), .int (Int32.ofNat len), .null] 6)) (T8.setTop (mkF m 45 #[.val (.ref a), .val (.ref b), .val (.int (Int32.ofNat o)), .val (.int (Int32.ofNat len)), .val .null, .val (.ref s.heap.size)] [.int (Int32.ofNat len), .ref s.heap.size, .ref a])) := c9.trans (by
      refine XS.astore X8.here hexec rfl (hb hbytes d39) rfl rfl rfl ?_
      refine XS.aloadN X8.here hexec rfl (hb hbytes d41) rfl rfl ?_
      refine XS.aload X8.here hexec rfl (hb hbytes d42) rfl rfl ?_
      refine XS.iloadN X8.here hexec rfl (hb hbytes d44) rfl ?_
      exact Steps.refl _)
    rw [n4]; exact hc
  obtain ⟨v11, T11, X11, E11, g11⟩ := X8.callS hexec (CodL.law l s.heap.size N) hown (wks W (staticW "java/lang/String" 47 CodL.yN)) (wk W CodL.tab) (W := 1) (Nat.le_of_ble_eq_true rfl) (Nat.le_of_ble_eq_true rfl) (Nat.le_refl _) (by show 0 + len + 0 ≤ len; omega) (g := (mkF m 45 #[.val (.ref a), .val (.ref b), .val (.int (Int32.ofNat o)), .val (.int (Int32.ofNat len)), .val .null, .val (.ref s.heap.size)] [.int (Int32.ofNat N.slots.size), .ref s.heap.size, .ref a])) rfl (by rw [hml]; rfl) c10 (argsL := [.ref s.heap.size, .int (Int32.ofNat N.slots.size)]) (rest := [.ref a]) rfl rfl (by show 2 * 0 + (1 + 0) ≤ _; decide) (hb hbytes d45) (⟨rfl, n1⟩)
  obtain ⟨rfl, q11⟩ := E11
  have hB11 := hB1.mv (X8.warmed.alike.symm.trans X11.warmed.alike) q11
  have c12 : Steps p.tables e below (s₁.setTop (entryFrame m #[.ref a, .ref b, .int (Int32.ofNat o), .int (Int32.ofNat len), .null] 6)) (T11.setTop (mkF m 48 #[.val (.ref a), .val (.ref b), .val (.int (Int32.ofNat o)), .val (.int (Int32.ofNat len)), .val .null, .val (.ref s.heap.size)] [.int 0, .ref a])) := g11
  obtain ⟨T13, X13, p13, bl13, sl13, st13⟩ := X11.finit hexec hown (wk W (.fieldLink "java/lang/String" 15 "java/lang/String" "coder" "B")) (Or.inr ⟨_, (wk W (.laysFinal "java/lang/String" "java/lang/String" "coder" "B"))⟩) (Or.inl ⟨rfl, hnm⟩) f2 (Or.inl rfl) hB11 (t := .byte) (by decide +kernel) rfl (g := (mkF m 48 #[.val (.ref a), .val (.ref b), .val (.int (Int32.ofNat o)), .val (.int (Int32.ofNat len)), .val .null, .val (.ref s.heap.size)] [.int 0, .ref a])) rfl (rest := []) rfl (hb hbytes d48)
  have c14 : Steps p.tables e below (s₁.setTop (entryFrame m #[.ref a, .ref b, .int (Int32.ofNat o), .int (Int32.ofNat len), .null] 6)) (T13.setTop (mkF m 54 #[.val (.ref a), .val (.ref b), .val (.int (Int32.ofNat o)), .val (.int (Int32.ofNat len)), .val .null, .val (.ref s.heap.size)] [.ref s.heap.size, .ref a])) := (c12.trans (st13 _ (Steps.refl _))).trans (by
    refine XS.aloadN X13.here hexec rfl (hb hbytes d51) rfl rfl ?_
    refine XS.aload X13.here hexec rfl (hb hbytes d52) rfl rfl ?_
    exact Steps.refl _)
  obtain ⟨T15, X15, p15, bl15, sl15, st15⟩ := X13.finit hexec hown (wk W (.fieldLink "java/lang/String" 9 "java/lang/String" "value" "[B")) (Or.inr ⟨_, (wk W (.laysFinal "java/lang/String" "java/lang/String" "value" "[B"))⟩) (Or.inl ⟨rfl, hnm⟩) f1 (Or.inl rfl) bl13 (t := (.array .byte)) (by decide +kernel) rfl (g := (mkF m 54 #[.val (.ref a), .val (.ref b), .val (.int (Int32.ofNat o)), .val (.int (Int32.ofNat len)), .val .null, .val (.ref s.heap.size)] [.ref s.heap.size, .ref a])) rfl (rest := []) rfl (hb hbytes d54)
  have c16 : Steps p.tables e below (s₁.setTop (entryFrame m #[.ref a, .ref b, .int (Int32.ofNat o), .int (Int32.ofNat len), .null] 6)) (T15.setTop (mkF m 57 #[.val (.ref a), .val (.ref b), .val (.int (Int32.ofNat o)), .val (.int (Int32.ofNat len)), .val .null, .val (.ref s.heap.size)] [])) := c14.trans (st15 _ (Steps.refl _))
  have ap := apart (Or.inr ⟨_, (wk W (.laysFinal "java/lang/String" "java/lang/String" "value" "[B"))⟩) (Or.inr ⟨_, (wk W (.laysFinal "java/lang/String" "java/lang/String" "coder" "B"))⟩) f1 f2 (t₁ := .array .byte) (t₂ := .byte) (by decide +kernel) (by decide +kernel) (by decide)
  have al := X8.warmed.alike.symm.trans X15.warmed.alike
  have n7 : T11.heap[s.heap.size]? = some N := by rw [q11]; exact n1.1
  exact ⟨T15, none, _, _, _, X15, by simp, rfl, by omega, (fun _ => rfl), ⟨rfl, _, N, bl15, ((Same.refl D _).set _ (by simp)).set _ (by simp), sl15, (Cell.slots_setSlot_ne _ ap).trans sl13, n1.keep al (p15.other hne (p13.other hne n7)), n2, by rw [al.findClass]; exact n3, n4, n5, fun y c h1 h2 => p15.other h1 (p13.other h1 (by rw [q11]; exact n6 y c h2)), by rw [p15.2.2, p13.2.2, q11]; exact z8⟩, fun fs hl => c16.trans (X15.returnOut hexec hret (hb hbytes d57) hl)⟩
end New4
namespace New1
def yN : MethodName := ⟨"java/lang/String", "<init>", "([C)V"⟩
abbrev yB : ByteArray := jdk_42_method_3_code
theorem d0 : decode yB 0 = .ok (.aload_n 0, 1) := by decide +kernel
theorem d1 : decode yB 1 = .ok (.aload_n 1, 1) := by decide +kernel
theorem d2 : decode yB 2 = .ok (.iconst 0, 1) := by decide +kernel
theorem d3 : decode yB 3 = .ok (.aload_n 1, 1) := by decide +kernel
theorem d4 : decode yB 4 = .ok (.arraylength, 1) := by decide +kernel
theorem d5 : decode yB 5 = .ok (.aconst_null, 1) := by decide +kernel
theorem d6 : decode yB 6 = .ok (.invokespecial 27, 3) := by decide +kernel
theorem d9 : decode yB 9 = .ok (.return_, 1) := by decide +kernel
def site : List Cond := [New4.tab] ++ initW "java/lang/String" 27 New4.yN
def tab : Cond := tabOf yN yB 2 none site
def P (a : Addr) (D : Cell) (fV fC : Field) (b : Addr) (A : Cell) (z : Int32) (args : Array Value) (s : State) : Prop := args = #[.ref a, .ref b] ∧ Blank "java/lang/String" a D s ∧ Found "java/lang/String" "value" "[B" fV s ∧ Found "java/lang/String" "coder" "B" fC s ∧ Ch b A s ∧ StaticIs s "java/lang/String" "COMPACT_STRINGS" "Z" (.int z) ∧ ¬ z = 0 ∧ 0 < A.slots.size ∧ A.slots.size ≤ 536870912 ∧ ∀ i, i < A.slots.size → ¬ 255 < cv A i
def E (a : Addr) (D : Cell) (fV fC : Field) (A : Cell) (r : Option Value) (s u : State) : Prop := Got a D fV fC A 0 A.slots.size r s u
/-- new String(chars), not empty, no char above 255: a Latin-1 String of their low bytes -/
theorem law (l : Launch) (a : Addr) (D : Cell) (fV fC : Field) (b : Addr) (A : Cell) (z : Int32) : Law l yN 2 1 3 52 yB 2 none site (P a D fV fC b A z) (E a D fV fC A) [⟨a, fC.slot⟩, ⟨a, fV.slot⟩] 1 A.slots.size := by
  refine Law.of_walk (plainFor_of_name (by decide +kernel)) (by decide +kernel) (by decide +kernel) (by decide) (fun _ _ h => by rw [h.1]; rfl) (fun _ U U' hal hh h => ⟨h.1, h.2.1.mv hal hh, h.2.2.1.al hal, h.2.2.2.1.al hal, h.2.2.2.2.1.mv hal hh, h.2.2.2.2.2.1.there hal hh, h.2.2.2.2.2.2⟩) (fun r U U' V V' h1 hal h2 h => Got.mv r U U' V V' h1 hal h2 h) ?_
  intro p e s m args below meth c s₁ X0 hexec hbytes hml hret hlk hnm hown hh0 W hP
  obtain ⟨rfl, hB, f1, f2, hA, s1, hz, l0, l2, hp⟩ := hP
  have c1 : Steps p.tables e below (s₁.setTop (entryFrame m #[.ref a, .ref b] 2)) (s₁.setTop (mkF m 0 #[.val (.ref a), .val (.ref b)] [])) := entry rfl
  have c2 : Steps p.tables e below (s₁.setTop (entryFrame m #[.ref a, .ref b] 2)) (s₁.setTop (mkF m 6 #[.val (.ref a), .val (.ref b)] [.null, .int (Int32.ofNat A.slots.size), .int 0, .ref b, .ref a])) := c1.trans (by
    refine XS.aloadN X0.here hexec rfl (hb hbytes d0) rfl rfl ?_
    refine XS.aloadN X0.here hexec rfl (hb hbytes d1) rfl rfl ?_
    refine iconstV X0.here hexec rfl 0 (hb hbytes d2) (by decide) ?_
    refine XS.aloadN X0.here hexec rfl (hb hbytes d3) rfl rfl ?_
    refine X0.alen hexec (hA.1.mv X0.warmed.alike hh0) rfl rfl (hb hbytes d4) ?_
    refine XS.aconstNull X0.here hexec rfl (hb hbytes d5) ?_
    exact Steps.refl _)
  obtain ⟨v3, T3, X3, E3, g3⟩ := X0.callN hexec (New4.law l a D fV fC b A z 0 A.slots.size) rfl hown (wks W (initW "java/lang/String" 27 New4.yN)) (W New4.tab (by simp only [site, List.mem_cons, List.mem_append, true_or, or_true])) (W := 0) (Nat.le_of_ble_eq_true rfl) (Nat.le_of_ble_eq_true rfl) (Nat.le_refl _) (by show 0 + A.slots.size ≤ A.slots.size; omega) (g := (mkF m 6 #[.val (.ref a), .val (.ref b)] [.null, .int (Int32.ofNat A.slots.size), .int (Int32.ofNat 0), .ref b, .ref a])) rfl (by rw [hml]; rfl) c2 (argsL := [.ref b, .int (Int32.ofNat 0), .int (Int32.ofNat A.slots.size), .null]) (rest := []) rfl rfl (by show 2 * 0 + 0 ≤ _; decide) (hb hbytes d6) (⟨rfl, hB.mv X0.warmed.alike hh0, f1.al X0.warmed.alike, f2.al X0.warmed.alike, hA.mv X0.warmed.alike hh0, s1.there X0.warmed.alike hh0, hz, l0, by omega, l2, fun i hi => by rw [Nat.zero_add]; exact hp i hi⟩)
  have e0 := Got.mv _ s₁ s _ _ hh0.symm (Vm.Alike.refl _) rfl E3
  obtain rfl := e0.1
  have c4 : Steps p.tables e below (s₁.setTop (entryFrame m #[.ref a, .ref b] 2)) (T3.setTop (mkF m 9 #[.val (.ref a), .val (.ref b)] [])) := g3
  exact ⟨T3, none, _, _, _, X3, by simp, rfl, by omega, (fun _ => rfl), e0, fun fs hl => c4.trans (X3.returnOut hexec hret (hb hbytes d9) hl)⟩
theorem pays {l : Launch} {R : Room} {p : Program} {e : Env} {below : List Frame} {s : State} {sargs : Array Value} {len W : Nat} (a : Addr) (D : Cell) (fV fC : Field) (b : Addr) (A : Cell) (z : Int32) (htab : tab.before sargs s = true) (hfr : 4 ≤ R.frames) (hlo : W + 65 ≤ R.locals) :
    Back l R p e below s sargs yN len W (fun A₁ a₁ => A₁.cells + 1 ≤ R.cells ∧ A₁.slots + A.slots.size ≤ R.slots ∧ P a D fV fC b A z a₁ A₁.U) (fun A₁ _ v₁ B₁ => E a D fV fC A v₁ A₁.U B₁.U ∧ B₁.locs = A₁.locs ++ [⟨a, fC.slot⟩, ⟨a, fV.slot⟩] ∧ B₁.cells = A₁.cells + 1 ∧ B₁.slots = A₁.slots + A.slots.size) :=
  (law l a D fV fC b A z).pays htab hfr (by omega)
end New1
/-- the byte, read back as charAt reads it, is the char -/
theorem lo8_mask {x : Int32} (h0 : ¬ x < 0) (h1 : ¬ 255 < x) : lo8 x &&& 255 = x := by
  have t : ∀ k : Fin 256, lo8 (Int32.ofNat k.val) &&& 255 = Int32.ofNat k.val := by decide +kernel
  rw [Int32.lt_iff_toInt_lt] at h0 h1
  have e0 : (0 : Int32).toInt = 0 := rfl
  have e1 : (255 : Int32).toInt = 255 := rfl
  obtain ⟨k, hk⟩ : ∃ k : Nat, x.toInt = k := ⟨x.toInt.toNat, by omega⟩
  have hx : x = Int32.ofNat k := Int32.toInt_inj.mp (by rw [hk, Int32.toInt_ofNat_small (by omega)])
  rw [hx]
  exact t ⟨k, by omega⟩
end StrChars
namespace StrChars.Road
open Jvm Sem ClassFile Op Lib Jvm.Stand Jvm.Free Jvm.Free.XT
open Jvm.Lib.Cold (StaticIs)
abbrev ST : String := "java/lang/String"
/-- every table word that New1's law asks, flat -/
abbrev words : List Jvm.Cond := [.code New1.yN New1.yB 2 none, .initialized ST, .methodLink ST 27 New4.yN, .instanceMethod New4.yN,
  .code New4.yN New4.yB 6 none, .fieldLink ST 38 ST "COMPACT_STRINGS" "Z", .laysFinal ST ST "value" "[B", .fieldLink ST 9 ST "value" "[B", .laysFinal ST ST "coder" "B", .fieldLink ST 15 ST "coder" "B",
  .methodLink ST 1 Lib.objectInit, .instanceMethod Lib.objectInit, .code Lib.objectInit ⟨#[0xb1]⟩ 1 none, .methodLink ST 177 Cmp3.yN, .static Cmp3.yN, .methodLink ST 47 CodL.yN, .static CodL.yN,
  .code Cmp3.yN Cmp3.yB 6 (some (.array .byte)), .initialized U16, .arrayClass .byte, .methodLink U16 115 Cmp5.yN, .static Cmp5.yN, .code Cmp5.yN Cmp5.yB 7 (some .int), .code CodL.yN CodL.yB 2 (some .byte)]
theorem tab_of {a : Array Value} {s : State} (h : ∀ w ∈ words, w.before a s = true) : New1.tab.before a s = true := by
  have h5 : Cmp5.tab.before a s = true := unparts (wk h (.code Cmp5.yN Cmp5.yB 7 (some .int))) (wks h (.initialized Cmp5.yN.cls :: Cmp5.site))
  have hc : CodL.tab.before a s = true := unparts (wk h (.code CodL.yN CodL.yB 2 (some .byte))) (wks h (.initialized CodL.yN.cls :: CodL.site))
  have q5 : ∀ w ∈ Cmp5.tab :: words, w.before a s = true := fun w hw => (List.mem_cons.mp hw).elim (fun e => e ▸ h5) (h w)
  have h3 : Cmp3.tab.before a s = true := unparts (wk q5 (.code Cmp3.yN Cmp3.yB 6 (some (.array .byte)))) (wks q5 (.initialized Cmp3.yN.cls :: Cmp3.site))
  have q3 : ∀ w ∈ Cmp3.tab :: CodL.tab :: words, w.before a s = true := fun w hw => (List.mem_cons.mp hw).elim (fun e => e ▸ h3) fun hw => (List.mem_cons.mp hw).elim (fun e => e ▸ hc) (h w)
  have h4 : New4.tab.before a s = true := unparts (wk q3 (.code New4.yN New4.yB 6 none)) (wks q3 (.initialized New4.yN.cls :: New4.site))
  have q4 : ∀ w ∈ New4.tab :: words, w.before a s = true := fun w hw => (List.mem_cons.mp hw).elim (fun e => e ▸ h4) (h w)
  exact unparts (wk q4 (.code New1.yN New1.yB 2 none)) (wks q4 (.initialized New1.yN.cls :: New1.site))
/-- the words ride from the start Z to the walk's own state -/
theorem moved {Z s : State} {a0 args : Array Value} (hZ : Z.Warmed39 s.vm) (hw : ∀ d ∈ words, d.before a0 Z = true) : ∀ d ∈ words, d.before args s = true := fun d hd => by
  have q := hw d hd
  have t : ∀ d ∈ words, d = .arrayClass .byte ∨ (d.onTables && d.keepsFace) = true := by decide +kernel
  rcases t d hd with rfl | t
  · exact RoadKit.mvA hZ q
  · exact RoadKit.mv hZ q t
/-- WHAT COMES BACK, over the tables of the start Z: h the heap at the call, h' behind it -/
def Q (Z : State) (x : Addr) (A : Cell) (h : Heap) (v : Option Value) (h' : Heap) (L : List Loc) : Prop := v = none ∧ (∀ y ∈ L, y.base = x) ∧ RoadKit.Keep h h' [x] ∧ h'.size = h.size + 1 ∧ RoadKit.Exa Z h' x ST ∧ RoadKit.Fld Z h' x ST "value" "[B" (.ref h.size) ∧ RoadKit.Fld Z h' x ST "coder" "B" (.int 0) ∧
  (∃ V : Cell, RoadKit.Arr Z h' h.size V .byte ∧ V.vm = .none ∧ Z.vm.findClass "[B" = some V.cls ∧ V.slots.size = A.slots.size ∧ ∀ j, j < A.slots.size → V.slots[j]? = some (.int (lo8 (cv A j)))) ∧
  ∀ (O n d : String) (w : Value), RoadKit.Fld Z h x O n d w → RoadKit.slotOf Z O n d ≠ RoadKit.slotOf Z ST "value" "[B" → RoadKit.slotOf Z O n d ≠ RoadKit.slotOf Z ST "coder" "B" → RoadKit.Fld Z h' x O n d w
/-- **new String(chars) AT A CALL, IN THE ROAD'S FORM**: for specialBack behind newO: x the fresh String, b the char[] with the cell A -/
theorem back {p : Program} {l : Launch} {e : Env} {R : Room} {s : State} {args : Array Value} {below : List Frame} {len W : Nat} {Z : State} {a0 : Array Value} {h : Heap} (hZ : Z.Warmed39 s.vm) (hw : ∀ d ∈ words, d.before a0 Z = true) {kI : Nat} (wi : (Jvm.Cond.instantiable ST kI).before a0 Z = true)
    {x b : Addr} {A : Cell} {z : Int32} {v0 c0 : Value} (E : RoadKit.Exa Z h x ST) (V : RoadKit.Fld Z h x ST "value" "[B" v0) (C : RoadKit.Fld Z h x ST "coder" "B" c0) (K : RoadKit.Arr Z h b A .char) (hty : Typed .char A) (S : RoadKit.Sta Z h ST "COMPACT_STRINGS" "Z" (.int z)) (hz : ¬ z = 0)
    (l0 : 0 < A.slots.size) (l2 : A.slots.size ≤ 536870912) (hp : ∀ i, i < A.slots.size → ¬ 255 < cv A i) (hfr : 4 ≤ R.frames) (hlo : W + 65 ≤ R.locals) :
    Back l R p e below s args New1.yN len W (fun P a => a = #[.ref x, .ref b] ∧ P.U.heap = h ∧ P.cells + 1 ≤ R.cells ∧ P.slots + A.slots.size ≤ R.slots)
      (fun P _ v B => ∃ L, Q Z x A h v B.U.heap L ∧ B.locs = P.locs ++ L ∧ B.cells = P.cells + 1 ∧ B.slots = P.slots + A.slots.size) := by
  intro m meth c P g ig mk a X hg hsize hdg hW hn hp'
  obtain ⟨rfl, rfl, r1, r2⟩ := hp'
  have al : Z.vm.Alike P.U.vm := hZ.alike.trans X.warmed.alike
  obtain ⟨D, cfV, kV, iV, fV, hD, gV, stV, knV, obV, asV, slV⟩ := id V
  obtain ⟨D', cfC, kC, iC, fC, hD', gC, stC, -, -, asC, slC⟩ := id C
  cases hD.symm.trans hD'
  obtain ⟨D2, kD, e1, e2, e3, e4, e5⟩ := id E
  cases hD.symm.trans e1
  obtain ⟨c2, k2, i1, i2, i3, -⟩ := Cond.instantiable_spec wi
  cases e2.symm.trans i1
  cases e3.symm.trans i2
  obtain ⟨kU, u1, u2⟩ := al.2.2 _ _ e3
  have hB : Blank ST x D P.U := ⟨hD, ⟨knV, fun q hq => by rw [hq] at obV; cases obV⟩, by rw [al.findClass]; exact e2, kU, u1, by rw [u2]; exact i3, by rw [u2]; exact e5 i3⟩
  have F1 : Found ST "value" "[B" fV P.U := ⟨SBG.found_only al ⟨cfV, kV, iV, gV⟩, stV⟩
  have F2 : Found ST "coder" "B" fC P.U := ⟨SBG.found_only al ⟨cfC, kC, iC, gC⟩, stC⟩
  have hA : Ch b A P.U := ⟨⟨K.1, State.isArrayOf_alike al K.2.1, K.2.2, by omega⟩, hty⟩
  have hS : StaticIs P.U ST "COMPACT_STRINGS" "Z" (.int z) := by
    obtain ⟨cfS, iS, kS, fS, st, cS, t1, t2, t3, t4, t5, t6, t7⟩ := S
    exact StaticIs.there (s := { Z with heap := P.U.heap }) ⟨cfS, iS, kS, fS, st, cS, t1, t2, t3, t4, t5, (fun q => by rw [q] at t6; cases t6), t7⟩ al rfl
  obtain ⟨v, B, X', ⟨⟨hv, E', V', q1, q2, q3, q4, q5, q6, q7, q8, q9, q10, q11⟩, hl, hc, hs⟩, st⟩ := New1.pays x D fV fC b A z (tab_of (moved hZ hw)) hfr hlo m meth c P g ig mk _ X hg hsize hdg hW hn ⟨r1, r2, rfl, hB, F1, F2, hA, hS, hz, l0, l2, hp⟩
  have al' : Z.vm.Alike B.U.vm := hZ.alike.trans X'.warmed.alike
  have hsz : E'.slots.size = D.slots.size := by
    obtain ⟨-, -, -, kB, w1, w2, w3⟩ := q1
    obtain ⟨kB', y1, y2⟩ := al'.2.2 _ _ e3
    rw [q2.2.1] at w1
    cases w1.symm.trans y1
    rw [w3, e5 i3, y2]
  refine ⟨v, B, X', ⟨_, ⟨hv, ?_, ⟨by omega, fun y cy hy hn' => q10 y cy (by simpa using hn') hy, fun y cy hy => ?_⟩, q11, ⟨E', _, q1.1, by rw [q2.2.1]; exact e2, by rw [q2.2.1]; exact e3, by rw [q2.1]; exact obV, fun _ => by rw [hsz]; exact e5 i3⟩,
    ⟨E', cfV, kV, iV, fV, q1.1, gV, stV, by rw [q2.1]; exact knV, by rw [q2.1]; exact obV, by rw [q2.2.1]; exact asV, q3⟩, ⟨E', cfC, kC, iC, fC, q1.1, gC, stC, by rw [q2.1]; exact knV, by rw [q2.1]; exact obV, by rw [q2.2.1]; exact asC, q4⟩,
    ⟨V', ⟨q5.1, State.isArrayOf_alike al'.symm q5.2.1, q5.2.2.1⟩, q6, by rw [← al'.findClass]; exact q7, q8, fun j hj => by have := q9 j hj; rwa [Nat.zero_add] at this⟩, fun O n d w F n1 n2 => ?_⟩, hl, hc, hs⟩, st⟩
  · intro y hy
    simp only [List.mem_cons, List.not_mem_nil, or_false] at hy
    rcases hy with rfl | rfl <;> rfl
  · by_cases q : y = x
    · subst q
      cases hD.symm.trans hy
      exact ⟨E', q1.1, q2.2.1, q2.1, hsz⟩
    · exact ⟨cy, q10 y cy q hy, rfl, rfl, rfl⟩
  · obtain ⟨D3, cf, k, i, f, g1, g2, g3, g4, g5, g6, g7⟩ := F
    cases hD.symm.trans g1
    simp only [RoadKit.slotOf, g2, gV, gC, Option.map_some, Option.getD_some] at n1 n2
    exact ⟨E', cf, k, i, f, q1.1, g2, g3, by rw [q2.1]; exact g4, by rw [q2.1]; exact g5, by rw [q2.2.1]; exact g6, by rw [q2.2.2 f.slot (by simp [n1, n2])]; exact g7⟩
end StrChars.Road
namespace StrChars.Road
open Jvm Sem ClassFile Op Lib Jvm.Stand Jvm.Free Jvm.Free.XT
/-- WHAT COMES BACK, the byte[] as a list of values -/
def QA (Z : State) (x : Addr) (zn : Int32) (cs : List Int32) (h : Heap) (v : Option Value) (h' : Heap) (L : List Loc) : Prop := v = none ∧ (∀ y ∈ L, y.base = x) ∧ RoadKit.Keep h h' [x] ∧ h'.size = h.size + 1 ∧ RoadKit.Exa Z h' x ST ∧ RoadKit.Fld Z h' x ST "value" "[B" (.ref h.size) ∧ RoadKit.Fld Z h' x ST "coder" "B" (.int 0) ∧
  (∃ kb, Z.vm.findClass "[B" = some kb ∧ RoadKit.Arv Z h' h.size kb .byte zn (cs.map fun c => .int (lo8 c)) (.int 0)) ∧
  ∀ (O n d : String) (w : Value), RoadKit.Fld Z h x O n d w → RoadKit.slotOf Z O n d ≠ RoadKit.slotOf Z ST "value" "[B" → RoadKit.slotOf Z O n d ≠ RoadKit.slotOf Z ST "coder" "B" → RoadKit.Fld Z h' x O n d w
/-- **new String(chars) AT A CALL, THE ARRAYS AS LISTS**: the char[] at b holds cs, not empty, no char above 255 -/
theorem backArv {p : Program} {l : Launch} {e : Env} {R : Room} {s : State} {args : Array Value} {below : List Frame} {len W : Nat} {Z : State} {a0 : Array Value} {h : Heap} (hZ : Z.Warmed39 s.vm) (hw : ∀ d ∈ words, d.before a0 Z = true) {kI : Nat} (wi : (Jvm.Cond.instantiable ST kI).before a0 Z = true)
    {x b : Addr} {k : ClassId} {zn z : Int32} {cs : List Int32} {dv v0 c0 : Value} (E : RoadKit.Exa Z h x ST) (V : RoadKit.Fld Z h x ST "value" "[B" v0) (C : RoadKit.Fld Z h x ST "coder" "B" c0) (K : RoadKit.Arv Z h b k .char zn (cs.map Value.int) dv) (S : RoadKit.Sta Z h ST "COMPACT_STRINGS" "Z" (.int z)) (hz : ¬ z = 0)
    (hlen : zn.toNatClampNeg = cs.length) (h0 : 0 < cs.length) (hbig : cs.length ≤ 536870912) (hall : ∀ c ∈ cs, ¬ 255 < c) (hfr : 4 ≤ R.frames) (hlo : W + 65 ≤ R.locals) :
    Back l R p e below s args New1.yN len W (fun P a => a = #[.ref x, .ref b] ∧ P.U.heap = h ∧ P.cells + 1 ≤ R.cells ∧ P.slots + cs.length ≤ R.slots)
      (fun P _ v B => ∃ L, QA Z x zn cs h v B.U.heap L ∧ B.locs = P.locs ++ L ∧ B.cells = P.cells + 1 ∧ B.slots = P.slots + cs.length) := by
  obtain ⟨A, K1, K2, K3, K4, K5, K6⟩ := K
  have e : A.slots.size = cs.length := K3.trans hlen
  have hat : ∀ (i : Nat) (hi : i < cs.length), A.slots[i]? = some (.int cs[i]) := fun i hi => by rw [K5 i (by omega)]; simp [List.getD_eq_getElem?_getD, hi]
  have hcv : ∀ (i : Nat) (hi : i < cs.length), cv A i = cs[i] := fun i hi => by unfold cv; rw [hat i hi]
  have hty : Typed .char A := fun i v hv => by
    have hi : i < A.slots.size := (Array.getElem?_eq_some_iff.mp hv).1
    have q := K5 i hi
    rw [hv] at q
    rw [Option.some.inj q]
    exact K6 i hi
  refine Back.mono (back hZ hw wi E V C K1 hty S hz (by omega) (by omega) (fun i hi => by rw [hcv i (by omega)]; exact hall _ (List.getElem_mem _)) hfr hlo) (fun P a hp => ⟨hp.1, hp.2.1, hp.2.2.1, by rw [e]; exact hp.2.2.2⟩) (fun P a v B hp hq => ?_)
  obtain ⟨L, ⟨q1, q2, q3, q4, q5, q6, q7, ⟨V', v1, v2, v3, v4, v5⟩, q9⟩, hl, hc, hs⟩ := hq
  refine ⟨L, ⟨q1, q2, q3, q4, q5, q6, q7, ⟨V'.cls, v3, V', v1, rfl, by rw [v4, e, hlen], K4, fun i hi => ?_, fun i hi => ?_⟩, q9⟩, hl, hc, by rw [hs, e]⟩
  · have hi' : i < cs.length := by omega
    rw [v5 i (by omega), hcv i hi']; simp [List.getD_eq_getElem?_getD, hi']
  · have hi' : i < cs.length := by omega
    simp only [List.getD_eq_getElem?_getD, List.getElem?_map, List.getElem?_eq_getElem hi', Option.map_some, Option.getD_some]
    exact fits_lo8 _
end StrChars.Road
namespace StrChars.Road
open Jvm Sem ClassFile Op Lib Jvm.Stand Jvm.Free Jvm.Free.XT
/-- WHAT COMES BACK, in the writer's own shape -/
def QV (Z : State) (x : Addr) (N : Int32) (bs : List Int32) (h : Heap) (n0 : Nat) (v : Option Value) (h' : Heap) (L : List Loc) : Prop := v = none ∧ RoadKit.Fr n0 L ∧ RoadKit.Keep h h' [x] ∧ RoadKit.Exa Z h' x ST ∧ RoadKit.Fld Z h' x ST "coder" "B" (.int 0) ∧
  ∃ (t : Addr) (kb : ClassId), n0 ≤ t ∧ h.size ≤ t ∧ ¬ t = x ∧ RoadKit.Fld Z h' x ST "value" "[B" (.ref t) ∧ RoadKit.Arv Z h' t kb .byte N (bs.map Value.int) (.int 0)
/-- **new String(chars) AT A CALL, FOR THE WRITER**: a char[] of n known ints, each 0 to 255 -/
theorem backV {p : Program} {l : Launch} {e : Env} {R : Room} {s : State} {args : Array Value} {below : List Frame} {len W : Nat} {Z : State} {a0 : Array Value} {h : Heap} (hZ : Z.Warmed39 s.vm) (hw : ∀ d ∈ words, d.before a0 Z = true) {kI : Nat} (wi : (Jvm.Cond.instantiable ST kI).before a0 Z = true)
    {x b : Addr} {kC : ClassId} {cs bs : List Int32} {d v0 c0 : Value} {z N : Int32} {n n0 : Nat} (hx0 : n0 ≤ x) (hh0 : n0 ≤ h.size) (E : RoadKit.Exa Z h x ST) (V : RoadKit.Fld Z h x ST "value" "[B" v0) (C : RoadKit.Fld Z h x ST "coder" "B" c0) (K : RoadKit.Arv Z h b kC .char N (cs.map Value.int) d) (S : RoadKit.Sta Z h ST "COMPACT_STRINGS" "Z" (.int z)) (hz : ¬ z = 0)
    (hn : cs.length = n) (hN : N = Int32.ofNat n) (l0 : 0 < n) (l2 : n ≤ 4000) (hp : ∀ c ∈ cs, ¬ c < 0 ∧ ¬ (255 : Int32) < c) (hb : bs = cs.map (fun c => c.toInt8.toInt32)) (hfr : 4 ≤ R.frames) (hlo : W + 65 ≤ R.locals) :
    Back l R p e below s args (⟨"java/lang/String", "<init>", "([C)V"⟩ : MethodName) len W (fun P a => a = #[.ref x, .ref b] ∧ P.U.heap = h ∧ P.cells + 1 ≤ R.cells ∧ P.slots + n ≤ R.slots)
      (fun P _ v B => ∃ L, QV Z x N bs h n0 v B.U.heap L ∧ B.locs = P.locs ++ L ∧ B.cells = P.cells + 1 ∧ B.slots = P.slots + n) := by
  subst hn hN hb
  refine Back.mono (backArv hZ hw wi E V C K S hz (n32 (by omega)) l0 (by omega) (fun c hc => (hp c hc).2) hfr hlo) (fun P a hp => hp) (fun P a v B hp hq => ?_)
  obtain ⟨L, ⟨q1, q2, q3, q4, q5, q6, q7, ⟨kb, v1, v2⟩, q9⟩, hl, hc, hs⟩ := hq
  exact ⟨L, ⟨q1, fun y hy => by rw [q2 y hy]; exact hx0, q3, q5, q7, h.size, kb, hh0, Nat.le_refl _, Nat.ne_of_gt E.lt, q6, by rw [List.map_map]; exact v2⟩, hl, hc, hs⟩
end StrChars.Road
namespace StrChars
open Jvm Sem ClassFile Op Lib Jvm.Stand Jvm.Free.XT Jvm.Free.ALB Jvm.Free.JM Jvm.Free
open Jvm.Lib.Cold (StaticIs)
def hi8 (x : Int32) : Int32 := lo8 (x >>> ((8 : Int32) &&& 31))
/-- what StringUTF16.getChar makes of two bytes -/
def pairCh (u v : Int32) : Int32 := (((u &&& 255) <<< ((0 : Int32) &&& 31)) ||| ((v &&& 255) <<< ((8 : Int32) &&& 31))).toUInt32.toUInt16.toUInt32.toInt32
theorem shr0 (c : Int32) : c >>> ((0 : Int32) &&& 31) = c := by
  have e : ((0 : Int32) &&& 31) = 0 := by decide
  rw [e]
  apply Int32.toBitVec_inj.mp
  rw [Int32.toBitVec_shiftRight]
  have e1 : ((0 : Int32).toBitVec.smod 32) = 0#32 := by decide
  rw [e1, BitVec.sshiftRight_eq']
  exact BitVec.sshiftRight_zero
theorem lo8_and (x : Int32) : (lo8 x &&& 255).toBitVec.toNat = x.toBitVec.toNat % 256 := by
  have h : (lo8 x).toBitVec = (x.toBitVec.signExtend 8).signExtend 32 := by rw [lo8, Int8.toBitVec_toInt32, Int32.toBitVec_toInt8]
  rw [Int32.toBitVec_and, BitVec.toNat_and, h]
  have e : ((x.toBitVec.signExtend 8).signExtend 32).toNat % 256 = x.toBitVec.toNat % 256 := by
    rw [BitVec.toNat_signExtend]
    have hlt := x.toBitVec.isLt
    simp only [BitVec.toNat_setWidth, BitVec.toNat_signExtend]
    split <;> split <;> omega
  rw [← e]
  exact Nat.and_two_pow_sub_one_eq_mod _ 8
theorem pair_says {c : Int32} (h0 : ¬ c < 0) (h1 : ¬ 65535 < c) : pairCh (lo8 c) (hi8 c) = c := by
  rw [Int32.lt_iff_toInt_lt] at h0 h1
  have e0 : (0 : Int32).toInt = 0 := rfl
  have e1 : (65535 : Int32).toInt = 65535 := rfl
  have hc : c.toInt = c.toBitVec.toNat := by
    have := c.toBitVec.isLt
    have e : c.toInt = c.toBitVec.toInt := rfl
    rw [e] at h0 h1
    rw [e]
    rw [BitVec.toInt_eq_toNat_cond] at h0 h1 ⊢
    split at h0 <;> split <;> omega
  have hn : c.toBitVec.toNat < 65536 := by omega
  have a1 := lo8_and c
  have a2 : (hi8 c &&& 255).toBitVec.toNat = c.toBitVec.toNat / 256 := by
    rw [hi8, lo8_and]
    have e : ((8 : Int32) &&& 31) = 8 := by decide
    rw [e, Int32.toBitVec_shiftRight]
    have e2 : ((8 : Int32).toBitVec.smod 32) = 8#32 := by decide
    rw [e2, BitVec.sshiftRight_eq', BitVec.toNat_sshiftRight_of_msb_false (by rw [BitVec.msb_eq_false_iff_two_mul_lt]; omega)]
    show c.toBitVec.toNat >>> 8 % 256 = _
    rw [Nat.shiftRight_eq_div_pow]
    omega
  unfold pairCh
  apply Int32.toBitVec_inj.mp
  apply BitVec.eq_of_toNat_eq
  have f0 : ((0 : Int32) &&& 31) = 0 := by decide
  have f8 : ((8 : Int32) &&& 31) = 8 := by decide
  rw [f0, f8]
  have g : (((lo8 c &&& 255) <<< (0 : Int32)) ||| ((hi8 c &&& 255) <<< (8 : Int32))).toBitVec.toNat = c.toBitVec.toNat := by
    rw [Int32.toBitVec_or, Int32.toBitVec_shiftLeft, Int32.toBitVec_shiftLeft]
    have s0 : ((0 : Int32).toBitVec.smod 32) = 0#32 := by decide
    have s8 : ((8 : Int32).toBitVec.smod 32) = 8#32 := by decide
    rw [s0, s8, BitVec.toNat_or]
    simp only [BitVec.shiftLeft_eq', BitVec.toNat_shiftLeft, a1, a2]
    show (c.toBitVec.toNat % 256) <<< 0 % 2 ^ 32 ||| (c.toBitVec.toNat / 256) <<< 8 % 2 ^ 32 = _
    rw [Nat.shiftLeft_zero, Nat.mod_eq_of_lt (show c.toBitVec.toNat % 256 < 2 ^ 32 by omega), Nat.mod_eq_of_lt (show (c.toBitVec.toNat / 256) <<< 8 < 2 ^ 32 by rw [Nat.shiftLeft_eq]; omega), Nat.or_comm, ← Nat.shiftLeft_add_eq_or_of_lt (by omega), Nat.shiftLeft_eq]
    omega
  show BitVec.toNat (((((lo8 c &&& 255) <<< (0 : Int32)) ||| ((hi8 c &&& 255) <<< (8 : Int32))).toBitVec.setWidth 16).setWidth 32) = _
  rw [BitVec.toNat_setWidth, BitVec.toNat_setWidth, g]
  omega
end StrChars
namespace StrChars
open Jvm Sem ClassFile Op Lib Jvm.Stand Jvm.Free.XT Jvm.Free.ALB Jvm.Free.JM Jvm.Free
open Jvm.Lib.Cold (StaticIs)
theorem shr1 {n : Nat} (h : 2 * n < 2 ^ 31) : Int32.ofNat (2 * n) >>> ((1 : Int32) &&& 31) = Int32.ofNat n := by
  have e : ((1 : Int32) &&& 31) = 1 := by decide
  rw [e]
  apply Int32.toBitVec_inj.mp
  rw [Int32.toBitVec_shiftRight]
  have e1 : ((1 : Int32).toBitVec.smod 32) = 1#32 := by decide
  have hm : (BitVec.ofNat 32 (2 * n)).toNat = 2 * n := by rw [BitVec.toNat_ofNat, Nat.mod_eq_of_lt (by omega)]
  rw [e1, BitVec.sshiftRight_eq']
  apply BitVec.eq_of_toNat_eq
  show ((BitVec.ofNat 32 (2 * n)).sshiftRight 1).toNat = (BitVec.ofNat 32 n).toNat
  rw [BitVec.toNat_sshiftRight_of_msb_false (by rw [BitVec.msb_eq_false_iff_two_mul_lt, hm]; omega), hm, BitVec.toNat_ofNat, Nat.shiftRight_eq_div_pow]
  omega
/-- charAt's cast of a byte read back -/
def chr8 (u : Int32) : Int32 := (u &&& 255).toUInt32.toUInt16.toUInt32.toInt32
theorem chr8_lo8 {c : Int32} (h0 : ¬ c < 0) (h1 : ¬ 255 < c) : chr8 (lo8 c) = c := by
  have t : ∀ k : Fin 256, (Int32.ofNat k.val).toUInt32.toUInt16.toUInt32.toInt32 = Int32.ofNat k.val := by decide +kernel
  unfold chr8
  rw [lo8_mask h0 h1]
  rw [Int32.lt_iff_toInt_lt] at h0 h1
  have e0 : (0 : Int32).toInt = 0 := rfl
  have e1 : (255 : Int32).toInt = 255 := rfl
  obtain ⟨k, hk⟩ : ∃ k : Nat, c.toInt = k := ⟨c.toInt.toNat, by omega⟩
  have hx : c = Int32.ofNat k := Int32.toInt_inj.mp (by rw [hk, Int32.toInt_ofNat_small (by omega)])
  rw [hx]
  exact t ⟨k, by omega⟩
theorem narrow_ch {c : Int32} (h0 : ¬ c < 0) (h1 : ¬ 65535 < c) : narrow .char (.int c) = .int c := by
  have q : narrow .char (.int (pairCh (lo8 c) (hi8 c))) = .int (pairCh (lo8 c) (hi8 c)) := narrow_c _
  rwa [pair_says h0 h1] at q
/-- the array's cell V codes the n chars f 0 .. f (n - 1) by the coder cd, as the JDK does: coder 1 just where some char is above 255 -/
def Cod (cd : Int32) (n : Nat) (f : Nat → Int32) (V : Cell) : Prop := (cd = 0 ∧ V.slots.size = n ∧ ∀ j, j < n → V.slots[j]? = some (.int (lo8 (f j))) ∧ ¬ 255 < f j) ∨ (cd = 1 ∧ V.slots.size = 2 * n ∧ (∀ j, j < n → V.slots[2 * j]? = some (.int (lo8 (f j))) ∧ V.slots[2 * j + 1]? = some (.int (hi8 (f j)))) ∧ ∃ j, j < n ∧ 255 < f j)
theorem Cod.cd {cd : Int32} {n : Nat} {f : Nat → Int32} {V : Cell} (h : Cod cd n f V) : cd = 0 ∨ cd = 1 := h.imp (fun q => q.1) fun q => q.1
theorem Cod.len {cd : Int32} {n : Nat} {f : Nat → Int32} {V : Cell} (h : Cod cd n f V) (hs : V.slots.size < 2 ^ 31) : Int32.ofNat V.slots.size >>> (cd &&& 31) = Int32.ofNat n := by
  rcases h with ⟨rfl, h, -⟩ | ⟨rfl, h, -⟩
  · rw [shr0, h]
  · rw [h, shr1 (by omega)]
/-- **x is a String of the n chars f 0 .. f (n - 1)**, Latin-1 or UTF-16; its array at t has the cell V -/
def Txt (x t : Addr) (V : Cell) (cd : Int32) (n : Nat) (f : Nat → Int32) (U : State) : Prop := Exact "java/lang/String" x U ∧ Has x "java/lang/String" "value" "[B" (.ref t) U ∧ Has x "java/lang/String" "coder" "B" (.int cd) U ∧ XT.Arr .byte t V U ∧ Cod cd n f V ∧ ∀ j, j < n → ¬ f j < 0 ∧ ¬ 65535 < f j
theorem Txt.mv {x t : Addr} {V : Cell} {cd : Int32} {n : Nat} {f : Nat → Int32} {U U' : State} (h : Txt x t V cd n f U) (hal : U.vm.Alike U'.vm) (hh : U'.heap = U.heap) : Txt x t V cd n f U' := ⟨h.1.mv hal hh, h.2.1.mv hal hh, h.2.2.1.mv hal hh, h.2.2.2.1.mv hal hh, h.2.2.2.2⟩
namespace Cdr
def yN : MethodName := ⟨"java/lang/String", "coder", "()B"⟩
abbrev yB : ByteArray := jdk_42_method_152_code
theorem d0 : decode yB 0 = .ok (.getstatic 38, 3) := by decide +kernel
theorem d3 : decode yB 3 = .ok (.ifCond (.eq) 10, 3) := by decide +kernel
theorem d6 : decode yB 6 = .ok (.aload_n 0, 1) := by decide +kernel
theorem d7 : decode yB 7 = .ok (.getfield 15, 3) := by decide +kernel
theorem d10 : decode yB 10 = .ok (.goto 4, 3) := by decide +kernel
theorem d14 : decode yB 14 = .ok (.ireturn, 1) := by decide +kernel
def site : List Cond := [.fieldLink "java/lang/String" 38 "java/lang/String" "COMPACT_STRINGS" "Z", .fieldLink "java/lang/String" 15 "java/lang/String" "coder" "B"]
def tab : Cond := tabOf yN yB 1 (some .byte) site
def P (x : Addr) (cd z : Int32) (args : Array Value) (s : State) : Prop := args = #[.ref x] ∧ Has x "java/lang/String" "coder" "B" (.int cd) s ∧ (cd = 0 ∨ cd = 1) ∧ StaticIs s "java/lang/String" "COMPACT_STRINGS" "Z" (.int z) ∧ ¬ z = 0
def E (cd : Int32) (r : Option Value) (s u : State) : Prop := XT.PureE (some (.int cd)) r s u
theorem law (l : Launch) (x : Addr) (cd z : Int32) : Law l yN 1 0 0 0 yB 1 (some .byte) site (P x cd z) (E cd) [] 0 0 := by
  refine Law.of_walk (plainFor_of_name (by decide +kernel)) (by decide +kernel) (by decide +kernel) (by decide) (fun _ _ h => by rw [h.1]; rfl) (fun _ U U' hal hh h => ⟨h.1, h.2.1.mv hal hh, h.2.2.1, h.2.2.2.1.there hal hh, h.2.2.2.2⟩) (fun r U U' V V' h1 hal h2 h => XT.PureE.mv r U U' V V' h1 hal h2 h) ?_
  intro p e s m args below meth c s₁ X0 hexec hbytes hml hret hlk hnm hown hh0 W hP
  obtain ⟨rfl, hx, hc, s1, hz⟩ := hP
  have c1 : Steps p.tables e below (s₁.setTop (entryFrame m #[.ref x] 1)) (s₁.setTop (mkF m 0 #[.val (.ref x)] [])) := entry rfl
  obtain ⟨T2, X2, q2, st2⟩ := X0.sget hexec hown (wk W (.fieldLink "java/lang/String" 38 "java/lang/String" "COMPACT_STRINGS" "Z")) s1 (fun _ _ h => by rw [hh0]; exact h) (g := (mkF m 0 #[.val (.ref x)] [])) rfl (hb hbytes d0)
  have hh2 := q2.trans hh0
  have c3 : Steps p.tables e below (s₁.setTop (entryFrame m #[.ref x] 1)) (T2.setTop (mkF m 7 #[.val (.ref x)] [.ref x])) := (c1.trans (st2 _ (Steps.refl _))).trans (by
    refine XS.ifNo X2.here hexec rfl (hb hbytes d3) rfl (i0_eq_f hz) ?_
    refine XS.aloadN X2.here hexec rfl (hb hbytes d6) rfl rfl ?_
    exact Steps.refl _)
  obtain ⟨T4, X4, q4, st4⟩ := X2.hget hexec hown (wk W (.fieldLink "java/lang/String" 15 "java/lang/String" "coder" "B")) (hx.mv X2.warmed.alike hh2) (g := (mkF m 7 #[.val (.ref x)] [.ref x])) rfl (rest := []) rfl (hb hbytes d7)
  have c5 : Steps p.tables e below (s₁.setTop (entryFrame m #[.ref x] 1)) (T4.setTop (mkF m 14 #[.val (.ref x)] [.int cd])) := (c3.trans (st4 _ (Steps.refl _))).trans (by
    refine XS.goto X4.here hexec rfl (pc0 := 10) rfl (hb hbytes d10) (by decide) rfl ?_
    exact Steps.refl _)
  exact ⟨T4, some (.int cd), _, _, _, X4, rfl, rfl, rfl, (fun h => by cases h), ⟨rfl, q4.trans hh2⟩, fun fs hl => c5.trans (X4.ireturnOut hexec hret (by rcases hc with rfl | rfl <;> rfl) (Or.inr (Or.inr (Or.inl rfl))) (hb hbytes d14) hl)⟩
end Cdr
namespace Len
def yN : MethodName := ⟨"java/lang/String", "length", "()I"⟩
abbrev yB : ByteArray := jdk_42_method_54_code
theorem d0 : decode yB 0 = .ok (.aload_n 0, 1) := by decide +kernel
theorem d1 : decode yB 1 = .ok (.getfield 9, 3) := by decide +kernel
theorem d4 : decode yB 4 = .ok (.arraylength, 1) := by decide +kernel
theorem d5 : decode yB 5 = .ok (.aload_n 0, 1) := by decide +kernel
theorem d6 : decode yB 6 = .ok (.invokevirtual 335, 3) := by decide +kernel
theorem d9 : decode yB 9 = .ok (.ishr, 1) := by decide +kernel
theorem d10 : decode yB 10 = .ok (.ireturn, 1) := by decide +kernel
def site : List Cond := [.fieldLink "java/lang/String" 9 "java/lang/String" "value" "[B", Cdr.tab] ++ virtW "java/lang/String" 335 "java/lang/String" Cdr.yN Cdr.yN
def tab : Cond := tabOf yN yB 1 (some .int) site
def P (x t : Addr) (V : Cell) (cd : Int32) (n : Nat) (f : Nat → Int32) (z : Int32) (args : Array Value) (s : State) : Prop := args = #[.ref x] ∧ Txt x t V cd n f s ∧ StaticIs s "java/lang/String" "COMPACT_STRINGS" "Z" (.int z) ∧ ¬ z = 0
def E (n : Nat) (r : Option Value) (s u : State) : Prop := XT.PureE (some (.int (Int32.ofNat n))) r s u
/-- length() of a String of n chars, in either coding -/
theorem law (l : Launch) (x t : Addr) (V : Cell) (cd : Int32) (n : Nat) (f : Nat → Int32) (z : Int32) : Law l yN 1 0 1 13 yB 1 (some .int) site (P x t V cd n f z) (E n) [] 0 0 := by
  refine Law.of_walk (plainFor_of_name (by decide +kernel)) (by decide +kernel) (by decide +kernel) (by decide) (fun _ _ h => by rw [h.1]; rfl) (fun _ U U' hal hh h => ⟨h.1, h.2.1.mv hal hh, h.2.2.1.there hal hh, h.2.2.2⟩) (fun r U U' V V' h1 hal h2 h => XT.PureE.mv r U U' V V' h1 hal h2 h) ?_
  intro p e s m args below meth c s₁ X0 hexec hbytes hml hret hlk hnm hown hh0 W hP
  obtain ⟨rfl, hx, s1, hz⟩ := hP
  have v31 := hx.2.2.2.1.2.2.2
  have c1 : Steps p.tables e below (s₁.setTop (entryFrame m #[.ref x] 1)) (s₁.setTop (mkF m 1 #[.val (.ref x)] [.ref x])) := Steps.trans (entry rfl) (by
    show Steps p.tables e below (s₁.setTop (mkF m 0 #[.val (.ref x)] [])) _
    refine XS.aloadN X0.here hexec rfl (hb hbytes d0) rfl rfl ?_
    exact Steps.refl _)
  obtain ⟨T2, X2, q2, st2⟩ := X0.hget hexec hown (wk W (.fieldLink "java/lang/String" 9 "java/lang/String" "value" "[B")) (hx.mv X0.warmed.alike hh0).2.1 (g := (mkF m 1 #[.val (.ref x)] [.ref x])) rfl (rest := []) rfl (hb hbytes d1)
  have hh2 := q2.trans hh0
  have hx2 := hx.mv X2.warmed.alike hh2
  have c3 : Steps p.tables e below (s₁.setTop (entryFrame m #[.ref x] 1)) (T2.setTop (mkF m 6 #[.val (.ref x)] [.ref x, .int (Int32.ofNat V.slots.size)])) := (c1.trans (st2 _ (Steps.refl _))).trans (by
    refine X2.alen hexec hx2.2.2.2.1 rfl rfl (hb hbytes d4) ?_
    refine XS.aloadN X2.here hexec rfl (hb hbytes d5) rfl rfl ?_
    exact Steps.refl _)
  obtain ⟨v4, T4, X4, E4, g4⟩ := X2.callV hexec (Cdr.law l x cd z) hown (wks W (virtW "java/lang/String" 335 "java/lang/String" Cdr.yN Cdr.yN)) rfl (by decide) (wk W Cdr.tab) (W := 1) (Nat.le_of_ble_eq_true rfl) (Nat.le_of_ble_eq_true rfl) (Nat.le_refl _) (Nat.le_refl _) (hx2.1.fc X2.warmed.alike) hx2.1.is (g := (mkF m 6 #[.val (.ref x)] [.ref x, .int (Int32.ofNat V.slots.size)])) rfl (by rw [hml]; rfl) c3 (argsL := []) (rest := [.int (Int32.ofNat V.slots.size)]) rfl rfl (by show 2 * 0 + (1 + 0) ≤ _; decide) (hb hbytes d6) (⟨rfl, hx2.2.2.1, hx.2.2.2.2.1.cd, s1.there X2.warmed.alike hh2, hz⟩)
  obtain ⟨rfl, q4⟩ := E4
  have c5 : Steps p.tables e below (s₁.setTop (entryFrame m #[.ref x] 1)) (T4.setTop (mkF m 10 #[.val (.ref x)] [.int (Int32.ofNat V.slots.size >>> (cd &&& 31))])) := Steps.trans g4 (by
    refine ishr X4.here hexec rfl (hb hbytes d9) rfl ?_
    exact Steps.refl _)
  rw [hx.2.2.2.2.1.len v31] at c5
  exact ⟨T4, some (.int (Int32.ofNat n)), _, _, _, X4, rfl, rfl, rfl, (fun h => by cases h), ⟨rfl, q4.trans hh2⟩, fun fs hl => c5.trans (X4.ireturnOut hexec hret rfl (Or.inl rfl) (hb hbytes d10) hl)⟩
theorem pays {l : Launch} {R : Room} {p : Program} {e : Env} {below : List Frame} {s : State} {sargs : Array Value} {len W : Nat} (x t : Addr) (V : Cell) (cd : Int32) (n : Nat) (f : Nat → Int32) (z : Int32) (htab : tab.before sargs s = true) (hfr : 2 ≤ R.frames) (hlo : W + 25 ≤ R.locals) :
    Back l R p e below s sargs yN len W (fun A₁ a₁ => A₁.cells + 0 ≤ R.cells ∧ A₁.slots + 0 ≤ R.slots ∧ P x t V cd n f z a₁ A₁.U) (fun A₁ _ v₁ B₁ => E n v₁ A₁.U B₁.U ∧ B₁.locs = A₁.locs ++ [] ∧ B₁.cells = A₁.cells + 0 ∧ B₁.slots = A₁.slots + 0) :=
  (law l x t V cd n f z).pays htab hfr (by omega)
end Len
namespace IsL
def yN : MethodName := ⟨"java/lang/String", "isLatin1", "()Z"⟩
abbrev yB : ByteArray := jdk_42_method_154_code
theorem d0 : decode yB 0 = .ok (.getstatic 38, 3) := by decide +kernel
theorem d3 : decode yB 3 = .ok (.ifCond (.eq) 14, 3) := by decide +kernel
theorem d6 : decode yB 6 = .ok (.aload_n 0, 1) := by decide +kernel
theorem d7 : decode yB 7 = .ok (.getfield 15, 3) := by decide +kernel
theorem d10 : decode yB 10 = .ok (.ifCond (.ne) 7, 3) := by decide +kernel
theorem d13 : decode yB 13 = .ok (.iconst 1, 1) := by decide +kernel
theorem d14 : decode yB 14 = .ok (.goto 4, 3) := by decide +kernel
theorem d17 : decode yB 17 = .ok (.iconst 0, 1) := by decide +kernel
theorem d18 : decode yB 18 = .ok (.ireturn, 1) := by decide +kernel
def site : List Cond := [.fieldLink "java/lang/String" 38 "java/lang/String" "COMPACT_STRINGS" "Z", .fieldLink "java/lang/String" 15 "java/lang/String" "coder" "B"]
def tab : Cond := tabOf yN yB 1 (some .boolean) site
def P (x : Addr) (cd z : Int32) (args : Array Value) (s : State) : Prop := args = #[.ref x] ∧ Has x "java/lang/String" "coder" "B" (.int cd) s ∧ (cd = 0 ∨ cd = 1) ∧ StaticIs s "java/lang/String" "COMPACT_STRINGS" "Z" (.int z) ∧ ¬ z = 0
def E (cd : Int32) (r : Option Value) (s u : State) : Prop := XT.PureE (some (.int (1 - cd))) r s u
theorem law (l : Launch) (x : Addr) (cd z : Int32) : Law l yN 1 0 0 0 yB 1 (some .boolean) site (P x cd z) (E cd) [] 0 0 := by
  refine Law.of_walk (plainFor_of_name (by decide +kernel)) (by decide +kernel) (by decide +kernel) (by decide) (fun _ _ h => by rw [h.1]; rfl) (fun _ U U' hal hh h => ⟨h.1, h.2.1.mv hal hh, h.2.2.1, h.2.2.2.1.there hal hh, h.2.2.2.2⟩) (fun r U U' V V' h1 hal h2 h => XT.PureE.mv r U U' V V' h1 hal h2 h) ?_
  intro p e s m args below meth c s₁ X0 hexec hbytes hml hret hlk hnm hown hh0 W hP
  obtain ⟨rfl, hx, hc, s1, hz⟩ := hP
  have c1 : Steps p.tables e below (s₁.setTop (entryFrame m #[.ref x] 1)) (s₁.setTop (mkF m 0 #[.val (.ref x)] [])) := entry rfl
  obtain ⟨T2, X2, q2, st2⟩ := X0.sget hexec hown (wk W (.fieldLink "java/lang/String" 38 "java/lang/String" "COMPACT_STRINGS" "Z")) s1 (fun _ _ h => by rw [hh0]; exact h) (g := (mkF m 0 #[.val (.ref x)] [])) rfl (hb hbytes d0)
  have hh2 := q2.trans hh0
  have c3 : Steps p.tables e below (s₁.setTop (entryFrame m #[.ref x] 1)) (T2.setTop (mkF m 7 #[.val (.ref x)] [.ref x])) := (c1.trans (st2 _ (Steps.refl _))).trans (by
    refine XS.ifNo X2.here hexec rfl (hb hbytes d3) rfl (i0_eq_f hz) ?_
    refine XS.aloadN X2.here hexec rfl (hb hbytes d6) rfl rfl ?_
    exact Steps.refl _)
  obtain ⟨T4, X4, q4, st4⟩ := X2.hget hexec hown (wk W (.fieldLink "java/lang/String" 15 "java/lang/String" "coder" "B")) (hx.mv X2.warmed.alike hh2) (g := (mkF m 7 #[.val (.ref x)] [.ref x])) rfl (rest := []) rfl (hb hbytes d7)
  have c5 : Steps p.tables e below (s₁.setTop (entryFrame m #[.ref x] 1)) (T4.setTop (mkF m 10 #[.val (.ref x)] [.int cd])) := c3.trans (st4 _ (Steps.refl _))
  have c6 : Steps p.tables e below (s₁.setTop (entryFrame m #[.ref x] 1)) (T4.setTop (mkF m 18 #[.val (.ref x)] [.int (1 - cd)])) := by
    rcases hc with rfl | rfl
    · exact c5.trans (by
        refine XS.ifNo X4.here hexec rfl (hb hbytes d10) rfl (i0_ne_f rfl) ?_
        refine iconstV X4.here hexec rfl 1 (hb hbytes d13) (by decide) ?_
        refine XS.goto X4.here hexec rfl (pc0 := 14) rfl (hb hbytes d14) (by decide) rfl ?_
        exact Steps.refl _)
    · exact c5.trans (by
        refine XS.ifYes X4.here hexec rfl (pc0 := 10) rfl (hb hbytes d10) rfl (i0_ne_t (by decide)) (by decide) rfl ?_
        refine iconstV X4.here hexec rfl 0 (hb hbytes d17) (by decide) ?_
        exact Steps.refl _)
  exact ⟨T4, some (.int (1 - cd)), _, _, _, X4, rfl, rfl, rfl, (fun h => by cases h), ⟨rfl, q4.trans hh2⟩, fun fs hl => c6.trans (X4.ireturnOut hexec hret (by rcases hc with rfl | rfl <;> rfl) (Or.inr (Or.inl rfl)) (hb hbytes d18) hl)⟩
end IsL
namespace LChA
def yN : MethodName := ⟨"java/lang/StringLatin1", "charAt", "([BI)C"⟩
abbrev yB : ByteArray := jdk_43_method_2_code
theorem d0 : decode yB 0 = .ok (.iload_n 1, 1) := by decide +kernel
theorem d1 : decode yB 1 = .ok (.aload_n 0, 1) := by decide +kernel
theorem d2 : decode yB 2 = .ok (.arraylength, 1) := by decide +kernel
theorem d3 : decode yB 3 = .ok (.invokestatic 9, 3) := by decide +kernel
theorem d6 : decode yB 6 = .ok (.aload_n 0, 1) := by decide +kernel
theorem d7 : decode yB 7 = .ok (.iload_n 1, 1) := by decide +kernel
theorem d8 : decode yB 8 = .ok (.baload, 1) := by decide +kernel
theorem d9 : decode yB 9 = .ok (.sipush 255, 3) := by decide +kernel
theorem d12 : decode yB 12 = .ok (.iand, 1) := by decide +kernel
theorem d13 : decode yB 13 = .ok (.i2c, 1) := by decide +kernel
theorem d14 : decode yB 14 = .ok (.ireturn, 1) := by decide +kernel
def site : List Cond := [JO.Str_checkIndex.tab] ++ staticW "java/lang/StringLatin1" 9 JO.Str_checkIndex.yN
def tab : Cond := tabOf yN yB 2 (some .char) site
def P (t : Addr) (V : Cell) (i : Nat) (u : Int32) (fm : Value) (args : Array Value) (s : State) : Prop := args = #[.ref t, .int (Int32.ofNat i)] ∧ XT.Arr .byte t V s ∧ V.slots[i]? = some (.int u) ∧ (StaticIs s "jdk/internal/util/Preconditions" "SIOOBE_FORMATTER" "Ljava/util/function/BiFunction;" fm ∧ fm.isRef = true)
def E (u : Int32) (r : Option Value) (s w : State) : Prop := XT.PureE (some (.int (chr8 u))) r s w
theorem law (l : Launch) (t : Addr) (V : Cell) (i : Nat) (u : Int32) (fm : Value) : Law l yN 2 2 2 27 yB 2 (some .char) site (P t V i u fm) (E u) [] 0 0 := by
  refine Law.of_walk (plainFor_of_name (by decide +kernel)) (by decide +kernel) (by decide +kernel) (by decide) (fun _ _ h => by rw [h.1]; rfl) (fun _ U U' hal hh h => ⟨h.1, h.2.1.mv hal hh, h.2.2.1, h.2.2.2.1.there hal hh, h.2.2.2.2⟩) (fun r U U' V V' h1 hal h2 h => XT.PureE.mv r U U' V V' h1 hal h2 h) ?_
  intro p e s m args below meth c s₁ X0 hexec hbytes hml hret hlk hnm hown hh0 W hP
  obtain ⟨rfl, hV, hu, s1, rf⟩ := hP
  have v31 := hV.2.2.2
  have hi : i < V.slots.size := (Array.getElem?_eq_some_iff.mp hu).1
  have c1 : Steps p.tables e below (s₁.setTop (entryFrame m #[.ref t, .int (Int32.ofNat i)] 2)) (s₁.setTop (mkF m 0 #[.val (.ref t), .val (.int (Int32.ofNat i))] [])) := entry rfl
  have c2 : Steps p.tables e below (s₁.setTop (entryFrame m #[.ref t, .int (Int32.ofNat i)] 2)) (s₁.setTop (mkF m 3 #[.val (.ref t), .val (.int (Int32.ofNat i))] [.int (Int32.ofNat V.slots.size), .int (Int32.ofNat i)])) := c1.trans (by
    refine XS.iloadN X0.here hexec rfl (hb hbytes d0) rfl ?_
    refine XS.aloadN X0.here hexec rfl (hb hbytes d1) rfl rfl ?_
    refine X0.alen hexec (hV.mv X0.warmed.alike hh0) rfl rfl (hb hbytes d2) ?_
    exact Steps.refl _)
  obtain ⟨v3, T3, X3, E3, g3⟩ := X0.callS hexec (JO.Str_checkIndex.law l (Int32.ofNat i) (Int32.ofNat V.slots.size) fm) hown (wks W (staticW "java/lang/StringLatin1" 9 JO.Str_checkIndex.yN)) (wk W JO.Str_checkIndex.tab) (W := 0) (Nat.le_of_ble_eq_true rfl) (Nat.le_of_ble_eq_true rfl) (Nat.le_refl _) (Nat.le_refl _) (g := (mkF m 3 #[.val (.ref t), .val (.int (Int32.ofNat i))] [.int (Int32.ofNat V.slots.size), .int (Int32.ofNat i)])) rfl (by rw [hml]; rfl) c2 (argsL := [.int (Int32.ofNat i), .int (Int32.ofNat V.slots.size)]) (rest := []) rfl rfl (by show 2 * 0 + 0 ≤ _; decide) (hb hbytes d3) (⟨rfl, rf, s1.there X0.warmed.alike hh0, Int32.ofNat_not_neg (by omega), lt32 v31 hi⟩)
  obtain ⟨rfl, q3⟩ := E3
  have hh3 := q3.trans hh0
  have c4 : Steps p.tables e below (s₁.setTop (entryFrame m #[.ref t, .int (Int32.ofNat i)] 2)) (T3.setTop (mkF m 14 #[.val (.ref t), .val (.int (Int32.ofNat i))] [.int (chr8 u)])) := Steps.trans g3 (by
    refine XS.aloadN X3.here hexec rfl (hb hbytes d6) rfl rfl ?_
    refine XS.iloadN X3.here hexec rfl (hb hbytes d7) rfl ?_
    refine X3.aget hexec (hV.mv X3.warmed.alike hh3) rfl hu rfl rfl (hb hbytes d8) ?_
    refine sipushV X3.here hexec rfl 255 (hb hbytes d9) (by decide) ?_
    refine XS.iand X3.here hexec rfl (hb hbytes d12) rfl ?_
    refine i2c X3.here hexec rfl (hb hbytes d13) rfl ?_
    exact Steps.refl _)
  exact ⟨T3, some (.int (chr8 u)), _, _, _, X3, rfl, rfl, rfl, (fun h => by cases h), ⟨rfl, hh3⟩, fun fs hl => c4.trans (X3.ireturnOut hexec hret (narrow_c _) (Or.inr (Or.inr (Or.inr (Or.inl rfl)))) (hb hbytes d14) hl)⟩
end LChA
end StrChars
namespace StrChars.Road
open Jvm Sem ClassFile Op Lib Jvm.Stand Jvm.Free Jvm.Free.XT
open Jvm.Lib.Cold (StaticIs)
theorem consq {a : Array Value} {s : State} {c : Jvm.Cond} {L : List Jvm.Cond} (h0 : c.before a s = true) (h : ∀ w ∈ L, w.before a s = true) : ∀ w ∈ c :: L, w.before a s = true := fun w hw => (List.mem_cons.mp hw).elim (fun e => e ▸ h0) (h w)
/-- the words of String.length(), either coding -/
abbrev wordsLen : List Jvm.Cond := [.code Len.yN Len.yB 1 (some .int), .initialized ST, .fieldLink ST 9 ST "value" "[B", .fieldLink ST 38 ST "COMPACT_STRINGS" "Z", .fieldLink ST 15 ST "coder" "B", .code Cdr.yN Cdr.yB 1 (some .byte), .methodLink ST 335 Cdr.yN, .declares Cdr.yN, .selects ST Cdr.yN Cdr.yN, .instanceMethod Cdr.yN]
theorem tabLen_of {a : Array Value} {s : State} (h : ∀ w ∈ wordsLen, w.before a s = true) : Len.tab.before a s = true := by
  have hc : Cdr.tab.before a s = true := unparts (wk h (.code Cdr.yN Cdr.yB 1 (some .byte))) (wks h (.initialized Cdr.yN.cls :: Cdr.site))
  have q := consq hc h
  exact unparts (wk q (.code Len.yN Len.yB 1 (some .int))) (wks q (.initialized Len.yN.cls :: Len.site))
theorem movedLen {Z s : State} {a0 args : Array Value} (hZ : Z.Warmed39 s.vm) (hw : ∀ d ∈ wordsLen, d.before a0 Z = true) : ∀ d ∈ wordsLen, d.before args s = true := fun d hd => by
  have q := hw d hd
  have t : ∀ d ∈ wordsLen, d = .arrayClass .byte ∨ (d.onTables && d.keepsFace) = true := by decide +kernel
  rcases t d hd with rfl | t
  · exact RoadKit.mvA hZ q
  · exact RoadKit.mv hZ q t
/-- the bytes of the chars cs, low before high -/
def wideBytes : List Int32 → List Value
  | [] => []
  | c :: cs => .int (lo8 c) :: .int (hi8 c) :: wideBytes cs
theorem wide_lo (d : Value) : ∀ (cs : List Int32) (j : Nat), j < cs.length → (wideBytes cs).getD (2 * j) d = .int (lo8 (cs.getD j 0))
  | [], j, h => absurd h (Nat.not_lt_zero j)
  | c :: cs, 0, _ => rfl
  | c :: cs, j + 1, h => by
    have q := wide_lo d cs j (by simpa using h)
    rw [show 2 * (j + 1) = 2 * j + 1 + 1 from by omega]
    simpa [wideBytes] using q
theorem wide_hi (d : Value) : ∀ (cs : List Int32) (j : Nat), j < cs.length → (wideBytes cs).getD (2 * j + 1) d = .int (hi8 (cs.getD j 0))
  | [], j, h => absurd h (Nat.not_lt_zero j)
  | c :: cs, 0, _ => rfl
  | c :: cs, j + 1, h => by
    have q := wide_hi d cs j (by simpa using h)
    rw [show 2 * (j + 1) + 1 = 2 * j + 1 + 1 + 1 from by omega]
    simpa [wideBytes] using q
theorem low_at (d : Value) (cs : List Int32) (j : Nat) (h : j < cs.length) : (cs.map fun c => Value.int (lo8 c)).getD j d = .int (lo8 (cs.getD j 0)) := by
  simp [List.getD_eq_getElem?_getD, h]
/-- an array of N2 bytes vs codes the chars cs by the coder cd -/
def CodA (cs : List Int32) (cd N2 : Int32) (vs : List Value) : Prop := (cd = 0 ∧ N2 = Int32.ofNat cs.length ∧ vs = (cs.map fun c => Value.int (lo8 c)) ∧ ∀ c ∈ cs, ¬ 255 < c) ∨ (cd = 1 ∧ N2 = Int32.ofNat (2 * cs.length) ∧ vs = wideBytes cs ∧ ∃ c ∈ cs, 255 < c)
theorem CodA.cod {cs : List Int32} {cd N2 : Int32} {vs : List Value} {V : Cell} (h : CodA cs cd N2 vs) (hn : 2 * cs.length < 2 ^ 31) (hs : V.slots.size = N2.toNatClampNeg) (hv : RoadKit.Has V vs (.int 0)) : Cod cd cs.length (fun j => cs.getD j 0) V := by
  rcases h with ⟨rfl, rfl, rfl, h⟩ | ⟨rfl, rfl, rfl, c, hc, hw⟩
  · rw [n32 (by omega)] at hs
    exact Or.inl ⟨rfl, hs, fun j hj => ⟨by rw [hv j (by omega), low_at _ _ _ hj], by
      have e : cs.getD j 0 = cs[j] := by simp [List.getD_eq_getElem?_getD, hj]
      show ¬ 255 < cs.getD j 0
      rw [e]; exact h _ (List.getElem_mem _)⟩⟩
  · rw [n32 (by omega)] at hs
    obtain ⟨j, hj, rfl⟩ := List.getElem_of_mem hc
    exact Or.inr ⟨rfl, hs, fun j hj => ⟨by rw [hv _ (by omega), wide_lo _ _ _ hj], by rw [hv _ (by omega), wide_hi _ _ _ hj]⟩, j, hj, by
      have e : cs.getD j 0 = cs[j] := by simp [List.getD_eq_getElem?_getD, hj]
      show 255 < cs.getD j 0
      rw [e]; exact hw⟩
/-- an object of exactly java/lang/String, its two fields found: as the laws ask it -/
theorem strObj {Z U : State} {a0 : Array Value} {kI : Nat} (wi : (Jvm.Cond.instantiable ST kI).before a0 Z = true) (al : Z.vm.Alike U.vm) {x : Addr} {v0 c0 : Value} (E : RoadKit.Exa Z U.heap x ST) (V : RoadKit.Fld Z U.heap x ST "value" "[B" v0) (C : RoadKit.Fld Z U.heap x ST "coder" "B" c0) :
    ∃ (D : Cell) (fV fC : Field), Blank ST x D U ∧ Found ST "value" "[B" fV U ∧ Found ST "coder" "B" fC U ∧ D.slots[fV.slot]? = some v0 ∧ D.slots[fC.slot]? = some c0 ∧ RoadKit.slotOf Z ST "value" "[B" = fV.slot ∧ RoadKit.slotOf Z ST "coder" "B" = fC.slot := by
  obtain ⟨D, cfV, kV, iV, fV, hD, gV, stV, knV, obV, asV, slV⟩ := V
  obtain ⟨D', cfC, kC, iC, fC, hD', gC, stC, -, -, asC, slC⟩ := C
  cases hD.symm.trans hD'
  obtain ⟨D2, kD, e1, e2, e3, e4, e5⟩ := E
  cases hD.symm.trans e1
  obtain ⟨c2, k2, i1, i2, i3, -⟩ := Cond.instantiable_spec wi
  cases e2.symm.trans i1
  cases e3.symm.trans i2
  obtain ⟨kU, u1, u2⟩ := al.2.2 _ _ e3
  exact ⟨D, fV, fC, ⟨hD, ⟨knV, fun q hq => by rw [hq] at obV; cases obV⟩, by rw [al.findClass]; exact e2, kU, u1, by rw [u2]; exact i3, by rw [u2]; exact e5 i3⟩, ⟨SBG.found_only al ⟨cfV, kV, iV, gV⟩, stV⟩, ⟨SBG.found_only al ⟨cfC, kC, iC, gC⟩, stC⟩, slV, slC, by simp [RoadKit.slotOf, gV], by simp [RoadKit.slotOf, gC]⟩
theorem sta_is {Z U : State} (al : Z.vm.Alike U.vm) {C n d : String} {v : Value} (S : RoadKit.Sta Z U.heap C n d v) : StaticIs U C n d v := by
  obtain ⟨cfS, iS, kS, fS, st, cS, t1, t2, t3, t4, t5, t6, t7⟩ := S
  exact StaticIs.there (s := { Z with heap := U.heap }) ⟨cfS, iS, kS, fS, st, cS, t1, t2, t3, t4, t5, (fun q => by rw [q] at t6; cases t6), t7⟩ al rfl
/-- **length() OF SUCH A STRING** -/
theorem lenW {p : Program} {l : Launch} {e : Env} {R : Room} {s : State} {args : Array Value} {below : List Frame} {len W : Nat} {Z : State} {a0 : Array Value} {h : Heap} (hZ : Z.Warmed39 s.vm) (hw : ∀ d ∈ wordsLen, d.before a0 Z = true) {kI : Nat} (wi : (Jvm.Cond.instantiable ST kI).before a0 Z = true)
    {x t : Addr} {kb : ClassId} {cs : List Int32} {cd N2 z : Int32} {vs : List Value} (E : RoadKit.Exa Z h x ST) (V : RoadKit.Fld Z h x ST "value" "[B" (.ref t)) (C : RoadKit.Fld Z h x ST "coder" "B" (.int cd)) (K : RoadKit.Arv Z h t kb .byte N2 vs (.int 0)) (hc : CodA cs cd N2 vs) (hb : ∀ c ∈ cs, ¬ c < 0 ∧ ¬ (65535 : Int32) < c)
    (S : RoadKit.Sta Z h ST "COMPACT_STRINGS" "Z" (.int z)) (hz : ¬ z = 0) (l2 : cs.length ≤ 4000) (hfr : 2 ≤ R.frames) (hlo : W + 25 ≤ R.locals) :
    Back l R p e below s args (⟨"java/lang/String", "length", "()I"⟩ : MethodName) len W (fun P a => a = #[.ref x] ∧ P.U.heap = h ∧ P.cells + 0 ≤ R.cells ∧ P.slots + 0 ≤ R.slots)
      (fun P _ v B => ∃ L, (v = some (.int (Int32.ofNat cs.length)) ∧ L = [] ∧ B.U.heap = h) ∧ B.locs = P.locs ++ L ∧ B.cells = P.cells + 0 ∧ B.slots = P.slots + 0) := by
  obtain ⟨A, K1, K2, K3, K4, K5, K6⟩ := K
  have hcod := hc.cod (by omega) K3 K5
  intro m meth c P g ig mk a X hg hsize hdg hW hn hp'
  obtain ⟨rfl, rfl, r1, r2⟩ := hp'
  have al : Z.vm.Alike P.U.vm := hZ.alike.trans X.warmed.alike
  obtain ⟨D, fV, fC, hB, F1, F2, g1, g2, -, -⟩ := strObj wi al E V C
  have hx : Txt x t A cd cs.length (fun j => cs.getD j 0) P.U := ⟨⟨_, hB.2.2.1, D, hB.1, rfl, by cases q : D.vm <;> first | rfl | exact absurd q (hB.2.1.2 _)⟩, Has.of hB F1 g1, Has.of hB F2 g2, ⟨K1.1, State.isArrayOf_alike al K1.2.1, K1.2.2, by rcases hcod with ⟨-, q, -⟩ | ⟨-, q, -⟩ <;> omega⟩, hcod, fun j hj => by
    have e : cs.getD j 0 = cs[j] := by simp [List.getD_eq_getElem?_getD, hj]
    show ¬ cs.getD j 0 < 0 ∧ ¬ 65535 < cs.getD j 0
    rw [e]; exact hb _ (List.getElem_mem _)⟩
  obtain ⟨v, B, X', ⟨⟨hv, hh⟩, hl, hk, hs⟩, st⟩ := Len.pays x t A cd cs.length (fun j => cs.getD j 0) z (tabLen_of (movedLen hZ hw)) hfr hlo m meth c P g ig mk _ X hg hsize hdg hW hn ⟨r1, r2, rfl, hx, sta_is al S, hz⟩
  exact ⟨v, B, X', ⟨[], ⟨hv, rfl, hh⟩, hl, hk, hs⟩, st⟩
end StrChars.Road
namespace StrChars
open Jvm Sem ClassFile Op Lib Jvm.Stand Jvm.Free.XT Jvm.Free.ALB Jvm.Free.JM Jvm.Free
open Jvm.Lib.Cold (StaticIs)
/-- what place i of a byte[]'s cell holds -/
def yv (A : Cell) (i : Nat) : Int32 := match A.slots[i]? with | some (.int x) => x | _ => 0
theorem yv_get {a : Addr} {A : Cell} {U : State} (h : XT.Arr .byte a A U) (ht : Typed .byte A) {i : Nat} (hi : i < A.slots.size) : A.slots[i]? = some (.int (yv A i)) := by
  have e := Array.getElem?_eq_getElem hi
  have f := ht i _ e
  unfold yv; rw [e]
  generalize A.slots[i] = v at f
  cases v <;> simp [fits] at f ⊢
/-- the two arrays are equal, place for place -/
def EqC (A B : Cell) : Prop := A.slots.size = B.slots.size ∧ ∀ i, i < A.slots.size → yv A i = yv B i
/-- a boolean that says whether p -/
def Says01 (q : Prop) (r : Option Value) (s u : State) : Prop := ∃ v : Int32, r = some (.int v) ∧ u.heap = s.heap ∧ ((v = 1 ∧ q) ∨ (v = 0 ∧ ¬ q))
theorem Says01.mv {q : Prop} : ∀ r (U U' V V' : State), U'.heap = U.heap → V.vm.Alike V'.vm → V'.heap = V.heap → Says01 q r U V → Says01 q r U' V' :=
  fun r U U' V V' h1 _ h2 ⟨v, a, b, c⟩ => ⟨v, a, by rw [h1, h2]; exact b, c⟩
namespace LEq
def yN : MethodName := ⟨"java/lang/StringLatin1", "equals", "([B[B)Z"⟩
abbrev yB : ByteArray := jdk_43_method_13_code
theorem d0 : decode yB 0 = .ok (.aload_n 0, 1) := by decide +kernel
theorem d1 : decode yB 1 = .ok (.arraylength, 1) := by decide +kernel
theorem d2 : decode yB 2 = .ok (.aload_n 1, 1) := by decide +kernel
theorem d3 : decode yB 3 = .ok (.arraylength, 1) := by decide +kernel
theorem d4 : decode yB 4 = .ok (.if_icmp (.ne) 30, 3) := by decide +kernel
theorem d7 : decode yB 7 = .ok (.iconst 0, 1) := by decide +kernel
theorem d8 : decode yB 8 = .ok (.istore_n 2, 1) := by decide +kernel
theorem d9 : decode yB 9 = .ok (.iload_n 2, 1) := by decide +kernel
theorem d10 : decode yB 10 = .ok (.aload_n 0, 1) := by decide +kernel
theorem d11 : decode yB 11 = .ok (.arraylength, 1) := by decide +kernel
theorem d12 : decode yB 12 = .ok (.if_icmp (.ge) 20, 3) := by decide +kernel
theorem d15 : decode yB 15 = .ok (.aload_n 0, 1) := by decide +kernel
theorem d16 : decode yB 16 = .ok (.iload_n 2, 1) := by decide +kernel
theorem d17 : decode yB 17 = .ok (.baload, 1) := by decide +kernel
theorem d18 : decode yB 18 = .ok (.aload_n 1, 1) := by decide +kernel
theorem d19 : decode yB 19 = .ok (.iload_n 2, 1) := by decide +kernel
theorem d20 : decode yB 20 = .ok (.baload, 1) := by decide +kernel
theorem d21 : decode yB 21 = .ok (.if_icmp (.eq) 5, 3) := by decide +kernel
theorem d24 : decode yB 24 = .ok (.iconst 0, 1) := by decide +kernel
theorem d25 : decode yB 25 = .ok (.ireturn, 1) := by decide +kernel
theorem d26 : decode yB 26 = .ok (.iinc 2 1, 3) := by decide +kernel
theorem d29 : decode yB 29 = .ok (.goto (-20), 3) := by decide +kernel
theorem d32 : decode yB 32 = .ok (.iconst 1, 1) := by decide +kernel
theorem d33 : decode yB 33 = .ok (.ireturn, 1) := by decide +kernel
theorem d34 : decode yB 34 = .ok (.iconst 0, 1) := by decide +kernel
theorem d35 : decode yB 35 = .ok (.ireturn, 1) := by decide +kernel
def site : List Cond := []
def tab : Cond := tabOf yN yB 3 (some .boolean) site
def P (a : Addr) (A : Cell) (b : Addr) (B : Cell) (args : Array Value) (s : State) : Prop := args = #[.ref a, .ref b] ∧ XT.Arr .byte a A s ∧ Typed .byte A ∧ XT.Arr .byte b B s ∧ Typed .byte B
/-- whether two byte[] are equal, place for place -/
theorem law (l : Launch) (a : Addr) (A : Cell) (b : Addr) (B : Cell) : Law l yN 2 2 0 0 yB 3 (some .boolean) site (P a A b B) (Says01 (EqC A B)) [] 0 0 := by
  refine Law.of_walk (plainFor_of_name (by decide +kernel)) (by decide +kernel) (by decide +kernel) (by decide) (fun _ _ h => by rw [h.1]; rfl) (fun _ U U' hal hh h => ⟨h.1, h.2.1.mv hal hh, h.2.2.1, h.2.2.2.1.mv hal hh, h.2.2.2.2⟩) (fun r U U' V V' h1 hal h2 h => Says01.mv r U U' V V' h1 hal h2 h) ?_
  intro p e s m args below meth c s₁ X0 hexec hbytes hml hret hlk hnm hown hh0 W hP
  obtain ⟨rfl, hA, tA, hB, tB⟩ := hP
  have a31 := hA.2.2.2
  have b31 := hB.2.2.2
  have hA0 := hA.mv X0.warmed.alike hh0
  have hB0 := hB.mv X0.warmed.alike hh0
  have c1 : Steps p.tables e below (s₁.setTop (entryFrame m #[.ref a, .ref b] 3)) (s₁.setTop (mkF m 0 #[.val (.ref a), .val (.ref b), .unset] [])) := entry rfl
  have c2 : Steps p.tables e below (s₁.setTop (entryFrame m #[.ref a, .ref b] 3)) (s₁.setTop (mkF m 4 #[.val (.ref a), .val (.ref b), .unset] [.int (Int32.ofNat B.slots.size), .int (Int32.ofNat A.slots.size)])) := c1.trans (by
    refine XS.aloadN X0.here hexec rfl (hb hbytes d0) rfl rfl ?_
    refine X0.alen hexec hA0 rfl rfl (hb hbytes d1) ?_
    refine XS.aloadN X0.here hexec rfl (hb hbytes d2) rfl rfl ?_
    refine X0.alen hexec hB0 rfl rfl (hb hbytes d3) ?_
    exact Steps.refl _)
  by_cases hs : A.slots.size = B.slots.size
  · have c3 : Steps p.tables e below (s₁.setTop (entryFrame m #[.ref a, .ref b] 3)) (s₁.setTop (mkF m 9 #[.val (.ref a), .val (.ref b), .val (.int 0)] [])) := c2.trans (by
      refine XS.icmpNo X0.here hexec rfl (hb hbytes d4) rfl (ii_ne_f (by rw [hs])) ?_
      refine iconstV X0.here hexec rfl 0 (hb hbytes d7) (by decide) ?_
      refine XS.istoreN X0.here hexec rfl (hb hbytes d8) rfl rfl ?_
      exact Steps.refl _)
    have loop : ∀ (r i : Nat), i + r = A.slots.size → (∀ j, j < i → yv A j = yv B j) → Steps p.tables e below (s₁.setTop (entryFrame m #[.ref a, .ref b] 3)) (s₁.setTop (mkF m 9 #[.val (.ref a), .val (.ref b), .val (.int (Int32.ofNat i))] [])) → ∃ (pc : Nat) (Ls : Array Slot) (v : Int32), (pc = 25 ∨ pc = 33) ∧ ((v = 1 ∧ EqC A B) ∨ (v = 0 ∧ ¬ EqC A B)) ∧ Steps p.tables e below (s₁.setTop (entryFrame m #[.ref a, .ref b] 3)) (s₁.setTop (mkF m pc Ls [.int v])) := by
      intro r
      induction r with
      | zero =>
        intro i hi he cl
        exact ⟨33, _, 1, Or.inr rfl, Or.inl ⟨rfl, hs, fun j hj => he j (by omega)⟩, cl.trans (by
          refine XS.iloadN X0.here hexec rfl (hb hbytes d9) rfl ?_
          refine XS.aloadN X0.here hexec rfl (hb hbytes d10) rfl rfl ?_
          refine X0.alen hexec hA0 rfl rfl (hb hbytes d11) ?_
          refine XS.icmpYes X0.here hexec rfl (pc0 := 12) rfl (hb hbytes d12) rfl (ii_ge_t (nlt32 (by omega) (by omega))) (by decide) rfl ?_
          refine iconstV X0.here hexec rfl 1 (hb hbytes d32) (by decide) ?_
          exact Steps.refl _)⟩
      | succ r ih =>
        intro i hi he cl
        have c4 : Steps p.tables e below (s₁.setTop (entryFrame m #[.ref a, .ref b] 3)) (s₁.setTop (mkF m 21 #[.val (.ref a), .val (.ref b), .val (.int (Int32.ofNat i))] [.int (yv B i), .int (yv A i)])) := cl.trans (by
          refine XS.iloadN X0.here hexec rfl (hb hbytes d9) rfl ?_
          refine XS.aloadN X0.here hexec rfl (hb hbytes d10) rfl rfl ?_
          refine X0.alen hexec hA0 rfl rfl (hb hbytes d11) ?_
          refine XS.icmpNo X0.here hexec rfl (hb hbytes d12) rfl (ii_ge_f (lt32 (by omega) (by omega))) ?_
          refine XS.aloadN X0.here hexec rfl (hb hbytes d15) rfl rfl ?_
          refine XS.iloadN X0.here hexec rfl (hb hbytes d16) rfl ?_
          refine X0.aget hexec hA0 rfl (yv_get hA tA (i := i) (by omega)) rfl rfl (hb hbytes d17) ?_
          refine XS.aloadN X0.here hexec rfl (hb hbytes d18) rfl rfl ?_
          refine XS.iloadN X0.here hexec rfl (hb hbytes d19) rfl ?_
          refine X0.aget hexec hB0 rfl (yv_get hB tB (i := i) (by omega)) rfl rfl (hb hbytes d20) ?_
          exact Steps.refl _)
        by_cases hv : yv A i = yv B i
        · have c5 : Steps p.tables e below (s₁.setTop (entryFrame m #[.ref a, .ref b] 3)) (s₁.setTop (mkF m 9 #[.val (.ref a), .val (.ref b), .val (.int (Int32.ofNat i + 1))] [])) := c4.trans (by
            refine XS.icmpYes X0.here hexec rfl (pc0 := 21) rfl (hb hbytes d21) rfl (ii_eq_t hv) (by decide) rfl ?_
            refine iincV X0.here hexec rfl 1 (hb hbytes d26) (by decide) rfl rfl ?_
            refine XS.goto X0.here hexec rfl (pc0 := 29) rfl (hb hbytes d29) (by decide) rfl ?_
            exact Steps.refl _)
          rw [succ32] at c5
          exact ih (i + 1) (by omega) (fun j hj => by
            by_cases e : j = i
            · rw [e]; exact hv
            · exact he j (by omega)) c5
        · exact ⟨25, _, 0, Or.inl rfl, Or.inr ⟨rfl, fun q => hv (q.2 i (by omega))⟩, c4.trans (by
            refine XS.icmpNo X0.here hexec rfl (hb hbytes d21) rfl (ii_eq_f hv) ?_
            refine iconstV X0.here hexec rfl 0 (hb hbytes d24) (by decide) ?_
            exact Steps.refl _)⟩
    obtain ⟨pc, Ls, v, hpc, hv, cz⟩ := loop A.slots.size 0 (by omega) (fun j hj => absurd hj (Nat.not_lt_zero j)) c3
    have nv : narrow .boolean (.int v) = .int v := by rcases hv with ⟨rfl, -⟩ | ⟨rfl, -⟩ <;> rfl
    rcases hpc with rfl | rfl
    · exact ⟨s₁, some (.int v), _, _, _, X0, rfl, rfl, rfl, (fun h => by cases h), ⟨v, rfl, hh0, hv⟩, fun fs hl => cz.trans (X0.ireturnOut hexec hret nv (Or.inr (Or.inl rfl)) (hb hbytes d25) hl)⟩
    · exact ⟨s₁, some (.int v), _, _, _, X0, rfl, rfl, rfl, (fun h => by cases h), ⟨v, rfl, hh0, hv⟩, fun fs hl => cz.trans (X0.ireturnOut hexec hret nv (Or.inr (Or.inl rfl)) (hb hbytes d33) hl)⟩
  · have c3 : Steps p.tables e below (s₁.setTop (entryFrame m #[.ref a, .ref b] 3)) (s₁.setTop (mkF m 35 #[.val (.ref a), .val (.ref b), .unset] [.int 0])) := c2.trans (by
      refine XS.icmpYes X0.here hexec rfl (pc0 := 4) rfl (hb hbytes d4) rfl (ii_ne_t (ne32 a31 b31 hs)) (by decide) rfl ?_
      refine iconstV X0.here hexec rfl 0 (hb hbytes d34) (by decide) ?_
      exact Steps.refl _)
    exact ⟨s₁, some (.int 0), _, _, _, X0, rfl, rfl, rfl, (fun h => by cases h), ⟨0, rfl, hh0, Or.inr ⟨rfl, fun q => hs q.1⟩⟩, fun fs hl => c3.trans (X0.ireturnOut hexec hret rfl (Or.inr (Or.inl rfl)) (hb hbytes d35) hl)⟩
end LEq
theorem Cod.ty {cd : Int32} {n : Nat} {f : Nat → Int32} {V : Cell} (h : Cod cd n f V) : Typed .byte V := fun i v hv => by
  have hi : i < V.slots.size := (Array.getElem?_eq_some_iff.mp hv).1
  rcases h with ⟨-, k1, k2⟩ | ⟨-, k1, k2, -⟩
  · rw [(k2 i (by omega)).1] at hv; cases hv; exact fits_lo8 _
  · rcases Nat.mod_two_eq_zero_or_one i with e | e
    · obtain ⟨j, rfl⟩ : ∃ j, i = 2 * j := ⟨i / 2, by omega⟩
      rw [(k2 j (by omega)).1] at hv; cases hv; exact fits_lo8 _
    · obtain ⟨j, rfl⟩ : ∃ j, i = 2 * j + 1 := ⟨i / 2, by omega⟩
      rw [(k2 j (by omega)).2] at hv; cases hv; exact fits_lo8 _
/-- the same text -/
def SameT (n : Nat) (f : Nat → Int32) (k : Nat) (g : Nat → Int32) : Prop := n = k ∧ ∀ j, j < n → f j = g j
theorem lo8_inj {x y : Int32} (h0 : ¬ x < 0) (h1 : ¬ 255 < x) (k0 : ¬ y < 0) (k1 : ¬ 255 < y) (h : lo8 x = lo8 y) : x = y := by
  rw [← lo8_mask h0 h1, ← lo8_mask k0 k1, h]
/-- arrays coded by one coder are equal just where the texts are -/
theorem Cod.eqv {cd : Int32} {n k : Nat} {f g : Nat → Int32} {V V' : Cell} (h : Cod cd n f V) (h' : Cod cd k g V') (hf : ∀ j, j < n → ¬ f j < 0 ∧ ¬ 65535 < f j) (hg : ∀ j, j < k → ¬ g j < 0 ∧ ¬ 65535 < g j) : EqC V V' ↔ SameT n f k g := by
  have yvv : ∀ {W : Cell} {i : Nat} {x : Int32}, W.slots[i]? = some (.int x) → yv W i = x := fun q => by unfold yv; rw [q]
  rcases h with ⟨rfl, k1, k2⟩ | ⟨rfl, k1, k2, -⟩
  · rcases h' with ⟨-, m1, m2⟩ | ⟨e, -⟩
    · constructor
      · rintro ⟨e1, e2⟩
        refine ⟨by omega, fun j hj => ?_⟩
        have q := e2 j (by omega)
        rw [yvv (k2 j hj).1, yvv (m2 j (by omega)).1] at q
        exact lo8_inj (hf j hj).1 (k2 j hj).2 (hg j (by omega)).1 (m2 j (by omega)).2 q
      · rintro ⟨rfl, e2⟩
        refine ⟨by omega, fun j hj => ?_⟩
        rw [yvv (k2 j (by omega)).1, yvv (m2 j (by omega)).1, e2 j (by omega)]
    · exact absurd e (by decide)
  · rcases h' with ⟨e, -⟩ | ⟨-, m1, m2, -⟩
    · exact absurd e (by decide)
    · constructor
      · rintro ⟨e1, e2⟩
        refine ⟨by omega, fun j hj => ?_⟩
        have q1 := e2 (2 * j) (by omega)
        have q2 := e2 (2 * j + 1) (by omega)
        rw [yvv (k2 j hj).1, yvv (m2 j (by omega)).1] at q1
        rw [yvv (k2 j hj).2, yvv (m2 j (by omega)).2] at q2
        rw [← pair_says (hf j hj).1 (hf j hj).2, ← pair_says (hg j (by omega)).1 (hg j (by omega)).2, q1, q2]
      · rintro ⟨rfl, e2⟩
        refine ⟨by omega, fun i hi => ?_⟩
        rcases Nat.mod_two_eq_zero_or_one i with e | e
        · obtain ⟨j, rfl⟩ : ∃ j, i = 2 * j := ⟨i / 2, by omega⟩
          rw [yvv (k2 j (by omega)).1, yvv (m2 j (by omega)).1, e2 j (by omega)]
        · obtain ⟨j, rfl⟩ : ∃ j, i = 2 * j + 1 := ⟨i / 2, by omega⟩
          rw [yvv (k2 j (by omega)).2, yvv (m2 j (by omega)).2, e2 j (by omega)]
/-- two codings differ: so do the texts -/
theorem Cod.dif {cd cd' : Int32} {n k : Nat} {f g : Nat → Int32} {V V' : Cell} (h : Cod cd n f V) (h' : Cod cd' k g V') (hne : ¬ cd = cd') : ¬ SameT n f k g := by
  rintro ⟨rfl, e⟩
  rcases h with ⟨rfl, -, k2⟩ | ⟨rfl, -, -, j, hj, hw⟩
  · rcases h' with ⟨rfl, -⟩ | ⟨-, -, -, j, hj, hw⟩
    · exact hne rfl
    · exact (k2 j hj).2 (by rw [e j hj]; exact hw)
  · rcases h' with ⟨-, -, m2⟩ | ⟨rfl, -⟩
    · exact (m2 j hj).2 (by rw [← e j hj]; exact hw)
    · exact hne rfl
/-- an object of exactly C is an instance of C -/
theorem cinst {p : Program} {l : Launch} {e : Env} {R : Room} {s : State} {m : MethodId} {args : Array Value} {below : List Frame} {meth : Method} {c : Code} {T : State} {locs : List Loc} {cells slots : Nat} (X : Stand p l e R s m args below meth c T locs cells slots) (hexec : p.tables.exec = Jvm.exec) {own C : String} {index : Nat} (hown : s.vm.findClass own = some m.cls) (hlink : (Cond.classLink own index C).before args s = true) {a : Addr} (hE : Exact C a T)
    {g : JFrame} (hg : g.method = m) {rest : List Value} (hstack : g.stack = .ref a :: rest) (hdg : decode c.code g.pc = .ok (.instanceof index, 3)) :
    ∃ T', Stand p l e R s m args below meth c T' locs cells slots ∧ T'.heap = T.heap ∧ ∀ target, Steps p.tables e below (T'.setTop { g with pc := g.pc + 3, stack := .int 1 :: rest }) target → Steps p.tables e below (T.setTop g) target := by
  obtain ⟨cB, h1, D, h2, h3, h4⟩ := hE
  have h1' : s.vm.findClass C = some cB := by rw [← X.warmed.alike.findClass]; exact h1
  obtain ⟨vm', X', st⟩ := X.instanceofYes hexec hown hlink h2 h4 h1' (by rw [h3]; exact Jvm.Free.SB.assignable_self _ _) hg hstack hdg
  exact ⟨_, X', rfl, st⟩
theorem cself {p : Program} {l : Launch} {e : Env} {R : Room} {s : State} {m : MethodId} {args : Array Value} {below : List Frame} {meth : Method} {c : Code} {T : State} {locs : List Loc} {cells slots : Nat} (X : Stand p l e R s m args below meth c T locs cells slots) (hexec : p.tables.exec = Jvm.exec) {own C : String} {index : Nat} (hown : s.vm.findClass own = some m.cls) (hlink : (Cond.classLink own index C).before args s = true) {a : Addr} (hE : Exact C a T)
    {g : JFrame} (hg : g.method = m) {rest : List Value} (hstack : g.stack = .ref a :: rest) (hdg : decode c.code g.pc = .ok (.checkcast index, 3)) :
    ∃ T', Stand p l e R s m args below meth c T' locs cells slots ∧ T'.heap = T.heap ∧ ∀ target, Steps p.tables e below (T'.setTop { g with pc := g.pc + 3, stack := .ref a :: rest }) target → Steps p.tables e below (T.setTop g) target := by
  obtain ⟨cB, h1, D, h2, h3, h4⟩ := hE
  have h1' : s.vm.findClass C = some cB := by rw [← X.warmed.alike.findClass]; exact h1
  obtain ⟨vm', X', st⟩ := X.checkcastYes hexec hown hlink h2 h4 h1' (by rw [h3]; exact Jvm.Free.SB.assignable_self _ _) hg hstack hdg
  exact ⟨_, X', rfl, fun t h => st t (by rw [← hstack] at h; exact h)⟩
namespace SEq
def yN : MethodName := ⟨"java/lang/String", "equals", "(Ljava/lang/Object;)Z"⟩
abbrev yB : ByteArray := jdk_42_method_66_code
theorem d0 : decode yB 0 = .ok (.aload_n 0, 1) := by decide +kernel
theorem d1 : decode yB 1 = .ok (.aload_n 1, 1) := by decide +kernel
theorem d2 : decode yB 2 = .ok (.if_acmp (.ne) 5, 3) := by decide +kernel
theorem d5 : decode yB 5 = .ok (.iconst 1, 1) := by decide +kernel
theorem d6 : decode yB 6 = .ok (.ireturn, 1) := by decide +kernel
theorem d7 : decode yB 7 = .ok (.aload_n 1, 1) := by decide +kernel
theorem d8 : decode yB 8 = .ok (.instanceof 10, 3) := by decide +kernel
theorem d11 : decode yB 11 = .ok (.ifCond (.eq) 43, 3) := by decide +kernel
theorem d14 : decode yB 14 = .ok (.aload_n 1, 1) := by decide +kernel
theorem d15 : decode yB 15 = .ok (.checkcast 10, 3) := by decide +kernel
theorem d18 : decode yB 18 = .ok (.astore_n 2, 1) := by decide +kernel
theorem d19 : decode yB 19 = .ok (.getstatic 38, 3) := by decide +kernel
theorem d22 : decode yB 22 = .ok (.ifCond (.eq) 14, 3) := by decide +kernel
theorem d25 : decode yB 25 = .ok (.aload_n 0, 1) := by decide +kernel
theorem d26 : decode yB 26 = .ok (.getfield 15, 3) := by decide +kernel
theorem d29 : decode yB 29 = .ok (.aload_n 2, 1) := by decide +kernel
theorem d30 : decode yB 30 = .ok (.getfield 15, 3) := by decide +kernel
theorem d33 : decode yB 33 = .ok (.if_icmp (.ne) 21, 3) := by decide +kernel
theorem d36 : decode yB 36 = .ok (.aload_n 0, 1) := by decide +kernel
theorem d37 : decode yB 37 = .ok (.getfield 9, 3) := by decide +kernel
theorem d40 : decode yB 40 = .ok (.aload_n 2, 1) := by decide +kernel
theorem d41 : decode yB 41 = .ok (.getfield 9, 3) := by decide +kernel
theorem d44 : decode yB 44 = .ok (.invokestatic 541, 3) := by decide +kernel
theorem d47 : decode yB 47 = .ok (.ifCond (.eq) 7, 3) := by decide +kernel
theorem d50 : decode yB 50 = .ok (.iconst 1, 1) := by decide +kernel
theorem d51 : decode yB 51 = .ok (.goto 4, 3) := by decide +kernel
theorem d54 : decode yB 54 = .ok (.iconst 0, 1) := by decide +kernel
theorem d55 : decode yB 55 = .ok (.ireturn, 1) := by decide +kernel
def site : List Cond := [.classLink "java/lang/String" 10 "java/lang/String", .fieldLink "java/lang/String" 38 "java/lang/String" "COMPACT_STRINGS" "Z", .fieldLink "java/lang/String" 15 "java/lang/String" "coder" "B", .fieldLink "java/lang/String" 9 "java/lang/String" "value" "[B", LEq.tab] ++ staticW "java/lang/String" 541 LEq.yN
def tab : Cond := tabOf yN yB 3 (some .boolean) site
def P (x t : Addr) (V : Cell) (cd : Int32) (n : Nat) (f : Nat → Int32) (y t' : Addr) (V' : Cell) (cd' : Int32) (k : Nat) (g : Nat → Int32) (z : Int32) (args : Array Value) (s : State) : Prop := args = #[.ref x, .ref y] ∧ Txt x t V cd n f s ∧ Txt y t' V' cd' k g s ∧ StaticIs s "java/lang/String" "COMPACT_STRINGS" "Z" (.int z) ∧ ¬ z = 0
/-- equals(Object) of two Strings: whether the texts are the same -/
theorem law (l : Launch) (x t : Addr) (V : Cell) (cd : Int32) (n : Nat) (f : Nat → Int32) (y t' : Addr) (V' : Cell) (cd' : Int32) (k : Nat) (g : Nat → Int32) (z : Int32) : Law l yN 2 1 1 14 yB 3 (some .boolean) site (P x t V cd n f y t' V' cd' k g z) (Says01 (SameT n f k g)) [] 0 0 := by
  refine Law.of_walk (plainFor_of_name (by decide +kernel)) (by decide +kernel) (by decide +kernel) (by decide) (fun _ _ h => by rw [h.1]; rfl) (fun _ U U' hal hh h => ⟨h.1, h.2.1.mv hal hh, h.2.2.1.mv hal hh, h.2.2.2.1.there hal hh, h.2.2.2.2⟩) (fun r U U' V V' h1 hal h2 h => Says01.mv r U U' V V' h1 hal h2 h) ?_
  intro p e s m args below meth c s₁ X0 hexec hbytes hml hret hlk hnm hown hh0 W hP
  obtain ⟨rfl, hx, hy, s1, hz⟩ := hP
  have c1 : Steps p.tables e below (s₁.setTop (entryFrame m #[.ref x, .ref y] 3)) (s₁.setTop (mkF m 2 #[.val (.ref x), .val (.ref y), .unset] [.ref y, .ref x])) := Steps.trans (entry rfl) (by
    show Steps p.tables e below (s₁.setTop (mkF m 0 #[.val (.ref x), .val (.ref y), .unset] [])) _
    refine XS.aloadN X0.here hexec rfl (hb hbytes d0) rfl rfl ?_
    refine XS.aloadN X0.here hexec rfl (hb hbytes d1) rfl rfl ?_
    exact Steps.refl _)
  by_cases hxy : x = y
  · have c2 : Steps p.tables e below (s₁.setTop (entryFrame m #[.ref x, .ref y] 3)) (s₁.setTop (mkF m 6 #[.val (.ref x), .val (.ref y), .unset] [.int 1])) := c1.trans (by
      refine acmpNo X0.here hexec rfl (hb hbytes d2) rfl rfl rfl (by simp [acmp, hxy]) ?_
      refine iconstV X0.here hexec rfl 1 (hb hbytes d5) (by decide) ?_
      exact Steps.refl _)
    subst hxy
    have ec : cd = cd' := by
      obtain ⟨D, fd, a1, a2, a3⟩ := hx.2.2.1
      obtain ⟨D', fd', b1, b2, b3⟩ := hy.2.2.1
      cases a1.symm.trans b1
      obtain ⟨q1, q2, q3, q4⟩ := a2.1
      obtain ⟨r1, r2, r3, r4⟩ := b2.1
      cases q4.symm.trans r4
      cases a3.symm.trans b3; rfl
    have et : t = t' := by
      obtain ⟨D, fd, a1, a2, a3⟩ := hx.2.1
      obtain ⟨D', fd', b1, b2, b3⟩ := hy.2.1
      cases a1.symm.trans b1
      obtain ⟨q1, q2, q3, q4⟩ := a2.1
      obtain ⟨r1, r2, r3, r4⟩ := b2.1
      cases q4.symm.trans r4
      cases a3.symm.trans b3; rfl
    subst ec et
    have ev : V = V' := by cases hx.2.2.2.1.1.symm.trans hy.2.2.2.1.1; rfl
    subst ev
    have hs : SameT n f k g := (Cod.eqv hx.2.2.2.2.1 hy.2.2.2.2.1 hx.2.2.2.2.2 hy.2.2.2.2.2).mp ⟨rfl, fun _ _ => rfl⟩
    exact ⟨s₁, some (.int 1), _, _, _, X0, rfl, rfl, rfl, (fun h => by cases h), ⟨1, rfl, hh0, Or.inl ⟨rfl, hs⟩⟩, fun fs hl => c2.trans (X0.ireturnOut hexec hret rfl (Or.inr (Or.inl rfl)) (hb hbytes d6) hl)⟩
  · have c2 : Steps p.tables e below (s₁.setTop (entryFrame m #[.ref x, .ref y] 3)) (s₁.setTop (mkF m 8 #[.val (.ref x), .val (.ref y), .unset] [.ref y])) := c1.trans (by
      refine acmpYes X0.here hexec rfl (pc0 := 2) rfl (hb hbytes d2) rfl rfl rfl (by simp [acmp, hxy]) (by decide) rfl ?_
      refine XS.aloadN X0.here hexec rfl (hb hbytes d7) rfl rfl ?_
      exact Steps.refl _)
    obtain ⟨T3, X3, q3, st3⟩ := cinst X0 hexec hown (wk W (.classLink "java/lang/String" 10 "java/lang/String")) (hy.mv X0.warmed.alike hh0).1 (g := (mkF m 8 #[.val (.ref x), .val (.ref y), .unset] [.ref y])) rfl (rest := []) rfl (hb hbytes d8)
    have hh3 := q3.trans hh0
    have c4 : Steps p.tables e below (s₁.setTop (entryFrame m #[.ref x, .ref y] 3)) (T3.setTop (mkF m 15 #[.val (.ref x), .val (.ref y), .unset] [.ref y])) := (c2.trans (st3 _ (Steps.refl _))).trans (by
      refine XS.ifNo X3.here hexec rfl (hb hbytes d11) rfl (i0_eq_f (by decide)) ?_
      refine XS.aloadN X3.here hexec rfl (hb hbytes d14) rfl rfl ?_
      exact Steps.refl _)
    obtain ⟨T5, X5, q5, st5⟩ := cself X3 hexec hown (wk W (.classLink "java/lang/String" 10 "java/lang/String")) (hy.mv X3.warmed.alike hh3).1 (g := (mkF m 15 #[.val (.ref x), .val (.ref y), .unset] [.ref y])) rfl (rest := []) rfl (hb hbytes d15)
    have hh5 := q5.trans hh3
    have c6 : Steps p.tables e below (s₁.setTop (entryFrame m #[.ref x, .ref y] 3)) (T5.setTop (mkF m 19 #[.val (.ref x), .val (.ref y), .val (.ref y)] [])) := (c4.trans (st5 _ (Steps.refl _))).trans (by
      refine XS.astoreN X5.here hexec rfl (hb hbytes d18) rfl rfl rfl ?_
      exact Steps.refl _)
    obtain ⟨T7, X7, q7, st7⟩ := X5.sget hexec hown (wk W (.fieldLink "java/lang/String" 38 "java/lang/String" "COMPACT_STRINGS" "Z")) s1 (fun _ _ h => by rw [hh5]; exact h) (g := (mkF m 19 #[.val (.ref x), .val (.ref y), .val (.ref y)] [])) rfl (hb hbytes d19)
    have hh7 := q7.trans hh5
    have c8 : Steps p.tables e below (s₁.setTop (entryFrame m #[.ref x, .ref y] 3)) (T7.setTop (mkF m 26 #[.val (.ref x), .val (.ref y), .val (.ref y)] [.ref x])) := (c6.trans (st7 _ (Steps.refl _))).trans (by
      refine XS.ifNo X7.here hexec rfl (hb hbytes d22) rfl (i0_eq_f hz) ?_
      refine XS.aloadN X7.here hexec rfl (hb hbytes d25) rfl rfl ?_
      exact Steps.refl _)
    obtain ⟨T9, X9, q9, st9⟩ := X7.hget hexec hown (wk W (.fieldLink "java/lang/String" 15 "java/lang/String" "coder" "B")) (hx.mv X7.warmed.alike hh7).2.2.1 (g := (mkF m 26 #[.val (.ref x), .val (.ref y), .val (.ref y)] [.ref x])) rfl (rest := []) rfl (hb hbytes d26)
    have hh9 := q9.trans hh7
    have c10 : Steps p.tables e below (s₁.setTop (entryFrame m #[.ref x, .ref y] 3)) (T9.setTop (mkF m 30 #[.val (.ref x), .val (.ref y), .val (.ref y)] [.ref y, .int cd])) := (c8.trans (st9 _ (Steps.refl _))).trans (by
      refine XS.aloadN X9.here hexec rfl (hb hbytes d29) rfl rfl ?_
      exact Steps.refl _)
    obtain ⟨T11, X11, q11, st11⟩ := X9.hget hexec hown (wk W (.fieldLink "java/lang/String" 15 "java/lang/String" "coder" "B")) (hy.mv X9.warmed.alike hh9).2.2.1 (g := (mkF m 30 #[.val (.ref x), .val (.ref y), .val (.ref y)] [.ref y, .int cd])) rfl (rest := [.int cd]) rfl (hb hbytes d30)
    have hh11 := q11.trans hh9
    have c12 : Steps p.tables e below (s₁.setTop (entryFrame m #[.ref x, .ref y] 3)) (T11.setTop (mkF m 33 #[.val (.ref x), .val (.ref y), .val (.ref y)] [.int cd', .int cd])) := c10.trans (st11 _ (Steps.refl _))
    by_cases hcd : cd = cd'
    · subst hcd
      have c13 : Steps p.tables e below (s₁.setTop (entryFrame m #[.ref x, .ref y] 3)) (T11.setTop (mkF m 37 #[.val (.ref x), .val (.ref y), .val (.ref y)] [.ref x])) := c12.trans (by
        refine XS.icmpNo X11.here hexec rfl (hb hbytes d33) rfl (ii_ne_f rfl) ?_
        refine XS.aloadN X11.here hexec rfl (hb hbytes d36) rfl rfl ?_
        exact Steps.refl _)
      obtain ⟨T14, X14, q14, st14⟩ := X11.hget hexec hown (wk W (.fieldLink "java/lang/String" 9 "java/lang/String" "value" "[B")) (hx.mv X11.warmed.alike hh11).2.1 (g := (mkF m 37 #[.val (.ref x), .val (.ref y), .val (.ref y)] [.ref x])) rfl (rest := []) rfl (hb hbytes d37)
      have hh14 := q14.trans hh11
      have c15 : Steps p.tables e below (s₁.setTop (entryFrame m #[.ref x, .ref y] 3)) (T14.setTop (mkF m 41 #[.val (.ref x), .val (.ref y), .val (.ref y)] [.ref y, .ref t])) := (c13.trans (st14 _ (Steps.refl _))).trans (by
        refine XS.aloadN X14.here hexec rfl (hb hbytes d40) rfl rfl ?_
        exact Steps.refl _)
      obtain ⟨T16, X16, q16, st16⟩ := X14.hget hexec hown (wk W (.fieldLink "java/lang/String" 9 "java/lang/String" "value" "[B")) (hy.mv X14.warmed.alike hh14).2.1 (g := (mkF m 41 #[.val (.ref x), .val (.ref y), .val (.ref y)] [.ref y, .ref t])) rfl (rest := [.ref t]) rfl (hb hbytes d41)
      have hh16 := q16.trans hh14
      have c17 : Steps p.tables e below (s₁.setTop (entryFrame m #[.ref x, .ref y] 3)) (T16.setTop (mkF m 44 #[.val (.ref x), .val (.ref y), .val (.ref y)] [.ref t', .ref t])) := c15.trans (st16 _ (Steps.refl _))
      obtain ⟨v18, T18, X18, E18, g18⟩ := X16.callS hexec (LEq.law l t V t' V') hown (wks W (staticW "java/lang/String" 541 LEq.yN)) (wk W LEq.tab) (W := 0) (Nat.le_of_ble_eq_true rfl) (Nat.le_of_ble_eq_true rfl) (Nat.le_refl _) (Nat.le_refl _) (g := (mkF m 44 #[.val (.ref x), .val (.ref y), .val (.ref y)] [.ref t', .ref t])) rfl (by rw [hml]; rfl) c17 (argsL := [.ref t, .ref t']) (rest := []) rfl rfl (by show 2 * 0 + 0 ≤ _; decide) (hb hbytes d44) (⟨rfl, hx.2.2.2.1.mv X16.warmed.alike hh16, hx.2.2.2.2.1.ty, hy.2.2.2.1.mv X16.warmed.alike hh16, hy.2.2.2.2.1.ty⟩)
      obtain ⟨v, rfl, q18, hv⟩ := E18
      have iff := Cod.eqv hx.2.2.2.2.1 hy.2.2.2.2.1 hx.2.2.2.2.2 hy.2.2.2.2.2
      rcases hv with ⟨rfl, he⟩ | ⟨rfl, he⟩
      · have c19 : Steps p.tables e below (s₁.setTop (entryFrame m #[.ref x, .ref y] 3)) (T18.setTop (mkF m 55 #[.val (.ref x), .val (.ref y), .val (.ref y)] [.int 1])) := Steps.trans g18 (by
          refine XS.ifNo X18.here hexec rfl (hb hbytes d47) rfl (i0_eq_f (by decide)) ?_
          refine iconstV X18.here hexec rfl 1 (hb hbytes d50) (by decide) ?_
          refine XS.goto X18.here hexec rfl (pc0 := 51) rfl (hb hbytes d51) (by decide) rfl ?_
          exact Steps.refl _)
        exact ⟨T18, some (.int 1), _, _, _, X18, rfl, rfl, rfl, (fun h => by cases h), ⟨1, rfl, q18.trans hh16, Or.inl ⟨rfl, iff.mp he⟩⟩, fun fs hl => c19.trans (X18.ireturnOut hexec hret rfl (Or.inr (Or.inl rfl)) (hb hbytes d55) hl)⟩
      · have c19 : Steps p.tables e below (s₁.setTop (entryFrame m #[.ref x, .ref y] 3)) (T18.setTop (mkF m 55 #[.val (.ref x), .val (.ref y), .val (.ref y)] [.int 0])) := Steps.trans g18 (by
          refine XS.ifYes X18.here hexec rfl (pc0 := 47) rfl (hb hbytes d47) rfl (i0_eq_t rfl) (by decide) rfl ?_
          refine iconstV X18.here hexec rfl 0 (hb hbytes d54) (by decide) ?_
          exact Steps.refl _)
        exact ⟨T18, some (.int 0), _, _, _, X18, rfl, rfl, rfl, (fun h => by cases h), ⟨0, rfl, q18.trans hh16, Or.inr ⟨rfl, fun q => he (iff.mpr q)⟩⟩, fun fs hl => c19.trans (X18.ireturnOut hexec hret rfl (Or.inr (Or.inl rfl)) (hb hbytes d55) hl)⟩
    · have c13 : Steps p.tables e below (s₁.setTop (entryFrame m #[.ref x, .ref y] 3)) (T11.setTop (mkF m 55 #[.val (.ref x), .val (.ref y), .val (.ref y)] [.int 0])) := c12.trans (by
        refine XS.icmpYes X11.here hexec rfl (pc0 := 33) rfl (hb hbytes d33) rfl (ii_ne_t hcd) (by decide) rfl ?_
        refine iconstV X11.here hexec rfl 0 (hb hbytes d54) (by decide) ?_
        exact Steps.refl _)
      exact ⟨T11, some (.int 0), _, _, _, X11, rfl, rfl, rfl, (fun h => by cases h), ⟨0, rfl, hh11, Or.inr ⟨rfl, Cod.dif hx.2.2.2.2.1 hy.2.2.2.2.1 hcd⟩⟩, fun fs hl => c13.trans (X11.ireturnOut hexec hret rfl (Or.inr (Or.inl rfl)) (hb hbytes d55) hl)⟩
theorem pays {l : Launch} {R : Room} {p : Program} {e : Env} {below : List Frame} {s : State} {sargs : Array Value} {len W : Nat} (x t : Addr) (V : Cell) (cd : Int32) (n : Nat) (f : Nat → Int32) (y t' : Addr) (V' : Cell) (cd' : Int32) (k : Nat) (g : Nat → Int32) (z : Int32) (htab : tab.before sargs s = true) (hfr : 2 ≤ R.frames) (hlo : W + 28 ≤ R.locals) :
    Back l R p e below s sargs yN len W (fun A₁ a₁ => A₁.cells + 0 ≤ R.cells ∧ A₁.slots + 0 ≤ R.slots ∧ P x t V cd n f y t' V' cd' k g z a₁ A₁.U) (fun A₁ _ v₁ B₁ => Says01 (SameT n f k g) v₁ A₁.U B₁.U ∧ B₁.locs = A₁.locs ++ [] ∧ B₁.cells = A₁.cells + 0 ∧ B₁.slots = A₁.slots + 0) :=
  (law l x t V cd n f y t' V' cd' k g z).pays htab hfr (by omega)
end SEq
end StrChars
namespace StrChars.Road
open Jvm Sem ClassFile Op Lib Jvm.Stand Jvm.Free Jvm.Free.XT
open Jvm.Lib.Cold (StaticIs)
/-- the words of String.equals(Object) -/
abbrev wordsEq : List Jvm.Cond := [.code SEq.yN SEq.yB 3 (some .boolean), .initialized ST, .classLink ST 10 ST, .fieldLink ST 38 ST "COMPACT_STRINGS" "Z", .fieldLink ST 15 ST "coder" "B", .fieldLink ST 9 ST "value" "[B", .methodLink ST 541 LEq.yN, .static LEq.yN, .code LEq.yN LEq.yB 3 (some .boolean), .initialized "java/lang/StringLatin1"]
theorem tabEq_of {a : Array Value} {s : State} (h : ∀ w ∈ wordsEq, w.before a s = true) : SEq.tab.before a s = true := by
  have hl : LEq.tab.before a s = true := unparts (wk h (.code LEq.yN LEq.yB 3 (some .boolean))) (wks h (.initialized LEq.yN.cls :: LEq.site))
  have q := consq hl h
  exact unparts (wk q (.code SEq.yN SEq.yB 3 (some .boolean))) (wks q (.initialized SEq.yN.cls :: SEq.site))
theorem movedEq {Z s : State} {a0 args : Array Value} (hZ : Z.Warmed39 s.vm) (hw : ∀ d ∈ wordsEq, d.before a0 Z = true) : ∀ d ∈ wordsEq, d.before args s = true := fun d hd => by
  have t : ∀ d ∈ wordsEq, (d.onTables && d.keepsFace) = true := by decide +kernel
  exact RoadKit.mv hZ (hw d hd) (t d hd)
/-- the road's facts of a String, as the laws ask it -/
theorem txt_of {Z U : State} {a0 : Array Value} {kI : Nat} (wi : (Jvm.Cond.instantiable ST kI).before a0 Z = true) (al : Z.vm.Alike U.vm) {x t : Addr} {kb : ClassId} {cs : List Int32} {cd N2 : Int32} {vs : List Value} (E : RoadKit.Exa Z U.heap x ST) (V : RoadKit.Fld Z U.heap x ST "value" "[B" (.ref t)) (C : RoadKit.Fld Z U.heap x ST "coder" "B" (.int cd)) (K : RoadKit.Arv Z U.heap t kb .byte N2 vs (.int 0)) (hc : CodA cs cd N2 vs) (hb : ∀ c ∈ cs, ¬ c < 0 ∧ ¬ (65535 : Int32) < c) (l2 : cs.length ≤ 4000) :
    ∃ A, Txt x t A cd cs.length (fun j => cs.getD j 0) U := by
  obtain ⟨A, K1, K2, K3, K4, K5, K6⟩ := K
  have hcod := hc.cod (by omega) K3 K5
  obtain ⟨D, fV, fC, hB, F1, F2, g1, g2, -, -⟩ := strObj wi al E V C
  exact ⟨A, ⟨_, hB.2.2.1, D, hB.1, rfl, by cases q : D.vm <;> first | rfl | exact absurd q (hB.2.1.2 _)⟩, Has.of hB F1 g1, Has.of hB F2 g2, ⟨K1.1, State.isArrayOf_alike al K1.2.1, K1.2.2, by rcases hcod with ⟨-, q, -⟩ | ⟨-, q, -⟩ <;> omega⟩, hcod, fun j hj => by
    have e : cs.getD j 0 = cs[j] := by simp [List.getD_eq_getElem?_getD, hj]
    show ¬ cs.getD j 0 < 0 ∧ ¬ 65535 < cs.getD j 0
    rw [e]; exact hb _ (List.getElem_mem _)⟩
theorem same_list (cs ds : List Int32) : SameT cs.length (fun j => cs.getD j 0) ds.length (fun j => ds.getD j 0) ↔ cs = ds := by
  constructor
  · rintro ⟨e, q⟩
    refine List.ext_getElem e fun j h1 h2 => ?_
    have := q j h1
    simpa [List.getD_eq_getElem?_getD, h1, h2] using this
  · rintro rfl
    exact ⟨rfl, fun _ _ => rfl⟩
/-- **equals(Object) OF TWO SUCH STRINGS**: 1 just where the chars are the same -/
theorem eqW {p : Program} {l : Launch} {e : Env} {R : Room} {s : State} {args : Array Value} {below : List Frame} {len W : Nat} {Z : State} {a0 : Array Value} {h : Heap} (hZ : Z.Warmed39 s.vm) (hw : ∀ d ∈ wordsEq, d.before a0 Z = true) {kI : Nat} (wi : (Jvm.Cond.instantiable ST kI).before a0 Z = true)
    {x t : Addr} {kb : ClassId} {cs : List Int32} {cd N2 : Int32} {vs : List Value} (E : RoadKit.Exa Z h x ST) (V : RoadKit.Fld Z h x ST "value" "[B" (.ref t)) (C : RoadKit.Fld Z h x ST "coder" "B" (.int cd)) (K : RoadKit.Arv Z h t kb .byte N2 vs (.int 0)) (hc : CodA cs cd N2 vs) (hb : ∀ c ∈ cs, ¬ c < 0 ∧ ¬ (65535 : Int32) < c) (l2 : cs.length ≤ 4000)
    {y t' : Addr} {kb' : ClassId} {ds : List Int32} {cd' N2' : Int32} {vs' : List Value} (E' : RoadKit.Exa Z h y ST) (V' : RoadKit.Fld Z h y ST "value" "[B" (.ref t')) (C' : RoadKit.Fld Z h y ST "coder" "B" (.int cd')) (K' : RoadKit.Arv Z h t' kb' .byte N2' vs' (.int 0)) (hc' : CodA ds cd' N2' vs') (hb' : ∀ c ∈ ds, ¬ c < 0 ∧ ¬ (65535 : Int32) < c) (l2' : ds.length ≤ 4000)
    {z : Int32} (S : RoadKit.Sta Z h ST "COMPACT_STRINGS" "Z" (.int z)) (hz : ¬ z = 0) (hfr : 2 ≤ R.frames) (hlo : W + 28 ≤ R.locals) :
    Back l R p e below s args (⟨"java/lang/String", "equals", "(Ljava/lang/Object;)Z"⟩ : MethodName) len W (fun P a => a = #[.ref x, .ref y] ∧ P.U.heap = h ∧ P.cells + 0 ≤ R.cells ∧ P.slots + 0 ≤ R.slots)
      (fun P _ v B => ∃ L, (((v = some (.int 1) ∧ cs = ds) ∨ (v = some (.int 0) ∧ ¬ cs = ds)) ∧ L = [] ∧ B.U.heap = h) ∧ B.locs = P.locs ++ L ∧ B.cells = P.cells + 0 ∧ B.slots = P.slots + 0) := by
  intro m meth c P g ig mk a X hg hsize hdg hW hn hp'
  obtain ⟨rfl, rfl, r1, r2⟩ := hp'
  have al : Z.vm.Alike P.U.vm := hZ.alike.trans X.warmed.alike
  obtain ⟨A, hx⟩ := txt_of wi al E V C K hc hb l2
  obtain ⟨A', hy⟩ := txt_of wi al E' V' C' K' hc' hb' l2'
  obtain ⟨v, B, X', ⟨⟨w, hv, hh, hq⟩, hl, hk, hs⟩, st⟩ := SEq.pays x t A cd cs.length (fun j => cs.getD j 0) y t' A' cd' ds.length (fun j => ds.getD j 0) z (tabEq_of (movedEq hZ hw)) hfr hlo m meth c P g ig mk _ X hg hsize hdg hW hn ⟨r1, r2, rfl, hx, hy, sta_is al S, hz⟩
  refine ⟨v, B, X', ⟨[], ⟨?_, rfl, hh⟩, hl, hk, hs⟩, st⟩
  rcases hq with ⟨rfl, q⟩ | ⟨rfl, q⟩
  · exact Or.inl ⟨hv, (same_list cs ds).mp q⟩
  · exact Or.inr ⟨hv, fun e => q ((same_list cs ds).mpr e)⟩
end StrChars.Road
namespace StrChars
open Jvm Sem ClassFile Op Lib Jvm.Stand Jvm.Free.XT Jvm.Free.ALB Jvm.Free.JM Jvm.Free
open Jvm.Lib.Cold (StaticIs)
namespace ChN
def yN : MethodName := ⟨"java/lang/String", "charAt", "(I)C"⟩
abbrev yB : ByteArray := jdk_42_method_56_code
theorem d0 : decode yB 0 = .ok (.aload_n 0, 1) := by decide +kernel
theorem d1 : decode yB 1 = .ok (.invokevirtual 492, 3) := by decide +kernel
theorem d4 : decode yB 4 = .ok (.ifCond (.eq) 12, 3) := by decide +kernel
theorem d7 : decode yB 7 = .ok (.aload_n 0, 1) := by decide +kernel
theorem d8 : decode yB 8 = .ok (.getfield 9, 3) := by decide +kernel
theorem d11 : decode yB 11 = .ok (.iload_n 1, 1) := by decide +kernel
theorem d12 : decode yB 12 = .ok (.invokestatic 495, 3) := by decide +kernel
theorem d15 : decode yB 15 = .ok (.ireturn, 1) := by decide +kernel
def site : List Cond := [.fieldLink "java/lang/String" 9 "java/lang/String" "value" "[B", IsL.tab, LChA.tab] ++ virtW "java/lang/String" 492 "java/lang/String" IsL.yN IsL.yN ++ staticW "java/lang/String" 495 LChA.yN
def tab : Cond := tabOf yN yB 2 (some .char) site
def P (x t : Addr) (V : Cell) (n : Nat) (f : Nat → Int32) (z : Int32) (fm : Value) (i : Nat) (args : Array Value) (s : State) : Prop := args = #[.ref x, .int (Int32.ofNat i)] ∧ Txt x t V 0 n f s ∧ i < n ∧ StaticIs s "java/lang/String" "COMPACT_STRINGS" "Z" (.int z) ∧ ¬ z = 0 ∧ StaticIs s "jdk/internal/util/Preconditions" "SIOOBE_FORMATTER" "Ljava/util/function/BiFunction;" fm ∧ fm.isRef = true
def E (f : Nat → Int32) (i : Nat) (r : Option Value) (s u : State) : Prop := XT.PureE (some (.int (f i))) r s u
/-- charAt(i) of a Latin-1 String of n chars, i < n: f i -/
theorem law (l : Launch) (x t : Addr) (V : Cell) (n : Nat) (f : Nat → Int32) (z : Int32) (fm : Value) (i : Nat) : Law l yN 2 1 3 40 yB 2 (some .char) site (P x t V n f z fm i) (E f i) [] 0 0 := by
  refine Law.of_walk (plainFor_of_name (by decide +kernel)) (by decide +kernel) (by decide +kernel) (by decide) (fun _ _ h => by rw [h.1]; rfl) (fun _ U U' hal hh h => ⟨h.1, h.2.1.mv hal hh, h.2.2.1, h.2.2.2.1.there hal hh, h.2.2.2.2.1, h.2.2.2.2.2.1.there hal hh, h.2.2.2.2.2.2⟩) (fun r U U' V V' h1 hal h2 h => XT.PureE.mv r U U' V V' h1 hal h2 h) ?_
  intro p e s m args below meth c s₁ X0 hexec hbytes hml hret hlk hnm hown hh0 W hP
  obtain ⟨rfl, hx, hi, s1, hz, s3, rf⟩ := hP
  have v31 := hx.2.2.2.1.2.2.2
  have hr := hx.2.2.2.2.2 i hi
  have hx0 := hx.mv X0.warmed.alike hh0
  have c1 : Steps p.tables e below (s₁.setTop (entryFrame m #[.ref x, .int (Int32.ofNat i)] 2)) (s₁.setTop (mkF m 1 #[.val (.ref x), .val (.int (Int32.ofNat i))] [.ref x])) := Steps.trans (entry rfl) (by
    show Steps p.tables e below (s₁.setTop (mkF m 0 #[.val (.ref x), .val (.int (Int32.ofNat i))] [])) _
    refine XS.aloadN X0.here hexec rfl (hb hbytes d0) rfl rfl ?_
    exact Steps.refl _)
  obtain ⟨v2, T2, X2, E2, g2⟩ := X0.callV hexec (IsL.law l x 0 z) hown (wks W (virtW "java/lang/String" 492 "java/lang/String" IsL.yN IsL.yN)) rfl (by decide) (wk W IsL.tab) (W := 0) (Nat.le_of_ble_eq_true rfl) (Nat.le_of_ble_eq_true rfl) (Nat.le_refl _) (Nat.le_refl _) (hx0.1.fc X0.warmed.alike) hx0.1.is (g := (mkF m 1 #[.val (.ref x), .val (.int (Int32.ofNat i))] [.ref x])) rfl (by rw [hml]; rfl) c1 (argsL := []) (rest := []) rfl rfl (by show 2 * 0 + 0 ≤ _; decide) (hb hbytes d1) (⟨rfl, hx0.2.2.1, hx.2.2.2.2.1.cd, s1.there X0.warmed.alike hh0, hz⟩)
  obtain ⟨rfl, q2⟩ := E2
  have hh2 := q2.trans hh0
  have hx2 := hx.mv X2.warmed.alike hh2
  obtain ⟨-, k1, k2⟩ | ⟨k0, -⟩ := hx.2.2.2.2.1
  · have c3 : Steps p.tables e below (s₁.setTop (entryFrame m #[.ref x, .int (Int32.ofNat i)] 2)) (T2.setTop (mkF m 8 #[.val (.ref x), .val (.int (Int32.ofNat i))] [.ref x])) := Steps.trans g2 (by
      refine XS.ifNo X2.here hexec rfl (hb hbytes d4) rfl (i0_eq_f (by decide)) ?_
      refine XS.aloadN X2.here hexec rfl (hb hbytes d7) rfl rfl ?_
      exact Steps.refl _)
    obtain ⟨T4, X4, q4, st4⟩ := X2.hget hexec hown (wk W (.fieldLink "java/lang/String" 9 "java/lang/String" "value" "[B")) hx2.2.1 (g := (mkF m 8 #[.val (.ref x), .val (.int (Int32.ofNat i))] [.ref x])) rfl (rest := []) rfl (hb hbytes d8)
    have hh4 := q4.trans hh2
    have c5 : Steps p.tables e below (s₁.setTop (entryFrame m #[.ref x, .int (Int32.ofNat i)] 2)) (T4.setTop (mkF m 12 #[.val (.ref x), .val (.int (Int32.ofNat i))] [.int (Int32.ofNat i), .ref t])) := (c3.trans (st4 _ (Steps.refl _))).trans (by
      refine XS.iloadN X4.here hexec rfl (hb hbytes d11) rfl ?_
      exact Steps.refl _)
    obtain ⟨v6, T6, X6, E6, g6⟩ := X4.callS hexec (LChA.law l t V i (lo8 (f i)) fm) hown (wks W (staticW "java/lang/String" 495 LChA.yN)) (wk W LChA.tab) (W := 0) (Nat.le_of_ble_eq_true rfl) (Nat.le_of_ble_eq_true rfl) (Nat.le_refl _) (Nat.le_refl _) (g := (mkF m 12 #[.val (.ref x), .val (.int (Int32.ofNat i))] [.int (Int32.ofNat i), .ref t])) rfl (by rw [hml]; rfl) c5 (argsL := [.ref t, .int (Int32.ofNat i)]) (rest := []) rfl rfl (by show 2 * 0 + 0 ≤ _; decide) (hb hbytes d12) (⟨rfl, hx.2.2.2.1.mv X4.warmed.alike hh4, (k2 i hi).1, s3.there X4.warmed.alike hh4, rf⟩)
    obtain ⟨rfl, q6⟩ := E6
    rw [chr8_lo8 hr.1 (k2 i hi).2] at g6
    exact ⟨T6, some (.int (f i)), _, _, _, X6, rfl, rfl, rfl, (fun h => by cases h), ⟨rfl, q6.trans hh4⟩, fun fs hl => Steps.trans g6 (X6.ireturnOut hexec hret (narrow_ch hr.1 hr.2) (Or.inr (Or.inr (Or.inr (Or.inl rfl)))) (hb hbytes d15) hl)⟩
  · exact absurd k0 (by decide)
theorem pays {l : Launch} {R : Room} {p : Program} {e : Env} {below : List Frame} {s : State} {sargs : Array Value} {len W : Nat} (x t : Addr) (V : Cell) (n : Nat) (f : Nat → Int32) (z : Int32) (fm : Value) (i : Nat) (htab : tab.before sargs s = true) (hfr : 4 ≤ R.frames) (hlo : W + 53 ≤ R.locals) :
    Back l R p e below s sargs yN len W (fun A₁ a₁ => A₁.cells + 0 ≤ R.cells ∧ A₁.slots + 0 ≤ R.slots ∧ P x t V n f z fm i a₁ A₁.U) (fun A₁ _ v₁ B₁ => E f i v₁ A₁.U B₁.U ∧ B₁.locs = A₁.locs ++ [] ∧ B₁.cells = A₁.cells + 0 ∧ B₁.slots = A₁.slots + 0) :=
  (law l x t V n f z fm i).pays htab hfr (by omega)
end ChN
end StrChars
namespace StrChars.Road
open Jvm Sem ClassFile Op Lib Jvm.Stand Jvm.Free Jvm.Free.XT
open Jvm.Lib.Cold (StaticIs)
/-- the words of String.charAt(int), the Latin-1 road alone -/
abbrev wordsChN : List Jvm.Cond := [.code ChN.yN ChN.yB 2 (some .char), .initialized ST, .fieldLink ST 9 ST "value" "[B", .fieldLink ST 38 ST "COMPACT_STRINGS" "Z", .fieldLink ST 15 ST "coder" "B", .code IsL.yN IsL.yB 1 (some .boolean), .methodLink ST 492 IsL.yN, .declares IsL.yN, .selects ST IsL.yN IsL.yN, .instanceMethod IsL.yN,
  .methodLink ST 495 LChA.yN, .static LChA.yN, .code LChA.yN LChA.yB 2 (some .char), .initialized "java/lang/StringLatin1", .methodLink "java/lang/StringLatin1" 9 JO.Str_checkIndex.yN, .static JO.Str_checkIndex.yN, .code JO.Str_checkIndex.yN JO.Str_checkIndex.yB 2 none,
  .fieldLink ST 1053 "jdk/internal/util/Preconditions" "SIOOBE_FORMATTER" "Ljava/util/function/BiFunction;", .methodLink ST 1059 JC.PreCheck.yN, .static JC.PreCheck.yN, .code JC.PreCheck.yN JC.PreCheck.yB 3 (some .int), .initialized "jdk/internal/util/Preconditions"]
theorem tabChN_of {a : Array Value} {s : State} (h : ∀ w ∈ wordsChN, w.before a s = true) : ChN.tab.before a s = true := by
  have hp : JC.PreCheck.tab.before a s = true := unparts (wk h (.code JC.PreCheck.yN JC.PreCheck.yB 3 (some .int))) (wks h (.initialized JC.PreCheck.yN.cls :: JC.PreCheck.site))
  have qk := consq hp h
  have hk : JO.Str_checkIndex.tab.before a s = true := unparts (wk qk (.code JO.Str_checkIndex.yN JO.Str_checkIndex.yB 2 none)) (wks qk (.initialized JO.Str_checkIndex.yN.cls :: JO.Str_checkIndex.site))
  have ql := consq hk h
  have hl : LChA.tab.before a s = true := unparts (wk ql (.code LChA.yN LChA.yB 2 (some .char))) (wks ql (.initialized LChA.yN.cls :: LChA.site))
  have hi : IsL.tab.before a s = true := unparts (wk h (.code IsL.yN IsL.yB 1 (some .boolean))) (wks h (.initialized IsL.yN.cls :: IsL.site))
  have q := consq hi (consq hl h)
  exact unparts (wk q (.code ChN.yN ChN.yB 2 (some .char))) (wks q (.initialized ChN.yN.cls :: ChN.site))
theorem movedChN {Z s : State} {a0 args : Array Value} (hZ : Z.Warmed39 s.vm) (hw : ∀ d ∈ wordsChN, d.before a0 Z = true) : ∀ d ∈ wordsChN, d.before args s = true := fun d hd => by
  have t : ∀ d ∈ wordsChN, (d.onTables && d.keepsFace) = true := by decide +kernel
  exact RoadKit.mv hZ (hw d hd) (t d hd)
/-- **charAt(i) OF A LATIN-1 STRING**, i < n: the char -/
theorem chN {p : Program} {l : Launch} {e : Env} {R : Room} {s : State} {args : Array Value} {below : List Frame} {len W : Nat} {Z : State} {a0 : Array Value} {h : Heap} (hZ : Z.Warmed39 s.vm) (hw : ∀ d ∈ wordsChN, d.before a0 Z = true) {kI : Nat} (wi : (Jvm.Cond.instantiable ST kI).before a0 Z = true)
    {x t : Addr} {kb : ClassId} {cs : List Int32} {N2 z : Int32} {vs : List Value} {fm : Value} {i : Nat} {j : Int32} (E : RoadKit.Exa Z h x ST) (V : RoadKit.Fld Z h x ST "value" "[B" (.ref t)) (C : RoadKit.Fld Z h x ST "coder" "B" (.int 0)) (K : RoadKit.Arv Z h t kb .byte N2 vs (.int 0)) (hc : CodA cs 0 N2 vs) (hb : ∀ c ∈ cs, ¬ c < 0 ∧ ¬ (65535 : Int32) < c)
    (S : RoadKit.Sta Z h ST "COMPACT_STRINGS" "Z" (.int z)) (hz : ¬ z = 0) (F : RoadKit.Sta Z h "jdk/internal/util/Preconditions" "SIOOBE_FORMATTER" "Ljava/util/function/BiFunction;" fm) (rf : fm.isRef = true) (l2 : cs.length ≤ 4000) (hi : i < cs.length) (hj : j = Int32.ofNat i) (hfr : 4 ≤ R.frames) (hlo : W + 53 ≤ R.locals) :
    Back l R p e below s args (⟨"java/lang/String", "charAt", "(I)C"⟩ : MethodName) len W (fun P a => a = #[.ref x, .int j] ∧ P.U.heap = h ∧ P.cells + 0 ≤ R.cells ∧ P.slots + 0 ≤ R.slots)
      (fun P _ v B => ∃ L, (v = some (.int (cs.getD i 0)) ∧ L = [] ∧ B.U.heap = h) ∧ B.locs = P.locs ++ L ∧ B.cells = P.cells + 0 ∧ B.slots = P.slots + 0) := by
  subst hj
  intro m meth c P g ig mk a X hg hsize hdg hW hn hp'
  obtain ⟨rfl, rfl, r1, r2⟩ := hp'
  have al : Z.vm.Alike P.U.vm := hZ.alike.trans X.warmed.alike
  obtain ⟨A, hx⟩ := txt_of wi al E V C K hc hb l2
  obtain ⟨v, B, X', ⟨⟨hv, hh⟩, hl, hk, hs⟩, st⟩ := ChN.pays x t A cs.length (fun j => cs.getD j 0) z fm i (tabChN_of (movedChN hZ hw)) hfr hlo m meth c P g ig mk _ X hg hsize hdg hW hn ⟨r1, r2, rfl, hx, hi, sta_is al S, hz, sta_is al F, rf⟩
  exact ⟨v, B, X', ⟨[], ⟨hv, rfl, hh⟩, hl, hk, hs⟩, st⟩
/-- what backV says of its String, as the contracts of this text ask it: cs's low bytes, coder 0 -/
theorem codOf {cs : List Int32} {n : Nat} (hn : cs.length = n) (hb : ∀ c ∈ cs, ¬ 255 < c) : CodA cs 0 (Int32.ofNat n) ((cs.map lo8).map Value.int) := Or.inl ⟨rfl, by rw [hn], by simp [List.map_map, Function.comp_def], hb⟩
end StrChars.Road
end Jvm.Pilot.@@N@@
namespace Jvm.Pilot.@@N@@
open Jvm Jvm.ClassFile Sem Op Lib Jvm.Free Jvm.Stand Jvm.LawKit Jvm.RoadKit Bundle Jvm.OwnK Jvm.Pilot.@@N@@.Jvm.D
abbrev STN : String := "java/lang/String"
/-- a String that spells the chars cs -/
def Str (Z : State) (h : Heap) (a : Addr) (cs : List Int32) : Prop := ∃ (b : Addr) (kb : ClassId) (cd N2 : Int32) (vs : List Value), Exa Z h a STN ∧ Fld Z h a STN "value" "[B" (.ref b) ∧ Fld Z h a STN "coder" "B" (.int cd) ∧ Arv Z h b kb .byte N2 vs (.int 0) ∧ StrChars.Road.CodA cs cd N2 vs ∧ (∀ c ∈ cs, ¬ c < 0 ∧ ¬ (65535 : Int32) < c) ∧ cs.length ≤ 4000
theorem Str.ext {Z : State} {h h' : Heap} {a : Addr} {cs : List Int32} (F : Str Z h a cs) (E : Ext h h') : Str Z h' a cs := by
  obtain ⟨b, kb, cd, N2, vs, f1, f2, f3, f4, r⟩ := F
  exact ⟨b, kb, cd, N2, vs, f1.ext E, f2.ext E, f3.ext E, f4.ext E, r⟩
theorem Str.exa {Z : State} {h : Heap} {a : Addr} {cs : List Int32} (F : Str Z h a cs) : Exa Z h a STN := by obtain ⟨b, kb, cd, N2, vs, f1, -⟩ := F; exact f1
theorem Str.lt {Z : State} {h : Heap} {a : Addr} {cs : List Int32} (F : Str Z h a cs) : a < h.size := F.exa.lt
theorem le16 {cs : List Int32} (h : ∀ c ∈ cs, ¬ c < 0 ∧ ¬ (255 : Int32) < c) : ∀ c ∈ cs, ¬ c < 0 ∧ ¬ (65535 : Int32) < c := fun c hc => ⟨(h c hc).1, fun q => (h c hc).2 (Int32.lt_trans (by decide) q)⟩
theorem and255 (x : Int32) : ¬ (x &&& 255) < 0 ∧ ¬ (255 : Int32) < (x &&& 255) := by
  have h := c_and x 255 (by decide)
  have e : (255 : Int32).toInt = 255 := by decide
  have e0 : (0 : Int32).toInt = 0 := by decide
  rw [Int32.lt_iff_toInt_lt, Int32.lt_iff_toInt_lt, e, e0]; omega
def FBL : List Int32 := [102, 111, 114, 98, 105, 100, 100, 101, 110]
theorem cod_FBL : StrChars.Road.CodA FBL 0 9 [.int 102, .int 111, .int 114, .int 98, .int 105, .int 100, .int 100, .int 101, .int 110] := Or.inl ⟨rfl, rfl, rfl, by decide⟩
theorem all_FBL : ∀ c ∈ FBL, ¬ c < 0 ∧ ¬ (255 : Int32) < c := by decide
def UAL : List Int32 := [117, 110, 97, 117, 116, 104, 111, 114, 105, 122, 101, 100]
theorem cod_UAL : StrChars.Road.CodA UAL 0 12 [.int 117, .int 110, .int 97, .int 117, .int 116, .int 104, .int 111, .int 114, .int 105, .int 122, .int 101, .int 100] := Or.inl ⟨rfl, rfl, rfl, by decide⟩
theorem all_UAL : ∀ c ∈ UAL, ¬ c < 0 ∧ ¬ (255 : Int32) < c := by decide
def Pin1 (Z : State) (fb ua va s1 s2 oe : Addr) (kv : ClassId) : Prop := Sta Z Z.heap "com/example/wardn/wardn/rules/ErrorClass" "FORBIDDEN" "Lcom/example/wardn/wardn/rules/ErrorClass;" (.ref fb) ∧ Sta Z Z.heap "com/example/wardn/wardn/rules/ErrorClass" "UNAUTHORIZED" "Lcom/example/wardn/wardn/rules/ErrorClass;" (.ref ua) ∧ Sta Z Z.heap "com/example/wardn/wardn/rules/ErrorClass" "$VALUES" "[Lcom/example/wardn/wardn/rules/ErrorClass;" (.ref va) ∧ Exa Z Z.heap fb "com/example/wardn/wardn/rules/ErrorClass" ∧ Exa Z Z.heap ua "com/example/wardn/wardn/rules/ErrorClass" ∧ Exa Z Z.heap va "[Lcom/example/wardn/wardn/rules/ErrorClass;" ∧ Arv Z Z.heap va kv (.object "com/example/wardn/wardn/rules/ErrorClass") 2 [.ref fb, .ref ua] .null ∧
  Fld Z Z.heap fb "com/example/wardn/wardn/rules/ErrorClass" "jsonName" "Ljava/lang/String;" (.ref s1) ∧ Fld Z Z.heap ua "com/example/wardn/wardn/rules/ErrorClass" "jsonName" "Ljava/lang/String;" (.ref s2) ∧ Str Z Z.heap s1 FBL ∧ Str Z Z.heap s2 UAL ∧ Sta Z Z.heap "java/util/Optional" "EMPTY" "Ljava/util/Optional;" (.ref oe) ∧ Exa Z Z.heap oe "java/util/Optional" ∧ Fld Z Z.heap oe "java/util/Optional" "value" "Ljava/lang/Object;" .null
def res1 (cs : List Int32) (fb ua : Addr) : Value := if cs = FBL then .ref fb else if cs = UAL then .ref ua else .null
def EL1 : List (String × Nat) := [("com/example/wardn/wardn/rules/ErrorClassNamedPinLaw", 7), ("com/example/wardn/wardn/rules/ErrorClassNamedPinLaw", 9), ("com/example/wardn/wardn/rules/ErrorClassNamedPinLaw", 11), ("java/lang/String", 7)]
def Env1 (Z : State) (a0 : Array Value) : Prop := (∀ d ∈ tables_1, d.before a0 Z = true) ∧ EW Z a0 EL1 ∧ (∃ z : Int32, Sta Z Z.heap "java/lang/String" "COMPACT_STRINGS" "Z" (.int z) ∧ ¬ z = 0) ∧ ((∃ fm : Value, Sta Z Z.heap "jdk/internal/util/Preconditions" "SIOOBE_FORMATTER" "Ljava/util/function/BiFunction;" fm ∧ fm.isRef = true) ∧ ∃ fb ua va s1 s2 oe kv, Pin1 Z fb ua va s1 s2 oe kv)
theorem wd {Z : State} {a0 : Array Value} (G : Env1 Z a0) (i : Nat) {d : Jvm.Cond} (h : tables_1[i]? = some d) : d.before a0 Z = true := G.1 d (List.mem_of_getElem? h)
theorem wS_in : ∀ a ∈ Bundle.stringAtoms, a ∈ tables_1 := by decide +kernel
theorem wS {Z : State} {a0 : Array Value} (G : Env1 Z a0) : ∀ a ∈ Bundle.stringAtoms, a.before a0 Z = true := fun a ha => G.1 a (wS_in a ha)
theorem wBackV : ∀ d ∈ StrChars.Road.words, d ∈ tables_1 := by decide +kernel
theorem pays_str {l : Launch} {R : Room} {Z : State} {a0 : Array Value} {sf : List Addr} {W : Nat} (G : Env1 Z a0) {x b : Addr} {kc : ClassId} (cs : List Int32) {d v0 c0 : Value} {N : Int32} (n : Nat) (h : Heap) (E : Exa Z h x STN) (V : Fld Z h x STN "value" "[B" v0) (C : Fld Z h x STN "coder" "B" c0) (K : Arv Z h b kc .char N (cs.map Value.int) d)
    (hn : cs.length = n) (hN : N = Int32.ofNat n) (l0 : 0 < n) (l2 : n ≤ 4000) (hp : ∀ c ∈ cs, ¬ c < 0 ∧ ¬ (255 : Int32) < c) (hsf : x ∈ sf) (hfr : 4 ≤ R.frames) (hlo : W + 65 ≤ R.locals) :
    Pays l R Z a0 EL1 sf (⟨"java/lang/String", "<init>", "([C)V"⟩ : MethodName) 3 W #[.ref x, .ref b] h 1 n (fun v h' => v = none ∧ Keep h h' [x] ∧ Str Z h' x cs) := by
  obtain ⟨z, hS, hz⟩ := G.2.2.1
  refine Pays.of_back (ws := [x]) (fun p e below s args hZ hE hsz => StrChars.Road.backV (n0 := Z.heap.size) (bs := cs.map (fun c => c.toInt8.toInt32)) hZ (fun d hd => G.1 d (wBackV d hd)) (kI := 4) (wd G 2 rfl) (hsz x hsf) hE.1 E V C K (hS.ext hE) hz hn hN l0 l2 hp rfl hfr hlo) (allS hsf all0) ?_
  intro v h' L hE q
  obtain ⟨q1, q2, q3, q4, q5, t, kb, -, -, -, q6, q7⟩ := q
  refine ⟨q2, q3, q1, q3, t, kb, 0, N, _, q4, q6, q5, q7, ?_, le16 hp, by omega⟩
  subst hN
  exact StrChars.Road.codOf hn (fun c hc => (hp c hc).2)
theorem wLen : ∀ d ∈ StrChars.Road.wordsLen, d ∈ tables_1 := by decide +kernel
theorem pays_len {l : Launch} {R : Room} {Z : State} {a0 : Array Value} {sf : List Addr} {W : Nat} (G : Env1 Z a0) {x : Addr} {cs : List Int32} (h : Heap) (F : Str Z h x cs) (hfr : 2 ≤ R.frames) (hlo : W + 25 ≤ R.locals) :
    Pays l R Z a0 EL1 sf (⟨"java/lang/String", "length", "()I"⟩ : MethodName) 3 W #[.ref x] h 0 0 (fun v h' => v = some (.int (Int32.ofNat cs.length)) ∧ h = h') := by
  obtain ⟨z, hS, hz⟩ := G.2.2.1
  obtain ⟨b, kb, cd, N2, vs, f1, f2, f3, f4, f5, f6, f7⟩ := F
  refine Pays.of_back (ws := []) (QL := fun v h' L => v = some (.int (Int32.ofNat cs.length)) ∧ L = [] ∧ h' = h) (fun p e below s args hZ hE hsz => StrChars.Road.lenW hZ (fun d hd => G.1 d (wLen d hd)) (kI := 4) (wd G 2 rfl) f1 f2 f3 f4 f5 f6 (hS.ext hE) hz f7 hfr hlo) all0 ?_
  intro v h' L hE q
  obtain ⟨q1, q2, q3⟩ := q
  subst q2 q3
  exact ⟨Fr.nil _, Keep.refl _ _, q1, rfl⟩
theorem wChr : ∀ d ∈ StrChars.Road.wordsChN, d ∈ tables_1 := by decide +kernel
theorem Str.cd0 {cs : List Int32} {cd N2 : Int32} {vs : List Value} (h : StrChars.Road.CodA cs cd N2 vs) (hl : ∀ c ∈ cs, ¬ (255 : Int32) < c) : cd = 0 := by
  rcases h with h | ⟨-, -, -, c, hc, q⟩
  · exact h.1
  · exact absurd q (hl c hc)
theorem pays_chr {l : Launch} {R : Room} {Z : State} {a0 : Array Value} {sf : List Addr} {W : Nat} (G : Env1 Z a0) {x : Addr} {cs : List Int32} (h : Heap) (i : Nat) {j : Int32} (F : Str Z h x cs) (hl : ∀ c ∈ cs, ¬ (255 : Int32) < c) (hi : i < cs.length) (hj : j = Int32.ofNat i) (hfr : 4 ≤ R.frames) (hlo : W + 53 ≤ R.locals) :
    Pays l R Z a0 EL1 sf (⟨"java/lang/String", "charAt", "(I)C"⟩ : MethodName) 3 W #[.ref x, .int j] h 0 0 (fun v h' => v = some (.int (cs.getD i 0)) ∧ h = h') := by
  obtain ⟨z, hS, hz⟩ := G.2.2.1
  obtain ⟨fm, hF, rf⟩ := G.2.2.2.1
  obtain ⟨b, kb, cd, N2, vs, f1, f2, f3, f4, f5, f6, f7⟩ := F
  obtain rfl : cd = 0 := Str.cd0 f5 hl
  refine Pays.of_back (ws := []) (QL := fun v h' L => v = some (.int (cs.getD i 0)) ∧ L = [] ∧ h' = h) (fun p e below s args hZ hE hsz => StrChars.Road.chN hZ (fun d hd => G.1 d (wChr d hd)) (kI := 4) (wd G 2 rfl) f1 f2 f3 f4 f5 f6 (hS.ext hE) hz (hF.ext hE) rf f7 hi hj hfr hlo) all0 ?_
  intro v h' L hE q
  obtain ⟨q1, q2, q3⟩ := q
  subst q2 q3
  exact ⟨Fr.nil _, Keep.refl _ _, q1, rfl⟩
theorem wEq : ∀ d ∈ StrChars.Road.wordsEq, d ∈ tables_1 := by decide +kernel
theorem pays_eq {l : Launch} {R : Room} {Z : State} {a0 : Array Value} {sf : List Addr} {W : Nat} (G : Env1 Z a0) {x y : Addr} {cs ds : List Int32} (h : Heap) (F : Str Z h x cs) (F' : Str Z h y ds) (hfr : 2 ≤ R.frames) (hlo : W + 28 ≤ R.locals) :
    Pays l R Z a0 EL1 sf (⟨"java/lang/String", "equals", "(Ljava/lang/Object;)Z"⟩ : MethodName) 3 W #[.ref x, .ref y] h 0 0 (fun v h' => v = some (.int (if cs = ds then 1 else 0)) ∧ h = h') := by
  obtain ⟨z, hS, hz⟩ := G.2.2.1
  obtain ⟨b, kb, cd, N2, vs, f1, f2, f3, f4, f5, f6, f7⟩ := F
  obtain ⟨b', kb', cd', N2', vs', f1', f2', f3', f4', f5', f6', f7'⟩ := F'
  refine Pays.of_back (ws := []) (QL := fun v h' L => ((v = some (.int 1) ∧ cs = ds) ∨ (v = some (.int 0) ∧ ¬ cs = ds)) ∧ L = [] ∧ h' = h) (fun p e below s args hZ hE hsz => StrChars.Road.eqW hZ (fun d hd => G.1 d (wEq d hd)) (kI := 4) (wd G 2 rfl) f1 f2 f3 f4 f5 f6 f7 f1' f2' f3' f4' f5' f6' f7' (hS.ext hE) hz hfr hlo) all0 ?_
  intro v h' L hE q
  obtain ⟨q1, q2, q3⟩ := q
  subst q2 q3
  refine ⟨Fr.nil _, Keep.refl _ _, ?_, rfl⟩
  rcases q1 with ⟨q1, e⟩ | ⟨q1, e⟩
  · rw [q1, if_pos e]
  · rw [q1, if_neg e]
theorem pays_eqT {l : Launch} {R : Room} {Z : State} {a0 : Array Value} {sf : List Addr} {W : Nat} (G : Env1 Z a0) {x y : Addr} {cs ds : List Int32} (h : Heap) (F : Str Z h x cs) (F' : Str Z h y ds) (e : cs = ds) (hfr : 2 ≤ R.frames) (hlo : W + 28 ≤ R.locals) :
    Pays l R Z a0 EL1 sf (⟨"java/lang/String", "equals", "(Ljava/lang/Object;)Z"⟩ : MethodName) 3 W #[.ref x, .ref y] h 0 0 (fun v h' => v = some (.int 1) ∧ h = h') :=
  (pays_eq G h F F' hfr hlo).post fun v h' q => ⟨by rw [q.1, if_pos e], q.2⟩
theorem pays_eqF {l : Launch} {R : Room} {Z : State} {a0 : Array Value} {sf : List Addr} {W : Nat} (G : Env1 Z a0) {x y : Addr} {cs ds : List Int32} (h : Heap) (F : Str Z h x cs) (F' : Str Z h y ds) (e : ¬ cs = ds) (hfr : 2 ≤ R.frames) (hlo : W + 28 ≤ R.locals) :
    Pays l R Z a0 EL1 sf (⟨"java/lang/String", "equals", "(Ljava/lang/Object;)Z"⟩ : MethodName) 3 W #[.ref x, .ref y] h 0 0 (fun v h' => v = some (.int 0) ∧ h = h') :=
  (pays_eq G h F F' hfr hlo).post fun v h' q => ⟨by rw [q.1, if_neg e], q.2⟩
theorem narrow_obj (C : String) (v : Value) : narrow (.object C) v = v := by cases v <;> rfl
theorem fits_obj {C : String} {v : Value} (h : v.isRef = true) : fits (.object C) v = true := by cases v <;> simp_all [Value.isRef, fits]
theorem narrow_bool {r : Int32} (h : r = 0 ∨ r = 1) : narrow .boolean (.int r) = .int r := by rcases h with rfl | rfl <;> rfl
theorem fits_bool {r : Int32} (h : r = 0 ∨ r = 1) : fits .boolean (.int r) = true := by rcases h with rfl | rfl <;> rfl
theorem and3 (x : Int32) : (x &&& 3) = 0 ∨ (x &&& 3) = 1 ∨ (x &&& 3) = 2 ∨ (x &&& 3) = 3 := by
  have h := c_and x 3 (by decide)
  have e : (3 : Int32).toInt = 3 := by decide
  rw [e] at h
  obtain ⟨i, hi, q⟩ := toInt_cases (n := 4) h.1 (by omega) (by decide)
  rw [q]
  match i, hi with
  | 0, _ => decide
  | 1, _ => decide
  | 2, _ => decide
  | 3, _ => decide
theorem and1 (x : Int32) : (x &&& 1) = 0 ∨ (x &&& 1) = 1 := and_one x
theorem mask31 (x : Int32) : 0 ≤ (x &&& 2147483647).toInt := (c_and x 2147483647 (by decide)).1
theorem rem3 (x : Int32) : ((x &&& 2147483647) % 3) = 0 ∨ ((x &&& 2147483647) % 3) = 1 ∨ ((x &&& 2147483647) % 3) = 2 := by
  have h := (c_iremV (x &&& 2147483647) 3).1 (mask31 x) (by decide)
  have e : (3 : Int32).toInt = 3 := by decide
  rw [e] at h
  obtain ⟨i, hi, q⟩ := toInt_cases (n := 3) h.1 (by omega) (by decide)
  rw [q]
  match i, hi with
  | 0, _ => decide
  | 1, _ => decide
  | 2, _ => decide
theorem nar255 {u : Int32} (h : ¬ u < 0 ∧ ¬ (255 : Int32) < u) : nar .char u = u := by
  have q := c_i2c u
  refine Int32.toInt_inj.mp ?_
  rw [Int32.lt_iff_toInt_lt, Int32.lt_iff_toInt_lt] at h
  have e : (255 : Int32).toInt = 255 := by decide
  have e0 : (0 : Int32).toInt = 0 := by decide
  rw [e, e0] at h
  show u.toUInt32.toUInt16.toUInt32.toInt32.toInt = u.toInt
  omega
def cutL (ds : List Int32) (k i : Nat) : List Int32 := (ds.take i).take k ++ List.replicate (k - i) 0
theorem cutL_0 (ds : List Int32) (k : Nat) : (cutL ds k 0).map Value.int = [] ++ List.replicate k (Value.int 0) := by simp [cutL]
theorem cutL_len (ds : List Int32) (k i : Nat) (h : i ≤ ds.length) : (cutL ds k i).length = k := by simp [cutL]; omega
theorem cutL_ge (ds : List Int32) (k i j : Nat) (h : k ≤ i) (h' : k ≤ j) : cutL ds k i = cutL ds k j := by
  simp only [cutL, List.take_take, Nat.min_eq_left h, Nat.min_eq_left h', Nat.sub_eq_zero_of_le h, Nat.sub_eq_zero_of_le h']
theorem cutL_all (ds : List Int32) (k i : Nat) (h : k ≤ i) : cutL ds k i = ds.take k := by
  simp only [cutL, List.take_take, Nat.min_eq_left h, Nat.sub_eq_zero_of_le h, List.replicate_zero, List.append_nil]
theorem cutL_set (ds : List Int32) (k i : Nat) (h : i < k) (h' : i < ds.length) : ((cutL ds k i).map Value.int).set i (.int (ds.getD i 0)) = (cutL ds k (i + 1)).map Value.int := by
  rw [← List.map_set]; congr 1
  refine List.ext_getElem? fun j => ?_
  have e1 : (ds.take i).take k = ds.take i := by rw [List.take_take, Nat.min_eq_right (by omega)]
  have e2 : (ds.take (i + 1)).take k = ds.take (i + 1) := by rw [List.take_take, Nat.min_eq_right (by omega)]
  have l1 : (ds.take i).length = i := by rw [List.length_take]; omega
  have l2 : (ds.take (i + 1)).length = i + 1 := by rw [List.length_take]; omega
  simp only [cutL, e1, e2]
  rcases Nat.lt_trichotomy j i with q | q | q
  · rw [List.getElem?_set_ne (by omega), List.getElem?_append_left (by omega), List.getElem?_append_left (by omega), List.getElem?_take_of_lt q, List.getElem?_take_of_lt (by omega)]
  · subst q
    rw [List.getElem?_set_self (by simp; omega), List.getElem?_append_left (by omega), List.getElem?_take_of_lt (by omega), List.getD_eq_getElem?_getD, List.getElem?_eq_getElem h']; rfl
  · rw [List.getElem?_set_ne (by omega), List.getElem?_append_right (by omega), List.getElem?_append_right (by omega), l1, l2, List.getElem?_replicate, List.getElem?_replicate]
    by_cases r : j < k
    · rw [if_pos (by omega), if_pos (by omega)]
    · rw [if_neg (by omega), if_neg (by omega)]
theorem mem_getD {P : Int32 → Prop} {cs : List Int32} (h : ∀ c ∈ cs, P c) {i : Nat} (hi : i < cs.length) : P (cs.getD i 0) := by
  rw [List.getD_eq_getElem?_getD, List.getElem?_eq_getElem hi]; exact h _ (List.getElem_mem hi)
theorem all_set {P : Int32 → Prop} {cs : List Int32} (h : ∀ c ∈ cs, P c) {j : Nat} {v : Int32} (hv : P v) : ∀ c ∈ cs.set j v, P c := fun c hc => by
  rcases List.mem_or_eq_of_mem_set hc with q | rfl
  · exact h c q
  · exact hv
theorem d11_0 : decode jdk_42_method_149_code 0 = .ok (.aload_n 0, 1) := by decide +kernel
theorem d11_1 : decode jdk_42_method_149_code 1 = .ok (.invokespecial 1, 3) := by decide +kernel
theorem d11_4 : decode jdk_42_method_149_code 4 = .ok (.iload_n 3, 1) := by decide +kernel
theorem d11_5 : decode jdk_42_method_149_code 5 = .ok (.ifCond .ne 22, 3) := by decide +kernel
theorem d11_8 : decode jdk_42_method_149_code 8 = .ok (.aload_n 0, 1) := by decide +kernel
theorem d11_9 : decode jdk_42_method_149_code 9 = .ok (.ldc 7, 2) := by decide +kernel
theorem d11_11 : decode jdk_42_method_149_code 11 = .ok (.getfield 9, 3) := by decide +kernel
theorem d11_14 : decode jdk_42_method_149_code 14 = .ok (.putfield 9, 3) := by decide +kernel
theorem d11_17 : decode jdk_42_method_149_code 17 = .ok (.aload_n 0, 1) := by decide +kernel
theorem d11_18 : decode jdk_42_method_149_code 18 = .ok (.ldc 7, 2) := by decide +kernel
theorem d11_20 : decode jdk_42_method_149_code 20 = .ok (.getfield 15, 3) := by decide +kernel
theorem d11_23 : decode jdk_42_method_149_code 23 = .ok (.putfield 15, 3) := by decide +kernel
theorem d11_26 : decode jdk_42_method_149_code 26 = .ok (.return_, 1) := by decide +kernel
theorem pn_java_lang_String : plainName "java/lang/String" = true := by first | (simp [plainName, overriddenIn]; done) | decide +kernel
theorem ef_ct_si4e (x : Addr) (b : Addr) (v0 : Value) (c0 : Value) (m : MethodId) : entryFrame m #[(.ref x), (.ref b), (.int (0 : Int32)), (.int (0 : Int32)), Value.null] 6 = mkF m 0 #[.val (.ref x), .val (.ref b), .val (.int (0 : Int32)), .val (.int (0 : Int32)), .val Value.null, .unset] [] := by first | (simp [entryFrame, mkF, argsToLocals, Value.category]; done) | rfl
set_option maxRecDepth 65536 in
set_option maxHeartbeats 4000000 in
theorem ct_si4e {l : Launch} {Z : State} {a0 : Array Value} (G : Env1 Z a0) (x : Addr) (b : Addr) (v0 : Value) (c0 : Value) (h0 : Heap) (A : Exa Z h0 x STN) (F0 : Fld Z h0 x STN "value" "[B" v0) (F1 : Fld Z h0 x STN "coder" "B" c0) :
    Ct l Z EL1 [x] [] (⟨"java/lang/String", "<init>", "([CIILjava/lang/Void;)V"⟩ : MethodName) jdk_42_method_149_code 6 none ({ frames := 1, cells := 4, slots := 8, locals := 12 } : Room) #[(.ref x), (.ref b), (.int (0 : Int32)), (.int (0 : Int32)), Value.null] h0 (fun v h => v = none ∧ Keep h0 h [x] ∧ Str Z h x []) := by
  refine Ct.of_seg (a0 := a0) (plainFor_of_name pn_java_lang_String) G.2.1 (ef_ct_si4e x b v0 c0) ?_
  refine Seg.aloadN d11_0 rfl rfl (pc' := 1) rfl ?_
  refine Seg.initO (wd G 60 rfl) (wd G 61 rfl) (wd G 62 rfl) rfl d11_1 (pc' := 4) rfl (by decide) (W := 0) (Nat.le_of_eq rfl) (by decide) ?_
  refine Seg.iloadN d11_4 rfl (pc' := 5) rfl ?_
  refine Seg.ifN d11_5 (by decide) (pc' := 8) rfl ?_
  refine Seg.aloadN d11_8 rfl rfl (pc' := 9) rfl ?_
  refine Seg.ldcS (text := "") (vs := []) (z := 0) (nn := 0) (wd G 137 rfl) (wS G) (by decide) (by decide +kernel) (by decide) (by decide) d11_9 (pc' := 11) rfl (by decide) (by decide) (k' := 2) (n' := 4) rfl rfl (by decide) (by decide) ?_
  intro a_1 h_10 b_2 kb_3 E_4 A_5 F_6 F_7 A_8 ne_9
  refine Seg.getF (host := "") (Or.inl (wd G 13 rfl)) Via.refl F_7 d11_11 (pc' := 14) rfl ?_
  have F_11 := F0.ext E_4
  have F_12 := A.ext E_4
  refine Seg.putF (host := "") (ty := (.array .byte)) (v' := (.ref b_2)) (wd G 13 rfl) Via.refl F_11 F_12 (Or.inr ⟨(wd G 4 rfl), rfl, rfl⟩) (wd G 2 rfl) (by decide) rfl rfl (List.mem_of_getElem? (i := 0) rfl) d11_14 (pc' := 17) rfl ?_
  intro h_15 W_13 F_14
  refine Seg.aloadN d11_17 rfl rfl (pc' := 18) rfl ?_
  refine Seg.ldcS (text := "") (vs := []) (z := 0) (nn := 0) (wd G 137 rfl) (wS G) (by decide) (by decide +kernel) (by decide) (by decide) d11_18 (pc' := 20) rfl (by decide) (by decide) (k' := 4) (n' := 8) rfl rfl (by decide) (by decide) ?_
  intro a_16 h_25 b_17 kb_18 E_19 A_20 F_21 F_22 A_23 ne_24
  refine Seg.getF (host := "") (Or.inl (wd G 20 rfl)) Via.refl F_21 d11_20 (pc' := 23) rfl ?_
  have F_26 := (((F1.ext E_4).other W_13 (Or.inr (slot_ne (Or.inr (wd G 5 rfl)) (Or.inr (wd G 4 rfl)) (by decide) (t := .byte) (t' := (.array .byte)) (by decide) (by decide)))).ext E_19)
  have F_27 := ((F_12.wr W_13).ext E_19)
  refine Seg.putF (host := "") (ty := .byte) (v' := (.int (0 : Int32))) (wd G 20 rfl) Via.refl F_26 F_27 (Or.inr ⟨(wd G 5 rfl), rfl, rfl⟩) (wd G 2 rfl) (by decide) rfl rfl (List.mem_of_getElem? (i := 0) rfl) d11_23 (pc' := 26) rfl ?_
  intro h_30 W_28 F_29
  have F_31 := (F_27.wr W_28)
  have F_32 := ((F_14.ext E_19).other W_28 (Or.inr (slot_ne (Or.inr (wd G 4 rfl)) (Or.inr (wd G 5 rfl)) (by decide) (t := (.array .byte)) (t' := .byte) (by decide) (by decide))))
  have F_33 := (((A_8.keep (Keep.of_wr W_13) (ninS (ne_9 x (List.mem_of_getElem? (i := 0) rfl)).2.symm nin0)).ext E_19).keep (Keep.of_wr W_28) (ninS (ne_9 x (List.mem_of_getElem? (i := 0) rfl)).2.symm nin0))
  exact Seg.ret0 rfl d11_26 (by decide) (by decide) ⟨rfl, (((((Keep.refl h0 [x]).ext E_4).wr W_13 (Or.inl (List.mem_of_getElem? (i := 0) rfl))).ext E_19).wr W_28 (Or.inl (List.mem_of_getElem? (i := 0) rfl))), b_2, kb_3, 0, 0, [], F_31, F_32, F_29, F_33, Or.inl ⟨rfl, rfl, rfl, (fun c q => nomatch q)⟩, (fun c q => nomatch q), (by decide)⟩
theorem d10_0 : decode jdk_42_method_3_code 0 = .ok (.aload_n 0, 1) := by decide +kernel
theorem d10_1 : decode jdk_42_method_3_code 1 = .ok (.aload_n 1, 1) := by decide +kernel
theorem d10_2 : decode jdk_42_method_3_code 2 = .ok (.iconst 0, 1) := by decide +kernel
theorem d10_3 : decode jdk_42_method_3_code 3 = .ok (.aload_n 1, 1) := by decide +kernel
theorem d10_4 : decode jdk_42_method_3_code 4 = .ok (.arraylength, 1) := by decide +kernel
theorem d10_5 : decode jdk_42_method_3_code 5 = .ok (.aconst_null, 1) := by decide +kernel
theorem d10_6 : decode jdk_42_method_3_code 6 = .ok (.invokespecial 27, 3) := by decide +kernel
theorem pd_0 : parseMethodDescriptor "([CIILjava/lang/Void;)V" = some ⟨[(.array .char), .int, .int, (.object "java/lang/Void")], none⟩ := by decide +kernel
theorem d10_9 : decode jdk_42_method_3_code 9 = .ok (.return_, 1) := by decide +kernel
theorem ef_ct_sie (x : Addr) (b : Addr) (v0 : Value) (c0 : Value) (kc : ClassId) (d : Value) (m : MethodId) : entryFrame m #[(.ref x), (.ref b)] 2 = mkF m 0 #[.val (.ref x), .val (.ref b)] [] := by first | (simp [entryFrame, mkF, argsToLocals, Value.category]; done) | rfl
set_option maxRecDepth 65536 in
set_option maxHeartbeats 4000000 in
theorem ct_sie {l : Launch} {Z : State} {a0 : Array Value} (G : Env1 Z a0) (x : Addr) (b : Addr) (v0 : Value) (c0 : Value) (kc : ClassId) (d : Value) (h0 : Heap) (A : Exa Z h0 x STN) (F0 : Fld Z h0 x STN "value" "[B" v0) (F1 : Fld Z h0 x STN "coder" "B" c0) (Ab : Arv Z h0 b kc .char 0 [] d) :
    Ct l Z EL1 [x] [] (⟨"java/lang/String", "<init>", "([C)V"⟩ : MethodName) jdk_42_method_3_code 2 none ({ frames := 2, cells := 4, slots := 8, locals := 29 } : Room) #[(.ref x), (.ref b)] h0 (fun v h => v = none ∧ Keep h0 h [x] ∧ Str Z h x []) := by
  refine Ct.of_seg (a0 := a0) (plainFor_of_name pn_java_lang_String) G.2.1 (ef_ct_sie x b v0 c0 kc d) ?_
  refine Seg.aloadN d10_0 rfl rfl (pc' := 1) rfl ?_
  refine Seg.aloadN d10_1 rfl rfl (pc' := 2) rfl ?_
  refine Seg.iconst (v := 0) d10_2 (by decide) (pc' := 3) rfl ?_
  refine Seg.aloadN d10_3 rfl rfl (pc' := 4) rfl ?_
  refine Seg.alen Ab d10_4 (pc' := 5) rfl ?_
  refine Seg.anull d10_5 (pc' := 6) rfl ?_
  refine Seg.callN (y' := (⟨"java/lang/String", "<init>", "([CIILjava/lang/Void;)V"⟩ : MethodName)) (a := x) rfl (wd G 56 rfl) (wd G 57 rfl) (wd G 59 rfl) ⟨by decide, by decide⟩ (Pays.of_ct (W := 0) (ct_si4e G x b v0 c0 h0 A F0 F1) (allS (List.mem_of_getElem? (i := 0) rfl) all0) (wd G 59 rfl) (wd G 1 rfl) (by decide) (by decide) rfl rfl) (argsL := [(.ref b), (.int (0 : Int32)), (.int (0 : Int32)), Value.null]) (rest := []) rfl (lenOf pd_0 rfl) rfl (Nat.le_of_eq rfl) rfl d10_6 (pc' := 9) rfl (k' := 4) (n' := 8) rfl rfl (by decide) (by decide) ?_
  intro v_1 h_4 sz_2 q_3
  obtain ⟨rfl, K, F⟩ := q_3
  exact Seg.ret0 rfl d10_9 (by decide) (by decide) ⟨rfl, K, F⟩
theorem d3_0 : decode method_3_code 0 = .ok (.iload_n 1, 1) := by decide +kernel
theorem d3_1 : decode method_3_code 1 = .ok (.aload_n 0, 1) := by decide +kernel
theorem d3_2 : decode method_3_code 2 = .ok (.invokevirtual 13, 3) := by decide +kernel
theorem pd_1 : parseMethodDescriptor "()I" = some ⟨[], some .int⟩ := by decide +kernel
theorem d3_5 : decode method_3_code 5 = .ok (.if_icmp .ge 9, 3) := by decide +kernel
theorem d3_8 : decode method_3_code 8 = .ok (.aload_n 0, 1) := by decide +kernel
theorem d3_9 : decode method_3_code 9 = .ok (.iload_n 1, 1) := by decide +kernel
theorem d3_10 : decode method_3_code 10 = .ok (.invokevirtual 55, 3) := by decide +kernel
theorem pd_2 : parseMethodDescriptor "(I)C" = some ⟨[.int], some .char⟩ := by decide +kernel
theorem d3_13 : decode method_3_code 13 = .ok (.ireturn, 1) := by decide +kernel
theorem d3_14 : decode method_3_code 14 = .ok (.iload_n 1, 1) := by decide +kernel
theorem d3_15 : decode method_3_code 15 = .ok (.bipush 8, 2) := by decide +kernel
theorem d3_17 : decode method_3_code 17 = .ok (.if_icmp .ge 16, 3) := by decide +kernel
theorem d3_20 : decode method_3_code 20 = .ok (.lload_n 2, 1) := by decide +kernel
theorem d3_21 : decode method_3_code 21 = .ok (.bipush 8, 2) := by decide +kernel
theorem d3_23 : decode method_3_code 23 = .ok (.iload_n 1, 1) := by decide +kernel
theorem d3_24 : decode method_3_code 24 = .ok (.imul, 1) := by decide +kernel
theorem d3_25 : decode method_3_code 25 = .ok (.lushr, 1) := by decide +kernel
theorem d3_26 : decode method_3_code 26 = .ok (.ldc2_w 59, 3) := by decide +kernel
theorem d3_29 : decode method_3_code 29 = .ok (.land, 1) := by decide +kernel
theorem d3_30 : decode method_3_code 30 = .ok (.l2i, 1) := by decide +kernel
theorem d3_31 : decode method_3_code 31 = .ok (.i2c, 1) := by decide +kernel
theorem d3_32 : decode method_3_code 32 = .ok (.ireturn, 1) := by decide +kernel
theorem d3_33 : decode method_3_code 33 = .ok (.lload 4, 2) := by decide +kernel
theorem d3_35 : decode method_3_code 35 = .ok (.bipush 8, 2) := by decide +kernel
theorem d3_37 : decode method_3_code 37 = .ok (.iload_n 1, 1) := by decide +kernel
theorem d3_38 : decode method_3_code 38 = .ok (.bipush 8, 2) := by decide +kernel
theorem d3_40 : decode method_3_code 40 = .ok (.isub, 1) := by decide +kernel
theorem d3_41 : decode method_3_code 41 = .ok (.imul, 1) := by decide +kernel
theorem d3_42 : decode method_3_code 42 = .ok (.lushr, 1) := by decide +kernel
theorem d3_43 : decode method_3_code 43 = .ok (.ldc2_w 59, 3) := by decide +kernel
theorem d3_46 : decode method_3_code 46 = .ok (.land, 1) := by decide +kernel
theorem d3_47 : decode method_3_code 47 = .ok (.l2i, 1) := by decide +kernel
theorem d3_48 : decode method_3_code 48 = .ok (.i2c, 1) := by decide +kernel
theorem d3_49 : decode method_3_code 49 = .ok (.ireturn, 1) := by decide +kernel
theorem pn_com_example_wardn_wardn_rules_ErrorClassNamedPinLaw : plainName "com/example/wardn/wardn/rules/ErrorClassNamedPinLaw" = true := by first | (simp [plainName, overriddenIn]; done) | decide +kernel
theorem ef_ct_pick (a : Addr) (bs : List Int32) (i : Nat) (b : Int64) (c : Int64) (m : MethodId) : entryFrame m #[(.ref a), (.int (Int32.ofNat i)), (.long b), (.long c)] 6 = mkF m 0 #[.val (.ref a), .val (.int (Int32.ofNat i)), .val (.long b), .second, .val (.long c), .second] [] := by first | (simp [entryFrame, mkF, argsToLocals, Value.category]; done) | rfl
set_option maxRecDepth 65536 in
set_option maxHeartbeats 4000000 in
theorem ct_pick {l : Launch} {Z : State} {a0 : Array Value} (G : Env1 Z a0) (a : Addr) (bs : List Int32) (i : Nat) (b : Int64) (c : Int64) (h0 : Heap) (F : Str Z h0 a bs) (hb : ∀ c ∈ bs, ¬ c < 0 ∧ ¬ (255 : Int32) < c) (hl : bs.length ≤ 12) (hi : i < 13) :
    Ct l Z EL1 [] [] (⟨"com/example/wardn/wardn/rules/ErrorClassNamedPinLaw", "pick", "(Ljava/lang/String;IJJ)C"⟩ : MethodName) method_3_code 6 (some .char) ({ frames := 4, cells := 0, slots := 0, locals := 53 } : Room) #[(.ref a), (.int (Int32.ofNat i)), (.long b), (.long c)] h0 (fun v h => ∃ r : Int32, v = some (.int r) ∧ h0 = h ∧ (¬ r < 0 ∧ ¬ (255 : Int32) < r)) := by
  refine Ct.of_seg (a0 := a0) (plainFor_of_name pn_com_example_wardn_wardn_rules_ErrorClassNamedPinLaw) G.2.1 (ef_ct_pick a bs i b c) ?_
  have f1 := F.exa
  refine Seg.iloadN d3_0 rfl (pc' := 1) rfl ?_
  refine Seg.aloadN d3_1 rfl rfl (pc' := 2) rfl ?_
  refine Seg.callV (y' := (⟨"java/lang/String", "length", "()I"⟩ : MethodName)) (z := (⟨"java/lang/String", "length", "()I"⟩ : MethodName)) (a := a) (wd G 8 rfl) (wd G 9 rfl) (nf_sel (wd G 11 rfl)) (wd G 11 rfl) (wd G 10 rfl) ⟨by decide, by decide⟩ f1 (pays_len (W := 1) G h0 F (by decide) (by decide)) (argsL := []) (rest := [(.int (Int32.ofNat i))]) rfl (lenOf pd_1 rfl) rfl (Nat.le_of_eq rfl) rfl d3_2 (pc' := 5) rfl (k' := 0) (n' := 0) rfl rfl (by decide) (by decide) ?_
  intro v_1 h_4 sz_2 q_3
  obtain ⟨rfl, rfl⟩ := q_3
  by_cases h1 : i < bs.length
  · refine Seg.icN d3_5 (XT.ii_ge_f (n32lt h1 (by omega))) (pc' := 8) rfl ?_
    refine Seg.aloadN d3_8 rfl rfl (pc' := 9) rfl ?_
    refine Seg.iloadN d3_9 rfl (pc' := 10) rfl ?_
    refine Seg.callV (y' := (⟨"java/lang/String", "charAt", "(I)C"⟩ : MethodName)) (z := (⟨"java/lang/String", "charAt", "(I)C"⟩ : MethodName)) (a := a) (wd G 26 rfl) (wd G 27 rfl) (nf_sel (wd G 29 rfl)) (wd G 29 rfl) (wd G 28 rfl) ⟨by decide, by decide⟩ f1 (pays_chr (W := 0) G h0 i F (fun c q => (hb c q).2) h1 rfl (by decide) (by decide)) (argsL := [(.int (Int32.ofNat i))]) (rest := []) rfl (lenOf pd_2 rfl) rfl (Nat.le_of_eq rfl) rfl d3_10 (pc' := 13) rfl (k' := 0) (n' := 0) rfl rfl (by decide) (by decide) ?_
    intro v_5 h_8 sz_6 q_7
    obtain ⟨rfl, rfl⟩ := q_7
    exact Seg.retN (t := .char) (w := (bs.getD i 0)) rfl (by decide) (nar255 (mem_getD hb h1)) d3_13 (by decide) (by decide) ⟨_, rfl, rfl, mem_getD hb h1⟩
  · refine Seg.icY (pc' := 14) d3_5 (XT.ii_ge_t (n32nlt (by omega) (by omega))) (by decide) (by decide) ?_
    refine Seg.iloadN d3_14 rfl (pc' := 15) rfl ?_
    refine Seg.bipush (v := 8) d3_15 (by decide) (pc' := 17) rfl ?_
    by_cases h2 : i < 8
    · refine Seg.icN d3_17 (XT.ii_ge_f (n32lt (n := 8) h2 (by decide))) (pc' := 20) rfl ?_
      refine Seg.lloadN d3_20 rfl (pc' := 21) rfl ?_
      refine Seg.bipush (v := 8) d3_21 (by decide) (pc' := 23) rfl ?_
      refine Seg.iloadN d3_23 rfl (pc' := 24) rfl ?_
      refine Seg.imul (v := ((8 : Int32) * (Int32.ofNat i))) d3_24 rfl (pc' := 25) rfl ?_
      refine Seg.lushr (v := (XT.ushrL b ((8 : Int32) * (Int32.ofNat i)))) d3_25 rfl (pc' := 26) rfl ?_
      refine Seg.ldc2J (wd G 48 rfl) d3_26 (pc' := 29) rfl ?_
      refine Seg.land (v := ((XT.ushrL b ((8 : Int32) * (Int32.ofNat i))) &&& (255 : Int64))) d3_29 rfl (pc' := 30) rfl ?_
      refine Seg.l2i (v := (((XT.ushrL b ((8 : Int32) * (Int32.ofNat i))) &&& (255 : Int64))).toInt32) d3_30 rfl (pc' := 31) rfl ?_
      refine Seg.i2c (v := ((((XT.ushrL b ((8 : Int32) * (Int32.ofNat i))) &&& (255 : Int64))).toInt32).toUInt32.toUInt16.toUInt32.toInt32) d3_31 rfl (pc' := 32) rfl ?_
      exact Seg.retN (t := .char) (w := ((((XT.ushrL b ((8 : Int32) * (Int32.ofNat i))) &&& (255 : Int64))).toInt32).toUInt32.toUInt16.toUInt32.toInt32) rfl (by decide) (nar255 (b255L _)) d3_32 (by decide) (by decide) ⟨_, rfl, rfl, b255L _⟩
    · refine Seg.icY (pc' := 33) d3_17 (XT.ii_ge_t (n32nlt (n := 8) (by omega) (by omega))) (by decide) (by decide) ?_
      refine Seg.lload d3_33 rfl (pc' := 35) rfl ?_
      refine Seg.bipush (v := 8) d3_35 (by decide) (pc' := 37) rfl ?_
      refine Seg.iloadN d3_37 rfl (pc' := 38) rfl ?_
      refine Seg.bipush (v := 8) d3_38 (by decide) (pc' := 40) rfl ?_
      refine Seg.isub (v := ((Int32.ofNat i) - (8 : Int32))) d3_40 rfl (pc' := 41) rfl ?_
      refine Seg.imul (v := ((8 : Int32) * ((Int32.ofNat i) - (8 : Int32)))) d3_41 rfl (pc' := 42) rfl ?_
      refine Seg.lushr (v := (XT.ushrL c ((8 : Int32) * ((Int32.ofNat i) - (8 : Int32))))) d3_42 rfl (pc' := 43) rfl ?_
      refine Seg.ldc2J (wd G 48 rfl) d3_43 (pc' := 46) rfl ?_
      refine Seg.land (v := ((XT.ushrL c ((8 : Int32) * ((Int32.ofNat i) - (8 : Int32)))) &&& (255 : Int64))) d3_46 rfl (pc' := 47) rfl ?_
      refine Seg.l2i (v := (((XT.ushrL c ((8 : Int32) * ((Int32.ofNat i) - (8 : Int32)))) &&& (255 : Int64))).toInt32) d3_47 rfl (pc' := 48) rfl ?_
      refine Seg.i2c (v := ((((XT.ushrL c ((8 : Int32) * ((Int32.ofNat i) - (8 : Int32)))) &&& (255 : Int64))).toInt32).toUInt32.toUInt16.toUInt32.toInt32) d3_48 rfl (pc' := 49) rfl ?_
      exact Seg.retN (t := .char) (w := ((((XT.ushrL c ((8 : Int32) * ((Int32.ofNat i) - (8 : Int32)))) &&& (255 : Int64))).toInt32).toUInt32.toUInt16.toUInt32.toInt32) rfl (by decide) (nar255 (b255L _)) d3_49 (by decide) (by decide) ⟨_, rfl, rfl, b255L _⟩
theorem d9_167 : decode method_4_code 167 = .ok (.aload_n 2, 1) := by decide +kernel
theorem d9_168 : decode method_4_code 168 = .ok (.areturn, 1) := by decide +kernel
set_option maxRecDepth 65536 in
set_option maxHeartbeats 4000000 in
theorem lp_cut13 {l : Launch} {Z : State} {a0 : Array Value} (G : Env1 Z a0) (b r : Addr) (kb kr : ClassId) (ds : List Int32) (k : Nat) (hd : ds.length = 13) (hc : ∀ c ∈ ds, ¬ c < 0 ∧ ¬ (255 : Int32) < c) (hk : k ≤ 13) (h0 : Heap) (h : Heap) (hne : b ≠ r) (E0 : Ext h0 h) (hr : h0.size ≤ r) (K : Arv Z h b kb .char 13 (ds.map Value.int) (.int 0)) (K2 : Arv Z h r kr .char (Int32.ofNat k) ((cutL ds k 13).map Value.int) (.int 0)) :
    Seg l Z a0 EL1 (⟨"com/example/wardn/wardn/rules/ErrorClassNamedPinLaw", "cut", "([CI)[C"⟩ : MethodName) method_4_code 3 (some (.array .char)) ({ frames := 0, cells := 1, slots := 13, locals := 0 } : Room) (fun v h => ∃ (r : Addr) (kr : ClassId), v = some (.ref r) ∧ Ext h0 h ∧ h0.size ≤ r ∧ Arv Z h r kr .char (Int32.ofNat k) ((ds.take k).map Value.int) (.int 0)) h 1 13 [r] 167 #[.val (.ref b), .val (.int (Int32.ofNat k)), .val (.ref r)] [] := by
  refine Seg.aloadN d9_167 rfl rfl (pc' := 168) rfl ?_
  exact Seg.retA rfl rfl rfl d9_168 (by decide) (by decide) ⟨r, kr, rfl, E0, hr, cutL_all ds k 13 hk ▸ K2⟩
theorem d9_153 : decode method_4_code 153 = .ok (.iload_n 1, 1) := by decide +kernel
theorem d9_154 : decode method_4_code 154 = .ok (.bipush 12, 2) := by decide +kernel
theorem d9_156 : decode method_4_code 156 = .ok (.if_icmp .le 11, 3) := by decide +kernel
theorem d9_159 : decode method_4_code 159 = .ok (.aload_n 2, 1) := by decide +kernel
theorem d9_160 : decode method_4_code 160 = .ok (.bipush 12, 2) := by decide +kernel
theorem d9_162 : decode method_4_code 162 = .ok (.aload_n 0, 1) := by decide +kernel
theorem d9_163 : decode method_4_code 163 = .ok (.bipush 12, 2) := by decide +kernel
theorem d9_165 : decode method_4_code 165 = .ok (.caload, 1) := by decide +kernel
theorem d9_166 : decode method_4_code 166 = .ok (.castore, 1) := by decide +kernel
set_option maxRecDepth 65536 in
set_option maxHeartbeats 4000000 in
theorem lp_cut12 {l : Launch} {Z : State} {a0 : Array Value} (G : Env1 Z a0) (b r : Addr) (kb kr : ClassId) (ds : List Int32) (k : Nat) (hd : ds.length = 13) (hc : ∀ c ∈ ds, ¬ c < 0 ∧ ¬ (255 : Int32) < c) (hk : k ≤ 13) (h0 : Heap) (h : Heap) (hne : b ≠ r) (E0 : Ext h0 h) (hr : h0.size ≤ r) (K : Arv Z h b kb .char 13 (ds.map Value.int) (.int 0)) (K2 : Arv Z h r kr .char (Int32.ofNat k) ((cutL ds k 12).map Value.int) (.int 0)) :
    Seg l Z a0 EL1 (⟨"com/example/wardn/wardn/rules/ErrorClassNamedPinLaw", "cut", "([CI)[C"⟩ : MethodName) method_4_code 3 (some (.array .char)) ({ frames := 0, cells := 1, slots := 13, locals := 0 } : Room) (fun v h => ∃ (r : Addr) (kr : ClassId), v = some (.ref r) ∧ Ext h0 h ∧ h0.size ≤ r ∧ Arv Z h r kr .char (Int32.ofNat k) ((ds.take k).map Value.int) (.int 0)) h 1 13 [r] 153 #[.val (.ref b), .val (.int (Int32.ofNat k)), .val (.ref r)] [] := by
  refine Seg.iloadN d9_153 rfl (pc' := 154) rfl ?_
  refine Seg.bipush (v := 12) d9_154 (by decide) (pc' := 156) rfl ?_
  by_cases h1 : 12 < k
  · refine Seg.icN d9_156 (XT.ii_le_f (n32lt (i := 12) h1 (by omega))) (pc' := 159) rfl ?_
    refine Seg.aloadN d9_159 rfl rfl (pc' := 160) rfl ?_
    refine Seg.bipush (v := 12) d9_160 (by decide) (pc' := 162) rfl ?_
    refine Seg.aloadN d9_162 rfl rfl (pc' := 163) rfl ?_
    refine Seg.bipush (v := 12) d9_163 (by decide) (pc' := 165) rfl ?_
    refine Seg.caload (v := (.int (ds.getD 12 0))) K ⟨by decide, by decide⟩ (getDmap _ _ 12 _ _ (by omega)) d9_165 (pc' := 166) rfl ?_
    refine Seg.castore (v' := ds.getD 12 0) (i := 12) K2 ⟨by decide, n32lt (i := 12) h1 (by omega)⟩ rfl (by rw [List.length_map, cutL_len _ _ _ (by omega)]; exact h1) (nar255 (mem_getD hc (by omega))) (List.mem_of_getElem? (i := 0) rfl) d9_166 (pc' := 167) rfl ?_
    intro h' W A
    rw [cutL_set ds k 12 h1 (by omega)] at A
    exact lp_cut13 G b r kb kr ds k hd hc hk h0 h' hne (ext_wr E0 W hr) hr (K.keep (Keep.of_wr W) (ninS hne nin0)) A
  · refine Seg.icY (pc' := 167) d9_156 (XT.ii_le_t (n32nlt (i := 12) (by omega) (by omega))) (by decide) (by decide) ?_
    rw [cutL_ge ds k 12 13 (by omega) (by omega)] at K2
    exact lp_cut13 G b r kb kr ds k hd hc hk h0 h hne E0 hr K K2
theorem d9_139 : decode method_4_code 139 = .ok (.iload_n 1, 1) := by decide +kernel
theorem d9_140 : decode method_4_code 140 = .ok (.bipush 11, 2) := by decide +kernel
theorem d9_142 : decode method_4_code 142 = .ok (.if_icmp .le 11, 3) := by decide +kernel
theorem d9_145 : decode method_4_code 145 = .ok (.aload_n 2, 1) := by decide +kernel
theorem d9_146 : decode method_4_code 146 = .ok (.bipush 11, 2) := by decide +kernel
theorem d9_148 : decode method_4_code 148 = .ok (.aload_n 0, 1) := by decide +kernel
theorem d9_149 : decode method_4_code 149 = .ok (.bipush 11, 2) := by decide +kernel
theorem d9_151 : decode method_4_code 151 = .ok (.caload, 1) := by decide +kernel
theorem d9_152 : decode method_4_code 152 = .ok (.castore, 1) := by decide +kernel
set_option maxRecDepth 65536 in
set_option maxHeartbeats 4000000 in
theorem lp_cut11 {l : Launch} {Z : State} {a0 : Array Value} (G : Env1 Z a0) (b r : Addr) (kb kr : ClassId) (ds : List Int32) (k : Nat) (hd : ds.length = 13) (hc : ∀ c ∈ ds, ¬ c < 0 ∧ ¬ (255 : Int32) < c) (hk : k ≤ 13) (h0 : Heap) (h : Heap) (hne : b ≠ r) (E0 : Ext h0 h) (hr : h0.size ≤ r) (K : Arv Z h b kb .char 13 (ds.map Value.int) (.int 0)) (K2 : Arv Z h r kr .char (Int32.ofNat k) ((cutL ds k 11).map Value.int) (.int 0)) :
    Seg l Z a0 EL1 (⟨"com/example/wardn/wardn/rules/ErrorClassNamedPinLaw", "cut", "([CI)[C"⟩ : MethodName) method_4_code 3 (some (.array .char)) ({ frames := 0, cells := 1, slots := 13, locals := 0 } : Room) (fun v h => ∃ (r : Addr) (kr : ClassId), v = some (.ref r) ∧ Ext h0 h ∧ h0.size ≤ r ∧ Arv Z h r kr .char (Int32.ofNat k) ((ds.take k).map Value.int) (.int 0)) h 1 13 [r] 139 #[.val (.ref b), .val (.int (Int32.ofNat k)), .val (.ref r)] [] := by
  refine Seg.iloadN d9_139 rfl (pc' := 140) rfl ?_
  refine Seg.bipush (v := 11) d9_140 (by decide) (pc' := 142) rfl ?_
  by_cases h1 : 11 < k
  · refine Seg.icN d9_142 (XT.ii_le_f (n32lt (i := 11) h1 (by omega))) (pc' := 145) rfl ?_
    refine Seg.aloadN d9_145 rfl rfl (pc' := 146) rfl ?_
    refine Seg.bipush (v := 11) d9_146 (by decide) (pc' := 148) rfl ?_
    refine Seg.aloadN d9_148 rfl rfl (pc' := 149) rfl ?_
    refine Seg.bipush (v := 11) d9_149 (by decide) (pc' := 151) rfl ?_
    refine Seg.caload (v := (.int (ds.getD 11 0))) K ⟨by decide, by decide⟩ (getDmap _ _ 11 _ _ (by omega)) d9_151 (pc' := 152) rfl ?_
    refine Seg.castore (v' := ds.getD 11 0) (i := 11) K2 ⟨by decide, n32lt (i := 11) h1 (by omega)⟩ rfl (by rw [List.length_map, cutL_len _ _ _ (by omega)]; exact h1) (nar255 (mem_getD hc (by omega))) (List.mem_of_getElem? (i := 0) rfl) d9_152 (pc' := 153) rfl ?_
    intro h' W A
    rw [cutL_set ds k 11 h1 (by omega)] at A
    exact lp_cut12 G b r kb kr ds k hd hc hk h0 h' hne (ext_wr E0 W hr) hr (K.keep (Keep.of_wr W) (ninS hne nin0)) A
  · refine Seg.icY (pc' := 153) d9_142 (XT.ii_le_t (n32nlt (i := 11) (by omega) (by omega))) (by decide) (by decide) ?_
    rw [cutL_ge ds k 11 12 (by omega) (by omega)] at K2
    exact lp_cut12 G b r kb kr ds k hd hc hk h0 h hne E0 hr K K2
theorem d9_125 : decode method_4_code 125 = .ok (.iload_n 1, 1) := by decide +kernel
theorem d9_126 : decode method_4_code 126 = .ok (.bipush 10, 2) := by decide +kernel
theorem d9_128 : decode method_4_code 128 = .ok (.if_icmp .le 11, 3) := by decide +kernel
theorem d9_131 : decode method_4_code 131 = .ok (.aload_n 2, 1) := by decide +kernel
theorem d9_132 : decode method_4_code 132 = .ok (.bipush 10, 2) := by decide +kernel
theorem d9_134 : decode method_4_code 134 = .ok (.aload_n 0, 1) := by decide +kernel
theorem d9_135 : decode method_4_code 135 = .ok (.bipush 10, 2) := by decide +kernel
theorem d9_137 : decode method_4_code 137 = .ok (.caload, 1) := by decide +kernel
theorem d9_138 : decode method_4_code 138 = .ok (.castore, 1) := by decide +kernel
set_option maxRecDepth 65536 in
set_option maxHeartbeats 4000000 in
theorem lp_cut10 {l : Launch} {Z : State} {a0 : Array Value} (G : Env1 Z a0) (b r : Addr) (kb kr : ClassId) (ds : List Int32) (k : Nat) (hd : ds.length = 13) (hc : ∀ c ∈ ds, ¬ c < 0 ∧ ¬ (255 : Int32) < c) (hk : k ≤ 13) (h0 : Heap) (h : Heap) (hne : b ≠ r) (E0 : Ext h0 h) (hr : h0.size ≤ r) (K : Arv Z h b kb .char 13 (ds.map Value.int) (.int 0)) (K2 : Arv Z h r kr .char (Int32.ofNat k) ((cutL ds k 10).map Value.int) (.int 0)) :
    Seg l Z a0 EL1 (⟨"com/example/wardn/wardn/rules/ErrorClassNamedPinLaw", "cut", "([CI)[C"⟩ : MethodName) method_4_code 3 (some (.array .char)) ({ frames := 0, cells := 1, slots := 13, locals := 0 } : Room) (fun v h => ∃ (r : Addr) (kr : ClassId), v = some (.ref r) ∧ Ext h0 h ∧ h0.size ≤ r ∧ Arv Z h r kr .char (Int32.ofNat k) ((ds.take k).map Value.int) (.int 0)) h 1 13 [r] 125 #[.val (.ref b), .val (.int (Int32.ofNat k)), .val (.ref r)] [] := by
  refine Seg.iloadN d9_125 rfl (pc' := 126) rfl ?_
  refine Seg.bipush (v := 10) d9_126 (by decide) (pc' := 128) rfl ?_
  by_cases h1 : 10 < k
  · refine Seg.icN d9_128 (XT.ii_le_f (n32lt (i := 10) h1 (by omega))) (pc' := 131) rfl ?_
    refine Seg.aloadN d9_131 rfl rfl (pc' := 132) rfl ?_
    refine Seg.bipush (v := 10) d9_132 (by decide) (pc' := 134) rfl ?_
    refine Seg.aloadN d9_134 rfl rfl (pc' := 135) rfl ?_
    refine Seg.bipush (v := 10) d9_135 (by decide) (pc' := 137) rfl ?_
    refine Seg.caload (v := (.int (ds.getD 10 0))) K ⟨by decide, by decide⟩ (getDmap _ _ 10 _ _ (by omega)) d9_137 (pc' := 138) rfl ?_
    refine Seg.castore (v' := ds.getD 10 0) (i := 10) K2 ⟨by decide, n32lt (i := 10) h1 (by omega)⟩ rfl (by rw [List.length_map, cutL_len _ _ _ (by omega)]; exact h1) (nar255 (mem_getD hc (by omega))) (List.mem_of_getElem? (i := 0) rfl) d9_138 (pc' := 139) rfl ?_
    intro h' W A
    rw [cutL_set ds k 10 h1 (by omega)] at A
    exact lp_cut11 G b r kb kr ds k hd hc hk h0 h' hne (ext_wr E0 W hr) hr (K.keep (Keep.of_wr W) (ninS hne nin0)) A
  · refine Seg.icY (pc' := 139) d9_128 (XT.ii_le_t (n32nlt (i := 10) (by omega) (by omega))) (by decide) (by decide) ?_
    rw [cutL_ge ds k 10 11 (by omega) (by omega)] at K2
    exact lp_cut11 G b r kb kr ds k hd hc hk h0 h hne E0 hr K K2
theorem d9_111 : decode method_4_code 111 = .ok (.iload_n 1, 1) := by decide +kernel
theorem d9_112 : decode method_4_code 112 = .ok (.bipush 9, 2) := by decide +kernel
theorem d9_114 : decode method_4_code 114 = .ok (.if_icmp .le 11, 3) := by decide +kernel
theorem d9_117 : decode method_4_code 117 = .ok (.aload_n 2, 1) := by decide +kernel
theorem d9_118 : decode method_4_code 118 = .ok (.bipush 9, 2) := by decide +kernel
theorem d9_120 : decode method_4_code 120 = .ok (.aload_n 0, 1) := by decide +kernel
theorem d9_121 : decode method_4_code 121 = .ok (.bipush 9, 2) := by decide +kernel
theorem d9_123 : decode method_4_code 123 = .ok (.caload, 1) := by decide +kernel
theorem d9_124 : decode method_4_code 124 = .ok (.castore, 1) := by decide +kernel
set_option maxRecDepth 65536 in
set_option maxHeartbeats 4000000 in
theorem lp_cut9 {l : Launch} {Z : State} {a0 : Array Value} (G : Env1 Z a0) (b r : Addr) (kb kr : ClassId) (ds : List Int32) (k : Nat) (hd : ds.length = 13) (hc : ∀ c ∈ ds, ¬ c < 0 ∧ ¬ (255 : Int32) < c) (hk : k ≤ 13) (h0 : Heap) (h : Heap) (hne : b ≠ r) (E0 : Ext h0 h) (hr : h0.size ≤ r) (K : Arv Z h b kb .char 13 (ds.map Value.int) (.int 0)) (K2 : Arv Z h r kr .char (Int32.ofNat k) ((cutL ds k 9).map Value.int) (.int 0)) :
    Seg l Z a0 EL1 (⟨"com/example/wardn/wardn/rules/ErrorClassNamedPinLaw", "cut", "([CI)[C"⟩ : MethodName) method_4_code 3 (some (.array .char)) ({ frames := 0, cells := 1, slots := 13, locals := 0 } : Room) (fun v h => ∃ (r : Addr) (kr : ClassId), v = some (.ref r) ∧ Ext h0 h ∧ h0.size ≤ r ∧ Arv Z h r kr .char (Int32.ofNat k) ((ds.take k).map Value.int) (.int 0)) h 1 13 [r] 111 #[.val (.ref b), .val (.int (Int32.ofNat k)), .val (.ref r)] [] := by
  refine Seg.iloadN d9_111 rfl (pc' := 112) rfl ?_
  refine Seg.bipush (v := 9) d9_112 (by decide) (pc' := 114) rfl ?_
  by_cases h1 : 9 < k
  · refine Seg.icN d9_114 (XT.ii_le_f (n32lt (i := 9) h1 (by omega))) (pc' := 117) rfl ?_
    refine Seg.aloadN d9_117 rfl rfl (pc' := 118) rfl ?_
    refine Seg.bipush (v := 9) d9_118 (by decide) (pc' := 120) rfl ?_
    refine Seg.aloadN d9_120 rfl rfl (pc' := 121) rfl ?_
    refine Seg.bipush (v := 9) d9_121 (by decide) (pc' := 123) rfl ?_
    refine Seg.caload (v := (.int (ds.getD 9 0))) K ⟨by decide, by decide⟩ (getDmap _ _ 9 _ _ (by omega)) d9_123 (pc' := 124) rfl ?_
    refine Seg.castore (v' := ds.getD 9 0) (i := 9) K2 ⟨by decide, n32lt (i := 9) h1 (by omega)⟩ rfl (by rw [List.length_map, cutL_len _ _ _ (by omega)]; exact h1) (nar255 (mem_getD hc (by omega))) (List.mem_of_getElem? (i := 0) rfl) d9_124 (pc' := 125) rfl ?_
    intro h' W A
    rw [cutL_set ds k 9 h1 (by omega)] at A
    exact lp_cut10 G b r kb kr ds k hd hc hk h0 h' hne (ext_wr E0 W hr) hr (K.keep (Keep.of_wr W) (ninS hne nin0)) A
  · refine Seg.icY (pc' := 125) d9_114 (XT.ii_le_t (n32nlt (i := 9) (by omega) (by omega))) (by decide) (by decide) ?_
    rw [cutL_ge ds k 9 10 (by omega) (by omega)] at K2
    exact lp_cut10 G b r kb kr ds k hd hc hk h0 h hne E0 hr K K2
theorem d9_97 : decode method_4_code 97 = .ok (.iload_n 1, 1) := by decide +kernel
theorem d9_98 : decode method_4_code 98 = .ok (.bipush 8, 2) := by decide +kernel
theorem d9_100 : decode method_4_code 100 = .ok (.if_icmp .le 11, 3) := by decide +kernel
theorem d9_103 : decode method_4_code 103 = .ok (.aload_n 2, 1) := by decide +kernel
theorem d9_104 : decode method_4_code 104 = .ok (.bipush 8, 2) := by decide +kernel
theorem d9_106 : decode method_4_code 106 = .ok (.aload_n 0, 1) := by decide +kernel
theorem d9_107 : decode method_4_code 107 = .ok (.bipush 8, 2) := by decide +kernel
theorem d9_109 : decode method_4_code 109 = .ok (.caload, 1) := by decide +kernel
theorem d9_110 : decode method_4_code 110 = .ok (.castore, 1) := by decide +kernel
set_option maxRecDepth 65536 in
set_option maxHeartbeats 4000000 in
theorem lp_cut8 {l : Launch} {Z : State} {a0 : Array Value} (G : Env1 Z a0) (b r : Addr) (kb kr : ClassId) (ds : List Int32) (k : Nat) (hd : ds.length = 13) (hc : ∀ c ∈ ds, ¬ c < 0 ∧ ¬ (255 : Int32) < c) (hk : k ≤ 13) (h0 : Heap) (h : Heap) (hne : b ≠ r) (E0 : Ext h0 h) (hr : h0.size ≤ r) (K : Arv Z h b kb .char 13 (ds.map Value.int) (.int 0)) (K2 : Arv Z h r kr .char (Int32.ofNat k) ((cutL ds k 8).map Value.int) (.int 0)) :
    Seg l Z a0 EL1 (⟨"com/example/wardn/wardn/rules/ErrorClassNamedPinLaw", "cut", "([CI)[C"⟩ : MethodName) method_4_code 3 (some (.array .char)) ({ frames := 0, cells := 1, slots := 13, locals := 0 } : Room) (fun v h => ∃ (r : Addr) (kr : ClassId), v = some (.ref r) ∧ Ext h0 h ∧ h0.size ≤ r ∧ Arv Z h r kr .char (Int32.ofNat k) ((ds.take k).map Value.int) (.int 0)) h 1 13 [r] 97 #[.val (.ref b), .val (.int (Int32.ofNat k)), .val (.ref r)] [] := by
  refine Seg.iloadN d9_97 rfl (pc' := 98) rfl ?_
  refine Seg.bipush (v := 8) d9_98 (by decide) (pc' := 100) rfl ?_
  by_cases h1 : 8 < k
  · refine Seg.icN d9_100 (XT.ii_le_f (n32lt (i := 8) h1 (by omega))) (pc' := 103) rfl ?_
    refine Seg.aloadN d9_103 rfl rfl (pc' := 104) rfl ?_
    refine Seg.bipush (v := 8) d9_104 (by decide) (pc' := 106) rfl ?_
    refine Seg.aloadN d9_106 rfl rfl (pc' := 107) rfl ?_
    refine Seg.bipush (v := 8) d9_107 (by decide) (pc' := 109) rfl ?_
    refine Seg.caload (v := (.int (ds.getD 8 0))) K ⟨by decide, by decide⟩ (getDmap _ _ 8 _ _ (by omega)) d9_109 (pc' := 110) rfl ?_
    refine Seg.castore (v' := ds.getD 8 0) (i := 8) K2 ⟨by decide, n32lt (i := 8) h1 (by omega)⟩ rfl (by rw [List.length_map, cutL_len _ _ _ (by omega)]; exact h1) (nar255 (mem_getD hc (by omega))) (List.mem_of_getElem? (i := 0) rfl) d9_110 (pc' := 111) rfl ?_
    intro h' W A
    rw [cutL_set ds k 8 h1 (by omega)] at A
    exact lp_cut9 G b r kb kr ds k hd hc hk h0 h' hne (ext_wr E0 W hr) hr (K.keep (Keep.of_wr W) (ninS hne nin0)) A
  · refine Seg.icY (pc' := 111) d9_100 (XT.ii_le_t (n32nlt (i := 8) (by omega) (by omega))) (by decide) (by decide) ?_
    rw [cutL_ge ds k 8 9 (by omega) (by omega)] at K2
    exact lp_cut9 G b r kb kr ds k hd hc hk h0 h hne E0 hr K K2
theorem d9_83 : decode method_4_code 83 = .ok (.iload_n 1, 1) := by decide +kernel
theorem d9_84 : decode method_4_code 84 = .ok (.bipush 7, 2) := by decide +kernel
theorem d9_86 : decode method_4_code 86 = .ok (.if_icmp .le 11, 3) := by decide +kernel
theorem d9_89 : decode method_4_code 89 = .ok (.aload_n 2, 1) := by decide +kernel
theorem d9_90 : decode method_4_code 90 = .ok (.bipush 7, 2) := by decide +kernel
theorem d9_92 : decode method_4_code 92 = .ok (.aload_n 0, 1) := by decide +kernel
theorem d9_93 : decode method_4_code 93 = .ok (.bipush 7, 2) := by decide +kernel
theorem d9_95 : decode method_4_code 95 = .ok (.caload, 1) := by decide +kernel
theorem d9_96 : decode method_4_code 96 = .ok (.castore, 1) := by decide +kernel
set_option maxRecDepth 65536 in
set_option maxHeartbeats 4000000 in
theorem lp_cut7 {l : Launch} {Z : State} {a0 : Array Value} (G : Env1 Z a0) (b r : Addr) (kb kr : ClassId) (ds : List Int32) (k : Nat) (hd : ds.length = 13) (hc : ∀ c ∈ ds, ¬ c < 0 ∧ ¬ (255 : Int32) < c) (hk : k ≤ 13) (h0 : Heap) (h : Heap) (hne : b ≠ r) (E0 : Ext h0 h) (hr : h0.size ≤ r) (K : Arv Z h b kb .char 13 (ds.map Value.int) (.int 0)) (K2 : Arv Z h r kr .char (Int32.ofNat k) ((cutL ds k 7).map Value.int) (.int 0)) :
    Seg l Z a0 EL1 (⟨"com/example/wardn/wardn/rules/ErrorClassNamedPinLaw", "cut", "([CI)[C"⟩ : MethodName) method_4_code 3 (some (.array .char)) ({ frames := 0, cells := 1, slots := 13, locals := 0 } : Room) (fun v h => ∃ (r : Addr) (kr : ClassId), v = some (.ref r) ∧ Ext h0 h ∧ h0.size ≤ r ∧ Arv Z h r kr .char (Int32.ofNat k) ((ds.take k).map Value.int) (.int 0)) h 1 13 [r] 83 #[.val (.ref b), .val (.int (Int32.ofNat k)), .val (.ref r)] [] := by
  refine Seg.iloadN d9_83 rfl (pc' := 84) rfl ?_
  refine Seg.bipush (v := 7) d9_84 (by decide) (pc' := 86) rfl ?_
  by_cases h1 : 7 < k
  · refine Seg.icN d9_86 (XT.ii_le_f (n32lt (i := 7) h1 (by omega))) (pc' := 89) rfl ?_
    refine Seg.aloadN d9_89 rfl rfl (pc' := 90) rfl ?_
    refine Seg.bipush (v := 7) d9_90 (by decide) (pc' := 92) rfl ?_
    refine Seg.aloadN d9_92 rfl rfl (pc' := 93) rfl ?_
    refine Seg.bipush (v := 7) d9_93 (by decide) (pc' := 95) rfl ?_
    refine Seg.caload (v := (.int (ds.getD 7 0))) K ⟨by decide, by decide⟩ (getDmap _ _ 7 _ _ (by omega)) d9_95 (pc' := 96) rfl ?_
    refine Seg.castore (v' := ds.getD 7 0) (i := 7) K2 ⟨by decide, n32lt (i := 7) h1 (by omega)⟩ rfl (by rw [List.length_map, cutL_len _ _ _ (by omega)]; exact h1) (nar255 (mem_getD hc (by omega))) (List.mem_of_getElem? (i := 0) rfl) d9_96 (pc' := 97) rfl ?_
    intro h' W A
    rw [cutL_set ds k 7 h1 (by omega)] at A
    exact lp_cut8 G b r kb kr ds k hd hc hk h0 h' hne (ext_wr E0 W hr) hr (K.keep (Keep.of_wr W) (ninS hne nin0)) A
  · refine Seg.icY (pc' := 97) d9_86 (XT.ii_le_t (n32nlt (i := 7) (by omega) (by omega))) (by decide) (by decide) ?_
    rw [cutL_ge ds k 7 8 (by omega) (by omega)] at K2
    exact lp_cut8 G b r kb kr ds k hd hc hk h0 h hne E0 hr K K2
theorem d9_69 : decode method_4_code 69 = .ok (.iload_n 1, 1) := by decide +kernel
theorem d9_70 : decode method_4_code 70 = .ok (.bipush 6, 2) := by decide +kernel
theorem d9_72 : decode method_4_code 72 = .ok (.if_icmp .le 11, 3) := by decide +kernel
theorem d9_75 : decode method_4_code 75 = .ok (.aload_n 2, 1) := by decide +kernel
theorem d9_76 : decode method_4_code 76 = .ok (.bipush 6, 2) := by decide +kernel
theorem d9_78 : decode method_4_code 78 = .ok (.aload_n 0, 1) := by decide +kernel
theorem d9_79 : decode method_4_code 79 = .ok (.bipush 6, 2) := by decide +kernel
theorem d9_81 : decode method_4_code 81 = .ok (.caload, 1) := by decide +kernel
theorem d9_82 : decode method_4_code 82 = .ok (.castore, 1) := by decide +kernel
set_option maxRecDepth 65536 in
set_option maxHeartbeats 4000000 in
theorem lp_cut6 {l : Launch} {Z : State} {a0 : Array Value} (G : Env1 Z a0) (b r : Addr) (kb kr : ClassId) (ds : List Int32) (k : Nat) (hd : ds.length = 13) (hc : ∀ c ∈ ds, ¬ c < 0 ∧ ¬ (255 : Int32) < c) (hk : k ≤ 13) (h0 : Heap) (h : Heap) (hne : b ≠ r) (E0 : Ext h0 h) (hr : h0.size ≤ r) (K : Arv Z h b kb .char 13 (ds.map Value.int) (.int 0)) (K2 : Arv Z h r kr .char (Int32.ofNat k) ((cutL ds k 6).map Value.int) (.int 0)) :
    Seg l Z a0 EL1 (⟨"com/example/wardn/wardn/rules/ErrorClassNamedPinLaw", "cut", "([CI)[C"⟩ : MethodName) method_4_code 3 (some (.array .char)) ({ frames := 0, cells := 1, slots := 13, locals := 0 } : Room) (fun v h => ∃ (r : Addr) (kr : ClassId), v = some (.ref r) ∧ Ext h0 h ∧ h0.size ≤ r ∧ Arv Z h r kr .char (Int32.ofNat k) ((ds.take k).map Value.int) (.int 0)) h 1 13 [r] 69 #[.val (.ref b), .val (.int (Int32.ofNat k)), .val (.ref r)] [] := by
  refine Seg.iloadN d9_69 rfl (pc' := 70) rfl ?_
  refine Seg.bipush (v := 6) d9_70 (by decide) (pc' := 72) rfl ?_
  by_cases h1 : 6 < k
  · refine Seg.icN d9_72 (XT.ii_le_f (n32lt (i := 6) h1 (by omega))) (pc' := 75) rfl ?_
    refine Seg.aloadN d9_75 rfl rfl (pc' := 76) rfl ?_
    refine Seg.bipush (v := 6) d9_76 (by decide) (pc' := 78) rfl ?_
    refine Seg.aloadN d9_78 rfl rfl (pc' := 79) rfl ?_
    refine Seg.bipush (v := 6) d9_79 (by decide) (pc' := 81) rfl ?_
    refine Seg.caload (v := (.int (ds.getD 6 0))) K ⟨by decide, by decide⟩ (getDmap _ _ 6 _ _ (by omega)) d9_81 (pc' := 82) rfl ?_
    refine Seg.castore (v' := ds.getD 6 0) (i := 6) K2 ⟨by decide, n32lt (i := 6) h1 (by omega)⟩ rfl (by rw [List.length_map, cutL_len _ _ _ (by omega)]; exact h1) (nar255 (mem_getD hc (by omega))) (List.mem_of_getElem? (i := 0) rfl) d9_82 (pc' := 83) rfl ?_
    intro h' W A
    rw [cutL_set ds k 6 h1 (by omega)] at A
    exact lp_cut7 G b r kb kr ds k hd hc hk h0 h' hne (ext_wr E0 W hr) hr (K.keep (Keep.of_wr W) (ninS hne nin0)) A
  · refine Seg.icY (pc' := 83) d9_72 (XT.ii_le_t (n32nlt (i := 6) (by omega) (by omega))) (by decide) (by decide) ?_
    rw [cutL_ge ds k 6 7 (by omega) (by omega)] at K2
    exact lp_cut7 G b r kb kr ds k hd hc hk h0 h hne E0 hr K K2
theorem d9_58 : decode method_4_code 58 = .ok (.iload_n 1, 1) := by decide +kernel
theorem d9_59 : decode method_4_code 59 = .ok (.iconst 5, 1) := by decide +kernel
theorem d9_60 : decode method_4_code 60 = .ok (.if_icmp .le 9, 3) := by decide +kernel
theorem d9_63 : decode method_4_code 63 = .ok (.aload_n 2, 1) := by decide +kernel
theorem d9_64 : decode method_4_code 64 = .ok (.iconst 5, 1) := by decide +kernel
theorem d9_65 : decode method_4_code 65 = .ok (.aload_n 0, 1) := by decide +kernel
theorem d9_66 : decode method_4_code 66 = .ok (.iconst 5, 1) := by decide +kernel
theorem d9_67 : decode method_4_code 67 = .ok (.caload, 1) := by decide +kernel
theorem d9_68 : decode method_4_code 68 = .ok (.castore, 1) := by decide +kernel
set_option maxRecDepth 65536 in
set_option maxHeartbeats 4000000 in
theorem lp_cut5 {l : Launch} {Z : State} {a0 : Array Value} (G : Env1 Z a0) (b r : Addr) (kb kr : ClassId) (ds : List Int32) (k : Nat) (hd : ds.length = 13) (hc : ∀ c ∈ ds, ¬ c < 0 ∧ ¬ (255 : Int32) < c) (hk : k ≤ 13) (h0 : Heap) (h : Heap) (hne : b ≠ r) (E0 : Ext h0 h) (hr : h0.size ≤ r) (K : Arv Z h b kb .char 13 (ds.map Value.int) (.int 0)) (K2 : Arv Z h r kr .char (Int32.ofNat k) ((cutL ds k 5).map Value.int) (.int 0)) :
    Seg l Z a0 EL1 (⟨"com/example/wardn/wardn/rules/ErrorClassNamedPinLaw", "cut", "([CI)[C"⟩ : MethodName) method_4_code 3 (some (.array .char)) ({ frames := 0, cells := 1, slots := 13, locals := 0 } : Room) (fun v h => ∃ (r : Addr) (kr : ClassId), v = some (.ref r) ∧ Ext h0 h ∧ h0.size ≤ r ∧ Arv Z h r kr .char (Int32.ofNat k) ((ds.take k).map Value.int) (.int 0)) h 1 13 [r] 58 #[.val (.ref b), .val (.int (Int32.ofNat k)), .val (.ref r)] [] := by
  refine Seg.iloadN d9_58 rfl (pc' := 59) rfl ?_
  refine Seg.iconst (v := 5) d9_59 (by decide) (pc' := 60) rfl ?_
  by_cases h1 : 5 < k
  · refine Seg.icN d9_60 (XT.ii_le_f (n32lt (i := 5) h1 (by omega))) (pc' := 63) rfl ?_
    refine Seg.aloadN d9_63 rfl rfl (pc' := 64) rfl ?_
    refine Seg.iconst (v := 5) d9_64 (by decide) (pc' := 65) rfl ?_
    refine Seg.aloadN d9_65 rfl rfl (pc' := 66) rfl ?_
    refine Seg.iconst (v := 5) d9_66 (by decide) (pc' := 67) rfl ?_
    refine Seg.caload (v := (.int (ds.getD 5 0))) K ⟨by decide, by decide⟩ (getDmap _ _ 5 _ _ (by omega)) d9_67 (pc' := 68) rfl ?_
    refine Seg.castore (v' := ds.getD 5 0) (i := 5) K2 ⟨by decide, n32lt (i := 5) h1 (by omega)⟩ rfl (by rw [List.length_map, cutL_len _ _ _ (by omega)]; exact h1) (nar255 (mem_getD hc (by omega))) (List.mem_of_getElem? (i := 0) rfl) d9_68 (pc' := 69) rfl ?_
    intro h' W A
    rw [cutL_set ds k 5 h1 (by omega)] at A
    exact lp_cut6 G b r kb kr ds k hd hc hk h0 h' hne (ext_wr E0 W hr) hr (K.keep (Keep.of_wr W) (ninS hne nin0)) A
  · refine Seg.icY (pc' := 69) d9_60 (XT.ii_le_t (n32nlt (i := 5) (by omega) (by omega))) (by decide) (by decide) ?_
    rw [cutL_ge ds k 5 6 (by omega) (by omega)] at K2
    exact lp_cut6 G b r kb kr ds k hd hc hk h0 h hne E0 hr K K2
theorem d9_47 : decode method_4_code 47 = .ok (.iload_n 1, 1) := by decide +kernel
theorem d9_48 : decode method_4_code 48 = .ok (.iconst 4, 1) := by decide +kernel
theorem d9_49 : decode method_4_code 49 = .ok (.if_icmp .le 9, 3) := by decide +kernel
theorem d9_52 : decode method_4_code 52 = .ok (.aload_n 2, 1) := by decide +kernel
theorem d9_53 : decode method_4_code 53 = .ok (.iconst 4, 1) := by decide +kernel
theorem d9_54 : decode method_4_code 54 = .ok (.aload_n 0, 1) := by decide +kernel
theorem d9_55 : decode method_4_code 55 = .ok (.iconst 4, 1) := by decide +kernel
theorem d9_56 : decode method_4_code 56 = .ok (.caload, 1) := by decide +kernel
theorem d9_57 : decode method_4_code 57 = .ok (.castore, 1) := by decide +kernel
set_option maxRecDepth 65536 in
set_option maxHeartbeats 4000000 in
theorem lp_cut4 {l : Launch} {Z : State} {a0 : Array Value} (G : Env1 Z a0) (b r : Addr) (kb kr : ClassId) (ds : List Int32) (k : Nat) (hd : ds.length = 13) (hc : ∀ c ∈ ds, ¬ c < 0 ∧ ¬ (255 : Int32) < c) (hk : k ≤ 13) (h0 : Heap) (h : Heap) (hne : b ≠ r) (E0 : Ext h0 h) (hr : h0.size ≤ r) (K : Arv Z h b kb .char 13 (ds.map Value.int) (.int 0)) (K2 : Arv Z h r kr .char (Int32.ofNat k) ((cutL ds k 4).map Value.int) (.int 0)) :
    Seg l Z a0 EL1 (⟨"com/example/wardn/wardn/rules/ErrorClassNamedPinLaw", "cut", "([CI)[C"⟩ : MethodName) method_4_code 3 (some (.array .char)) ({ frames := 0, cells := 1, slots := 13, locals := 0 } : Room) (fun v h => ∃ (r : Addr) (kr : ClassId), v = some (.ref r) ∧ Ext h0 h ∧ h0.size ≤ r ∧ Arv Z h r kr .char (Int32.ofNat k) ((ds.take k).map Value.int) (.int 0)) h 1 13 [r] 47 #[.val (.ref b), .val (.int (Int32.ofNat k)), .val (.ref r)] [] := by
  refine Seg.iloadN d9_47 rfl (pc' := 48) rfl ?_
  refine Seg.iconst (v := 4) d9_48 (by decide) (pc' := 49) rfl ?_
  by_cases h1 : 4 < k
  · refine Seg.icN d9_49 (XT.ii_le_f (n32lt (i := 4) h1 (by omega))) (pc' := 52) rfl ?_
    refine Seg.aloadN d9_52 rfl rfl (pc' := 53) rfl ?_
    refine Seg.iconst (v := 4) d9_53 (by decide) (pc' := 54) rfl ?_
    refine Seg.aloadN d9_54 rfl rfl (pc' := 55) rfl ?_
    refine Seg.iconst (v := 4) d9_55 (by decide) (pc' := 56) rfl ?_
    refine Seg.caload (v := (.int (ds.getD 4 0))) K ⟨by decide, by decide⟩ (getDmap _ _ 4 _ _ (by omega)) d9_56 (pc' := 57) rfl ?_
    refine Seg.castore (v' := ds.getD 4 0) (i := 4) K2 ⟨by decide, n32lt (i := 4) h1 (by omega)⟩ rfl (by rw [List.length_map, cutL_len _ _ _ (by omega)]; exact h1) (nar255 (mem_getD hc (by omega))) (List.mem_of_getElem? (i := 0) rfl) d9_57 (pc' := 58) rfl ?_
    intro h' W A
    rw [cutL_set ds k 4 h1 (by omega)] at A
    exact lp_cut5 G b r kb kr ds k hd hc hk h0 h' hne (ext_wr E0 W hr) hr (K.keep (Keep.of_wr W) (ninS hne nin0)) A
  · refine Seg.icY (pc' := 58) d9_49 (XT.ii_le_t (n32nlt (i := 4) (by omega) (by omega))) (by decide) (by decide) ?_
    rw [cutL_ge ds k 4 5 (by omega) (by omega)] at K2
    exact lp_cut5 G b r kb kr ds k hd hc hk h0 h hne E0 hr K K2
theorem d9_36 : decode method_4_code 36 = .ok (.iload_n 1, 1) := by decide +kernel
theorem d9_37 : decode method_4_code 37 = .ok (.iconst 3, 1) := by decide +kernel
theorem d9_38 : decode method_4_code 38 = .ok (.if_icmp .le 9, 3) := by decide +kernel
theorem d9_41 : decode method_4_code 41 = .ok (.aload_n 2, 1) := by decide +kernel
theorem d9_42 : decode method_4_code 42 = .ok (.iconst 3, 1) := by decide +kernel
theorem d9_43 : decode method_4_code 43 = .ok (.aload_n 0, 1) := by decide +kernel
theorem d9_44 : decode method_4_code 44 = .ok (.iconst 3, 1) := by decide +kernel
theorem d9_45 : decode method_4_code 45 = .ok (.caload, 1) := by decide +kernel
theorem d9_46 : decode method_4_code 46 = .ok (.castore, 1) := by decide +kernel
set_option maxRecDepth 65536 in
set_option maxHeartbeats 4000000 in
theorem lp_cut3 {l : Launch} {Z : State} {a0 : Array Value} (G : Env1 Z a0) (b r : Addr) (kb kr : ClassId) (ds : List Int32) (k : Nat) (hd : ds.length = 13) (hc : ∀ c ∈ ds, ¬ c < 0 ∧ ¬ (255 : Int32) < c) (hk : k ≤ 13) (h0 : Heap) (h : Heap) (hne : b ≠ r) (E0 : Ext h0 h) (hr : h0.size ≤ r) (K : Arv Z h b kb .char 13 (ds.map Value.int) (.int 0)) (K2 : Arv Z h r kr .char (Int32.ofNat k) ((cutL ds k 3).map Value.int) (.int 0)) :
    Seg l Z a0 EL1 (⟨"com/example/wardn/wardn/rules/ErrorClassNamedPinLaw", "cut", "([CI)[C"⟩ : MethodName) method_4_code 3 (some (.array .char)) ({ frames := 0, cells := 1, slots := 13, locals := 0 } : Room) (fun v h => ∃ (r : Addr) (kr : ClassId), v = some (.ref r) ∧ Ext h0 h ∧ h0.size ≤ r ∧ Arv Z h r kr .char (Int32.ofNat k) ((ds.take k).map Value.int) (.int 0)) h 1 13 [r] 36 #[.val (.ref b), .val (.int (Int32.ofNat k)), .val (.ref r)] [] := by
  refine Seg.iloadN d9_36 rfl (pc' := 37) rfl ?_
  refine Seg.iconst (v := 3) d9_37 (by decide) (pc' := 38) rfl ?_
  by_cases h1 : 3 < k
  · refine Seg.icN d9_38 (XT.ii_le_f (n32lt (i := 3) h1 (by omega))) (pc' := 41) rfl ?_
    refine Seg.aloadN d9_41 rfl rfl (pc' := 42) rfl ?_
    refine Seg.iconst (v := 3) d9_42 (by decide) (pc' := 43) rfl ?_
    refine Seg.aloadN d9_43 rfl rfl (pc' := 44) rfl ?_
    refine Seg.iconst (v := 3) d9_44 (by decide) (pc' := 45) rfl ?_
    refine Seg.caload (v := (.int (ds.getD 3 0))) K ⟨by decide, by decide⟩ (getDmap _ _ 3 _ _ (by omega)) d9_45 (pc' := 46) rfl ?_
    refine Seg.castore (v' := ds.getD 3 0) (i := 3) K2 ⟨by decide, n32lt (i := 3) h1 (by omega)⟩ rfl (by rw [List.length_map, cutL_len _ _ _ (by omega)]; exact h1) (nar255 (mem_getD hc (by omega))) (List.mem_of_getElem? (i := 0) rfl) d9_46 (pc' := 47) rfl ?_
    intro h' W A
    rw [cutL_set ds k 3 h1 (by omega)] at A
    exact lp_cut4 G b r kb kr ds k hd hc hk h0 h' hne (ext_wr E0 W hr) hr (K.keep (Keep.of_wr W) (ninS hne nin0)) A
  · refine Seg.icY (pc' := 47) d9_38 (XT.ii_le_t (n32nlt (i := 3) (by omega) (by omega))) (by decide) (by decide) ?_
    rw [cutL_ge ds k 3 4 (by omega) (by omega)] at K2
    exact lp_cut4 G b r kb kr ds k hd hc hk h0 h hne E0 hr K K2
theorem d9_25 : decode method_4_code 25 = .ok (.iload_n 1, 1) := by decide +kernel
theorem d9_26 : decode method_4_code 26 = .ok (.iconst 2, 1) := by decide +kernel
theorem d9_27 : decode method_4_code 27 = .ok (.if_icmp .le 9, 3) := by decide +kernel
theorem d9_30 : decode method_4_code 30 = .ok (.aload_n 2, 1) := by decide +kernel
theorem d9_31 : decode method_4_code 31 = .ok (.iconst 2, 1) := by decide +kernel
theorem d9_32 : decode method_4_code 32 = .ok (.aload_n 0, 1) := by decide +kernel
theorem d9_33 : decode method_4_code 33 = .ok (.iconst 2, 1) := by decide +kernel
theorem d9_34 : decode method_4_code 34 = .ok (.caload, 1) := by decide +kernel
theorem d9_35 : decode method_4_code 35 = .ok (.castore, 1) := by decide +kernel
set_option maxRecDepth 65536 in
set_option maxHeartbeats 4000000 in
theorem lp_cut2 {l : Launch} {Z : State} {a0 : Array Value} (G : Env1 Z a0) (b r : Addr) (kb kr : ClassId) (ds : List Int32) (k : Nat) (hd : ds.length = 13) (hc : ∀ c ∈ ds, ¬ c < 0 ∧ ¬ (255 : Int32) < c) (hk : k ≤ 13) (h0 : Heap) (h : Heap) (hne : b ≠ r) (E0 : Ext h0 h) (hr : h0.size ≤ r) (K : Arv Z h b kb .char 13 (ds.map Value.int) (.int 0)) (K2 : Arv Z h r kr .char (Int32.ofNat k) ((cutL ds k 2).map Value.int) (.int 0)) :
    Seg l Z a0 EL1 (⟨"com/example/wardn/wardn/rules/ErrorClassNamedPinLaw", "cut", "([CI)[C"⟩ : MethodName) method_4_code 3 (some (.array .char)) ({ frames := 0, cells := 1, slots := 13, locals := 0 } : Room) (fun v h => ∃ (r : Addr) (kr : ClassId), v = some (.ref r) ∧ Ext h0 h ∧ h0.size ≤ r ∧ Arv Z h r kr .char (Int32.ofNat k) ((ds.take k).map Value.int) (.int 0)) h 1 13 [r] 25 #[.val (.ref b), .val (.int (Int32.ofNat k)), .val (.ref r)] [] := by
  refine Seg.iloadN d9_25 rfl (pc' := 26) rfl ?_
  refine Seg.iconst (v := 2) d9_26 (by decide) (pc' := 27) rfl ?_
  by_cases h1 : 2 < k
  · refine Seg.icN d9_27 (XT.ii_le_f (n32lt (i := 2) h1 (by omega))) (pc' := 30) rfl ?_
    refine Seg.aloadN d9_30 rfl rfl (pc' := 31) rfl ?_
    refine Seg.iconst (v := 2) d9_31 (by decide) (pc' := 32) rfl ?_
    refine Seg.aloadN d9_32 rfl rfl (pc' := 33) rfl ?_
    refine Seg.iconst (v := 2) d9_33 (by decide) (pc' := 34) rfl ?_
    refine Seg.caload (v := (.int (ds.getD 2 0))) K ⟨by decide, by decide⟩ (getDmap _ _ 2 _ _ (by omega)) d9_34 (pc' := 35) rfl ?_
    refine Seg.castore (v' := ds.getD 2 0) (i := 2) K2 ⟨by decide, n32lt (i := 2) h1 (by omega)⟩ rfl (by rw [List.length_map, cutL_len _ _ _ (by omega)]; exact h1) (nar255 (mem_getD hc (by omega))) (List.mem_of_getElem? (i := 0) rfl) d9_35 (pc' := 36) rfl ?_
    intro h' W A
    rw [cutL_set ds k 2 h1 (by omega)] at A
    exact lp_cut3 G b r kb kr ds k hd hc hk h0 h' hne (ext_wr E0 W hr) hr (K.keep (Keep.of_wr W) (ninS hne nin0)) A
  · refine Seg.icY (pc' := 36) d9_27 (XT.ii_le_t (n32nlt (i := 2) (by omega) (by omega))) (by decide) (by decide) ?_
    rw [cutL_ge ds k 2 3 (by omega) (by omega)] at K2
    exact lp_cut3 G b r kb kr ds k hd hc hk h0 h hne E0 hr K K2
theorem d9_14 : decode method_4_code 14 = .ok (.iload_n 1, 1) := by decide +kernel
theorem d9_15 : decode method_4_code 15 = .ok (.iconst 1, 1) := by decide +kernel
theorem d9_16 : decode method_4_code 16 = .ok (.if_icmp .le 9, 3) := by decide +kernel
theorem d9_19 : decode method_4_code 19 = .ok (.aload_n 2, 1) := by decide +kernel
theorem d9_20 : decode method_4_code 20 = .ok (.iconst 1, 1) := by decide +kernel
theorem d9_21 : decode method_4_code 21 = .ok (.aload_n 0, 1) := by decide +kernel
theorem d9_22 : decode method_4_code 22 = .ok (.iconst 1, 1) := by decide +kernel
theorem d9_23 : decode method_4_code 23 = .ok (.caload, 1) := by decide +kernel
theorem d9_24 : decode method_4_code 24 = .ok (.castore, 1) := by decide +kernel
set_option maxRecDepth 65536 in
set_option maxHeartbeats 4000000 in
theorem lp_cut1 {l : Launch} {Z : State} {a0 : Array Value} (G : Env1 Z a0) (b r : Addr) (kb kr : ClassId) (ds : List Int32) (k : Nat) (hd : ds.length = 13) (hc : ∀ c ∈ ds, ¬ c < 0 ∧ ¬ (255 : Int32) < c) (hk : k ≤ 13) (h0 : Heap) (h : Heap) (hne : b ≠ r) (E0 : Ext h0 h) (hr : h0.size ≤ r) (K : Arv Z h b kb .char 13 (ds.map Value.int) (.int 0)) (K2 : Arv Z h r kr .char (Int32.ofNat k) ((cutL ds k 1).map Value.int) (.int 0)) :
    Seg l Z a0 EL1 (⟨"com/example/wardn/wardn/rules/ErrorClassNamedPinLaw", "cut", "([CI)[C"⟩ : MethodName) method_4_code 3 (some (.array .char)) ({ frames := 0, cells := 1, slots := 13, locals := 0 } : Room) (fun v h => ∃ (r : Addr) (kr : ClassId), v = some (.ref r) ∧ Ext h0 h ∧ h0.size ≤ r ∧ Arv Z h r kr .char (Int32.ofNat k) ((ds.take k).map Value.int) (.int 0)) h 1 13 [r] 14 #[.val (.ref b), .val (.int (Int32.ofNat k)), .val (.ref r)] [] := by
  refine Seg.iloadN d9_14 rfl (pc' := 15) rfl ?_
  refine Seg.iconst (v := 1) d9_15 (by decide) (pc' := 16) rfl ?_
  by_cases h1 : 1 < k
  · refine Seg.icN d9_16 (XT.ii_le_f (n32lt (i := 1) h1 (by omega))) (pc' := 19) rfl ?_
    refine Seg.aloadN d9_19 rfl rfl (pc' := 20) rfl ?_
    refine Seg.iconst (v := 1) d9_20 (by decide) (pc' := 21) rfl ?_
    refine Seg.aloadN d9_21 rfl rfl (pc' := 22) rfl ?_
    refine Seg.iconst (v := 1) d9_22 (by decide) (pc' := 23) rfl ?_
    refine Seg.caload (v := (.int (ds.getD 1 0))) K ⟨by decide, by decide⟩ (getDmap _ _ 1 _ _ (by omega)) d9_23 (pc' := 24) rfl ?_
    refine Seg.castore (v' := ds.getD 1 0) (i := 1) K2 ⟨by decide, n32lt (i := 1) h1 (by omega)⟩ rfl (by rw [List.length_map, cutL_len _ _ _ (by omega)]; exact h1) (nar255 (mem_getD hc (by omega))) (List.mem_of_getElem? (i := 0) rfl) d9_24 (pc' := 25) rfl ?_
    intro h' W A
    rw [cutL_set ds k 1 h1 (by omega)] at A
    exact lp_cut2 G b r kb kr ds k hd hc hk h0 h' hne (ext_wr E0 W hr) hr (K.keep (Keep.of_wr W) (ninS hne nin0)) A
  · refine Seg.icY (pc' := 25) d9_16 (XT.ii_le_t (n32nlt (i := 1) (by omega) (by omega))) (by decide) (by decide) ?_
    rw [cutL_ge ds k 1 2 (by omega) (by omega)] at K2
    exact lp_cut2 G b r kb kr ds k hd hc hk h0 h hne E0 hr K K2
theorem d9_4 : decode method_4_code 4 = .ok (.iload_n 1, 1) := by decide +kernel
theorem d9_5 : decode method_4_code 5 = .ok (.ifCond .le 9, 3) := by decide +kernel
theorem d9_8 : decode method_4_code 8 = .ok (.aload_n 2, 1) := by decide +kernel
theorem d9_9 : decode method_4_code 9 = .ok (.iconst 0, 1) := by decide +kernel
theorem d9_10 : decode method_4_code 10 = .ok (.aload_n 0, 1) := by decide +kernel
theorem d9_11 : decode method_4_code 11 = .ok (.iconst 0, 1) := by decide +kernel
theorem d9_12 : decode method_4_code 12 = .ok (.caload, 1) := by decide +kernel
theorem d9_13 : decode method_4_code 13 = .ok (.castore, 1) := by decide +kernel
set_option maxRecDepth 65536 in
set_option maxHeartbeats 4000000 in
theorem lp_cut0 {l : Launch} {Z : State} {a0 : Array Value} (G : Env1 Z a0) (b r : Addr) (kb kr : ClassId) (ds : List Int32) (k : Nat) (hd : ds.length = 13) (hc : ∀ c ∈ ds, ¬ c < 0 ∧ ¬ (255 : Int32) < c) (hk : k ≤ 13) (h0 : Heap) (h : Heap) (hne : b ≠ r) (E0 : Ext h0 h) (hr : h0.size ≤ r) (K : Arv Z h b kb .char 13 (ds.map Value.int) (.int 0)) (K2 : Arv Z h r kr .char (Int32.ofNat k) ((cutL ds k 0).map Value.int) (.int 0)) :
    Seg l Z a0 EL1 (⟨"com/example/wardn/wardn/rules/ErrorClassNamedPinLaw", "cut", "([CI)[C"⟩ : MethodName) method_4_code 3 (some (.array .char)) ({ frames := 0, cells := 1, slots := 13, locals := 0 } : Room) (fun v h => ∃ (r : Addr) (kr : ClassId), v = some (.ref r) ∧ Ext h0 h ∧ h0.size ≤ r ∧ Arv Z h r kr .char (Int32.ofNat k) ((ds.take k).map Value.int) (.int 0)) h 1 13 [r] 4 #[.val (.ref b), .val (.int (Int32.ofNat k)), .val (.ref r)] [] := by
  refine Seg.iloadN d9_4 rfl (pc' := 5) rfl ?_
  by_cases h1 : 0 < k
  · refine Seg.ifN d9_5 (XT.i0_le_f (n32lt (i := 0) h1 (by omega))) (pc' := 8) rfl ?_
    refine Seg.aloadN d9_8 rfl rfl (pc' := 9) rfl ?_
    refine Seg.iconst (v := 0) d9_9 (by decide) (pc' := 10) rfl ?_
    refine Seg.aloadN d9_10 rfl rfl (pc' := 11) rfl ?_
    refine Seg.iconst (v := 0) d9_11 (by decide) (pc' := 12) rfl ?_
    refine Seg.caload (v := (.int (ds.getD 0 0))) K ⟨by decide, by decide⟩ (getDmap _ _ 0 _ _ (by omega)) d9_12 (pc' := 13) rfl ?_
    refine Seg.castore (v' := ds.getD 0 0) (i := 0) K2 ⟨by decide, n32lt (i := 0) h1 (by omega)⟩ rfl (by rw [List.length_map, cutL_len _ _ _ (by omega)]; exact h1) (nar255 (mem_getD hc (by omega))) (List.mem_of_getElem? (i := 0) rfl) d9_13 (pc' := 14) rfl ?_
    intro h' W A
    rw [cutL_set ds k 0 h1 (by omega)] at A
    exact lp_cut1 G b r kb kr ds k hd hc hk h0 h' hne (ext_wr E0 W hr) hr (K.keep (Keep.of_wr W) (ninS hne nin0)) A
  · refine Seg.ifY (pc' := 14) d9_5 (XT.i0_le_t (n32nlt (i := 0) (by omega) (by omega))) (by decide) (by decide) ?_
    rw [cutL_ge ds k 0 1 (by omega) (by omega)] at K2
    exact lp_cut1 G b r kb kr ds k hd hc hk h0 h hne E0 hr K K2
theorem d9_0 : decode method_4_code 0 = .ok (.iload_n 1, 1) := by decide +kernel
theorem d9_1 : decode method_4_code 1 = .ok (.newarray .char, 2) := by decide +kernel
theorem d9_3 : decode method_4_code 3 = .ok (.astore_n 2, 1) := by decide +kernel
theorem ef_ct_cut (b : Addr) (kb : ClassId) (ds : List Int32) (k : Nat) (m : MethodId) : entryFrame m #[(.ref b), (.int (Int32.ofNat k))] 3 = mkF m 0 #[.val (.ref b), .val (.int (Int32.ofNat k)), .unset] [] := by first | (simp [entryFrame, mkF, argsToLocals, Value.category]; done) | rfl
set_option maxRecDepth 65536 in
set_option maxHeartbeats 4000000 in
theorem ct_cut {l : Launch} {Z : State} {a0 : Array Value} (G : Env1 Z a0) (b : Addr) (kb : ClassId) (ds : List Int32) (k : Nat) (h0 : Heap) (hd : ds.length = 13) (hc : ∀ c ∈ ds, ¬ c < 0 ∧ ¬ (255 : Int32) < c) (hk : k ≤ 13) (K : Arv Z h0 b kb .char 13 (ds.map Value.int) (.int 0)) :
    Ct l Z EL1 [] [] (⟨"com/example/wardn/wardn/rules/ErrorClassNamedPinLaw", "cut", "([CI)[C"⟩ : MethodName) method_4_code 3 (some (.array .char)) ({ frames := 0, cells := 1, slots := 13, locals := 0 } : Room) #[(.ref b), (.int (Int32.ofNat k))] h0 (fun v h => ∃ (r : Addr) (kr : ClassId), v = some (.ref r) ∧ Ext h0 h ∧ h0.size ≤ r ∧ Arv Z h r kr .char (Int32.ofNat k) ((ds.take k).map Value.int) (.int 0)) := by
  refine Ct.of_seg (a0 := a0) (plainFor_of_name pn_com_example_wardn_wardn_rules_ErrorClassNamedPinLaw) G.2.1 (ef_ct_cut b kb ds k) ?_
  refine Seg.iloadN d9_0 rfl (pc' := 1) rfl ?_
  refine Seg.newP (ty := .char) (dv := (.int 0)) rfl rfl (wd G 21 rfl) d9_1 (pc' := 3) rfl (n32nn (by omega)) (cap := 13) (by rw [n32c (by omega)]; omega) (by decide) (k' := 1) (n' := 13) rfl rfl (by decide) (by decide) ?_
  intro b_1 h_3 k_b_1 E_2 e_b_1 l_b_1 A_b_1
  replace A_b_1 := A_b_1.pad (pad_rep [] (.int 0) k)
  rw [← cutL_0 ds k] at A_b_1
  refine Seg.astoreN (L' := #[.val (.ref b), .val (.int (Int32.ofNat k)), .val (.ref b_1)]) d9_3 rfl rfl (pc' := 4) rfl ?_
  have F_4 := K.ext E_2
  exact lp_cut0 G b b_1 kb k_b_1 ds k hd hc hk h0 h_3 (Nat.ne_of_lt (Nat.lt_of_lt_of_le K.lt (Nat.le_of_eq e_b_1))) E_2 (Nat.le_of_eq e_b_1) F_4 A_b_1
theorem d21_0 : decode jdk_31_method_10_code 0 = .ok (.aload_n 0, 1) := by decide +kernel
theorem d21_1 : decode jdk_31_method_10_code 1 = .ok (.ifnonnull 11, 3) := by decide +kernel
theorem d21_12 : decode jdk_31_method_10_code 12 = .ok (.aload_n 0, 1) := by decide +kernel
theorem d21_13 : decode jdk_31_method_10_code 13 = .ok (.areturn, 1) := by decide +kernel
theorem pn_java_util_Objects : plainName "java/util/Objects" = true := by first | (simp [plainName, overriddenIn]; done) | decide +kernel
theorem ef_ct_req1 (a : Addr) (m : MethodId) : entryFrame m #[(.ref a)] 1 = mkF m 0 #[.val (.ref a)] [] := by first | (simp [entryFrame, mkF, argsToLocals, Value.category]; done) | rfl
set_option maxRecDepth 65536 in
set_option maxHeartbeats 4000000 in
theorem ct_req1 {l : Launch} {Z : State} {a0 : Array Value} (G : Env1 Z a0) (a : Addr) (h0 : Heap) :
    Ct l Z EL1 [] [] (⟨"java/util/Objects", "requireNonNull", "(Ljava/lang/Object;)Ljava/lang/Object;"⟩ : MethodName) jdk_31_method_10_code 1 (some (.object "java/lang/Object")) ({ frames := 0, cells := 0, slots := 0, locals := 0 } : Room) #[(.ref a)] h0 (fun v h => v = some (.ref a) ∧ h0 = h) := by
  refine Ct.of_seg (a0 := a0) (plainFor_of_name pn_java_util_Objects) G.2.1 (ef_ct_req1 a) ?_
  refine Seg.aloadN d21_0 rfl rfl (pc' := 1) rfl ?_
  refine Seg.nonnY (pc' := 12) d21_1 (by decide) (by decide) ?_
  refine Seg.aloadN d21_12 rfl rfl (pc' := 13) rfl ?_
  exact Seg.retA rfl rfl rfl d21_13 (by decide) (by decide) ⟨rfl, rfl⟩
theorem d22_0 : decode jdk_32_method_2_code 0 = .ok (.aload_n 0, 1) := by decide +kernel
theorem d22_1 : decode jdk_32_method_2_code 1 = .ok (.invokespecial 7, 3) := by decide +kernel
theorem d22_4 : decode jdk_32_method_2_code 4 = .ok (.aload_n 0, 1) := by decide +kernel
theorem d22_5 : decode jdk_32_method_2_code 5 = .ok (.aload_n 1, 1) := by decide +kernel
theorem d22_6 : decode jdk_32_method_2_code 6 = .ok (.putfield 13, 3) := by decide +kernel
theorem d22_9 : decode jdk_32_method_2_code 9 = .ok (.return_, 1) := by decide +kernel
theorem pn_java_util_Optional : plainName "java/util/Optional" = true := by first | (simp [plainName, overriddenIn]; done) | decide +kernel
theorem ef_ct_joinit (x : Addr) (b : Addr) (v0 : Value) (m : MethodId) : entryFrame m #[(.ref x), (.ref b)] 2 = mkF m 0 #[.val (.ref x), .val (.ref b)] [] := by first | (simp [entryFrame, mkF, argsToLocals, Value.category]; done) | rfl
set_option maxRecDepth 65536 in
set_option maxHeartbeats 4000000 in
theorem ct_joinit {l : Launch} {Z : State} {a0 : Array Value} (G : Env1 Z a0) (x : Addr) (b : Addr) (v0 : Value) (h0 : Heap) (A : Exa Z h0 x "java/util/Optional") (F0 : Fld Z h0 x "java/util/Optional" "value" "Ljava/lang/Object;" v0) :
    Ct l Z EL1 [x] [] (⟨"java/util/Optional", "<init>", "(Ljava/lang/Object;)V"⟩ : MethodName) jdk_32_method_2_code 2 none ({ frames := 1, cells := 0, slots := 0, locals := 12 } : Room) #[(.ref x), (.ref b)] h0 (fun v h => v = none ∧ Keep h0 h [x] ∧ Fld Z h x "java/util/Optional" "value" "Ljava/lang/Object;" (.ref b)) := by
  refine Ct.of_seg (a0 := a0) (plainFor_of_name pn_java_util_Optional) G.2.1 (ef_ct_joinit x b v0) ?_
  refine Seg.aloadN d22_0 rfl rfl (pc' := 1) rfl ?_
  refine Seg.initO (wd G 121 rfl) (wd G 61 rfl) (wd G 62 rfl) rfl d22_1 (pc' := 4) rfl (by decide) (W := 0) (Nat.le_of_eq rfl) (by decide) ?_
  refine Seg.aloadN d22_4 rfl rfl (pc' := 5) rfl ?_
  refine Seg.aloadN d22_5 rfl rfl (pc' := 6) rfl ?_
  refine Seg.putF (host := "") (ty := (.object "java/lang/Object")) (v' := (.ref b)) (wd G 122 rfl) Via.refl F0 A (Or.inr ⟨(wd G 123 rfl), rfl, rfl⟩) (wd G 112 rfl) (by decide) rfl rfl (List.mem_of_getElem? (i := 0) rfl) d22_6 (pc' := 9) rfl ?_
  intro h_3 W_1 F_2
  exact Seg.ret0 rfl d22_9 (by decide) (by decide) ⟨rfl, Keep.of_wr W_1, F_2⟩
theorem d20_0 : decode jdk_32_method_3_code 0 = .ok (.new 2, 3) := by decide +kernel
theorem d20_3 : decode jdk_32_method_3_code 3 = .ok (.dup, 1) := by decide +kernel
theorem d20_4 : decode jdk_32_method_3_code 4 = .ok (.aload_n 0, 1) := by decide +kernel
theorem d20_5 : decode jdk_32_method_3_code 5 = .ok (.invokestatic 17, 3) := by decide +kernel
theorem pd_3 : parseMethodDescriptor "(Ljava/lang/Object;)Ljava/lang/Object;" = some ⟨[(.object "java/lang/Object")], some (.object "java/lang/Object")⟩ := by decide +kernel
theorem d20_8 : decode jdk_32_method_3_code 8 = .ok (.invokespecial 23, 3) := by decide +kernel
theorem pd_4 : parseMethodDescriptor "(Ljava/lang/Object;)V" = some ⟨[(.object "java/lang/Object")], none⟩ := by decide +kernel
theorem d20_11 : decode jdk_32_method_3_code 11 = .ok (.areturn, 1) := by decide +kernel
theorem ef_ct_joof (b : Addr) (m : MethodId) : entryFrame m #[(.ref b)] 1 = mkF m 0 #[.val (.ref b)] [] := by first | (simp [entryFrame, mkF, argsToLocals, Value.category]; done) | rfl
set_option maxRecDepth 65536 in
set_option maxHeartbeats 4000000 in
theorem ct_joof {l : Launch} {Z : State} {a0 : Array Value} (G : Env1 Z a0) (b : Addr) (h0 : Heap) :
    Ct l Z EL1 [] [] (⟨"java/util/Optional", "of", "(Ljava/lang/Object;)Ljava/util/Optional;"⟩ : MethodName) jdk_32_method_3_code 1 (some (.object "java/util/Optional")) ({ frames := 2, cells := 1, slots := 1, locals := 26 } : Room) #[(.ref b)] h0 (fun v h => ∃ r, v = some (.ref r) ∧ Ext h0 h ∧ Exa Z h r "java/util/Optional" ∧ Fld Z h r "java/util/Optional" "value" "Ljava/lang/Object;" (.ref b)) := by
  refine Ct.of_seg (a0 := a0) (plainFor_of_name pn_java_util_Optional) G.2.1 (ef_ct_joof b) ?_
  refine Seg.newO (wd G 111 rfl) (wd G 112 rfl) (wd G 109 rfl) d20_0 (pc' := 3) rfl (k' := 1) (n' := 1) rfl rfl (by decide) (by decide) ?_
  intro b_1 h_3 E_2 e_b_1 l_b_1 A_b_1 D_b_1
  have F_value_b_1 : Fld Z h_3 b_1 "java/util/Optional" "value" "Ljava/lang/Object;" Value.null := D_b_1 (Or.inr (wd G 123 rfl)) (ty := (.object "java/lang/Object")) (by decide)
  refine Seg.dup d20_3 rfl (pc' := 4) rfl ?_
  refine Seg.aloadN d20_4 rfl rfl (pc' := 5) rfl ?_
  refine Seg.callS (y' := (⟨"java/util/Objects", "requireNonNull", "(Ljava/lang/Object;)Ljava/lang/Object;"⟩ : MethodName)) (wd G 113 rfl) (wd G 114 rfl) (wd G 115 rfl) (wd G 116 rfl) ⟨by decide, by decide⟩ (Pays.of_ct (W := 2) (ct_req1 G b h_3) all0 (wd G 116 rfl) (wd G 115 rfl) (by decide) (by decide) rfl rfl) (argsL := [(.ref b)]) (rest := [(.ref b_1), (.ref b_1)]) rfl (lenOf pd_3 rfl) rfl (Nat.le_of_eq rfl) rfl d20_5 (pc' := 8) rfl (k' := 1) (n' := 1) rfl rfl (by decide) (by decide) ?_
  intro v_4 h_7 sz_5 q_6
  obtain ⟨rfl, rfl⟩ := q_6
  refine Seg.callN (y' := (⟨"java/util/Optional", "<init>", "(Ljava/lang/Object;)V"⟩ : MethodName)) (a := b_1) rfl (wd G 117 rfl) (wd G 118 rfl) (wd G 120 rfl) ⟨by decide, by decide⟩ (Pays.of_ct (W := 1) (ct_joinit G b_1 b .null h_3 A_b_1 F_value_b_1) (allS (List.mem_of_getElem? (i := 0) rfl) all0) (wd G 120 rfl) (wd G 109 rfl) (by decide) (by decide) rfl rfl) (argsL := [(.ref b)]) (rest := [(.ref b_1)]) rfl (lenOf pd_4 rfl) rfl (Nat.le_of_eq rfl) rfl d20_8 (pc' := 11) rfl (k' := 1) (n' := 1) rfl rfl (by decide) (by decide) ?_
  intro v_8 h_11 sz_9 q_10
  obtain ⟨rfl, K9, F9⟩ := q_10
  have E_12 : Ext h0 h_11 := ext_kp E_2 K9 (allS (Nat.le_trans (ext_rfl _).1 (Nat.le_of_eq e_b_1)) all0)
  have F_13 := (A_b_1.keep K9)
  exact Seg.retA rfl rfl rfl d20_11 (by decide) (by decide) ⟨b_1, rfl, E_12, F_13, F9⟩
theorem d24_0 : decode jdk_32_method_1_code 0 = .ok (.getstatic 1, 3) := by decide +kernel
theorem d24_3 : decode jdk_32_method_1_code 3 = .ok (.astore_n 0, 1) := by decide +kernel
theorem d24_4 : decode jdk_32_method_1_code 4 = .ok (.aload_n 0, 1) := by decide +kernel
theorem d24_5 : decode jdk_32_method_1_code 5 = .ok (.areturn, 1) := by decide +kernel
theorem ef_ct_joempty (oe : Addr) (m : MethodId) : entryFrame m #[] 1 = mkF m 0 #[.unset] [] := by first | (simp [entryFrame, mkF, argsToLocals, Value.category]; done) | rfl
set_option maxRecDepth 65536 in
set_option maxHeartbeats 4000000 in
theorem ct_joempty {l : Launch} {Z : State} {a0 : Array Value} (G : Env1 Z a0) (oe : Addr) (h0 : Heap) (Se : Sta Z Z.heap "java/util/Optional" "EMPTY" "Ljava/util/Optional;" (.ref oe)) :
    Ct l Z EL1 [] [] (⟨"java/util/Optional", "empty", "()Ljava/util/Optional;"⟩ : MethodName) jdk_32_method_1_code 1 (some (.object "java/util/Optional")) ({ frames := 0, cells := 0, slots := 0, locals := 0 } : Room) #[] h0 (fun v h => v = some (.ref oe) ∧ h0 = h) := by
  refine Ct.of_seg (a0 := a0) (plainFor_of_name pn_java_util_Optional) G.2.1 (ef_ct_joempty oe) ?_
  refine Seg.getS (wd G 136 rfl) Via.refl Se d24_0 (pc' := 3) rfl ?_
  refine Seg.astoreN (L' := #[.val (.ref oe)]) d24_3 rfl rfl (pc' := 4) rfl ?_
  refine Seg.aloadN d24_4 rfl rfl (pc' := 5) rfl ?_
  exact Seg.retA rfl rfl rfl d24_5 (by decide) (by decide) ⟨rfl, rfl⟩
theorem d23_0 : decode jdk_32_method_15_code 0 = .ok (.aload_n 0, 1) := by decide +kernel
theorem d23_1 : decode jdk_32_method_15_code 1 = .ok (.getfield 13, 3) := by decide +kernel
theorem d23_4 : decode jdk_32_method_15_code 4 = .ok (.ifnull 10, 3) := by decide +kernel
theorem d23_7 : decode jdk_32_method_15_code 7 = .ok (.aload_n 0, 1) := by decide +kernel
theorem d23_8 : decode jdk_32_method_15_code 8 = .ok (.getfield 13, 3) := by decide +kernel
theorem d23_11 : decode jdk_32_method_15_code 11 = .ok (.goto 4, 3) := by decide +kernel
theorem d23_15 : decode jdk_32_method_15_code 15 = .ok (.areturn, 1) := by decide +kernel
theorem ef_ct_orElse (a : Addr) (b : Addr) (m : MethodId) : entryFrame m #[(.ref a), Value.null] 2 = mkF m 0 #[.val (.ref a), .val Value.null] [] := by first | (simp [entryFrame, mkF, argsToLocals, Value.category]; done) | rfl
set_option maxRecDepth 65536 in
set_option maxHeartbeats 4000000 in
theorem ct_orElse {l : Launch} {Z : State} {a0 : Array Value} (G : Env1 Z a0) (a : Addr) (b : Addr) (h0 : Heap) (F0 : Fld Z h0 a "java/util/Optional" "value" "Ljava/lang/Object;" (.ref b)) :
    Ct l Z EL1 [] [] (⟨"java/util/Optional", "orElse", "(Ljava/lang/Object;)Ljava/lang/Object;"⟩ : MethodName) jdk_32_method_15_code 2 (some (.object "java/lang/Object")) ({ frames := 0, cells := 0, slots := 0, locals := 0 } : Room) #[(.ref a), Value.null] h0 (fun v h => v = some (.ref b) ∧ h0 = h) := by
  refine Ct.of_seg (a0 := a0) (plainFor_of_name pn_java_util_Optional) G.2.1 (ef_ct_orElse a b) ?_
  refine Seg.aloadN d23_0 rfl rfl (pc' := 1) rfl ?_
  refine Seg.getF (host := "") (Or.inl (wd G 122 rfl)) Via.refl F0 d23_1 (pc' := 4) rfl ?_
  refine Seg.nullN d23_4 (pc' := 7) rfl ?_
  refine Seg.aloadN d23_7 rfl rfl (pc' := 8) rfl ?_
  refine Seg.getF (host := "") (Or.inl (wd G 122 rfl)) Via.refl F0 d23_8 (pc' := 11) rfl ?_
  refine Seg.goto (pc' := 15) d23_11 (by decide) (by decide) ?_
  exact Seg.retA rfl rfl rfl d23_15 (by decide) (by decide) ⟨rfl, rfl⟩
theorem d23_14 : decode jdk_32_method_15_code 14 = .ok (.aload_n 1, 1) := by decide +kernel
theorem ef_ct_orElseN (a : Addr) (m : MethodId) : entryFrame m #[(.ref a), Value.null] 2 = mkF m 0 #[.val (.ref a), .val Value.null] [] := by first | (simp [entryFrame, mkF, argsToLocals, Value.category]; done) | rfl
set_option maxRecDepth 65536 in
set_option maxHeartbeats 4000000 in
theorem ct_orElseN {l : Launch} {Z : State} {a0 : Array Value} (G : Env1 Z a0) (a : Addr) (h0 : Heap) (F0 : Fld Z h0 a "java/util/Optional" "value" "Ljava/lang/Object;" .null) :
    Ct l Z EL1 [] [] (⟨"java/util/Optional", "orElse", "(Ljava/lang/Object;)Ljava/lang/Object;"⟩ : MethodName) jdk_32_method_15_code 2 (some (.object "java/lang/Object")) ({ frames := 0, cells := 0, slots := 0, locals := 0 } : Room) #[(.ref a), Value.null] h0 (fun v h => v = some .null ∧ h0 = h) := by
  refine Ct.of_seg (a0 := a0) (plainFor_of_name pn_java_util_Optional) G.2.1 (ef_ct_orElseN a) ?_
  refine Seg.aloadN d23_0 rfl rfl (pc' := 1) rfl ?_
  refine Seg.getF (host := "") (Or.inl (wd G 122 rfl)) Via.refl F0 d23_1 (pc' := 4) rfl ?_
  refine Seg.nullY (pc' := 14) d23_4 (by decide) (by decide) ?_
  refine Seg.aloadN d23_14 rfl rfl (pc' := 15) rfl ?_
  exact Seg.retA rfl rfl rfl d23_15 (by decide) (by decide) ⟨rfl, rfl⟩
theorem d19_0 : decode prog_6_method_1_code 0 = .ok (.getstatic 10, 3) := by decide +kernel
theorem d19_3 : decode prog_6_method_1_code 3 = .ok (.invokevirtual 14, 3) := by decide +kernel
theorem d19_6 : decode prog_6_method_1_code 6 = .ok (.checkcast 15, 3) := by decide +kernel
theorem d19_9 : decode prog_6_method_1_code 9 = .ok (.areturn, 1) := by decide +kernel
theorem pn_com_example_wardn_wardn_rules_ErrorClass : plainName "com/example/wardn/wardn/rules/ErrorClass" = true := by first | (simp [plainName, overriddenIn]; done) | decide +kernel
theorem ef_ct_values (fb : Addr) (ua : Addr) (va : Addr) (s1 : Addr) (s2 : Addr) (oe : Addr) (kv : ClassId) (m : MethodId) : entryFrame m #[] 0 = mkF m 0 #[] [] := by first | (simp [entryFrame, mkF, argsToLocals, Value.category]; done) | rfl
set_option maxRecDepth 65536 in
set_option maxHeartbeats 4000000 in
theorem ct_values {l : Launch} {Z : State} {a0 : Array Value} (G : Env1 Z a0) (fb : Addr) (ua : Addr) (va : Addr) (s1 : Addr) (s2 : Addr) (oe : Addr) (kv : ClassId) (h0 : Heap) (P : Pin1 Z fb ua va s1 s2 oe kv) :
    Ct l Z EL1 [] [] (⟨"com/example/wardn/wardn/rules/ErrorClass", "values", "()[Lcom/example/wardn/wardn/rules/ErrorClass;"⟩ : MethodName) prog_6_method_1_code 0 (some (.array (.object "com/example/wardn/wardn/rules/ErrorClass"))) ({ frames := 1, cells := 1, slots := 2, locals := 14 } : Room) #[] h0 (fun v h => ∃ (r : Addr) (kr : ClassId), v = some (.ref r) ∧ Ext h0 h ∧ Arv Z h r kr (.object "com/example/wardn/wardn/rules/ErrorClass") 2 [.ref fb, .ref ua] .null) := by
  refine Ct.of_seg (a0 := a0) (plainFor_of_name pn_com_example_wardn_wardn_rules_ErrorClass) G.2.1 (ef_ct_values fb ua va s1 s2 oe kv) ?_
  refine Seg.start fun hZ0 => ?_
  obtain ⟨P1, P2, P3, P4, P5, P6, P7, P8, P9, P10, P11, P12, P13, P14⟩ := id P
  have Q4 := P4.ext hZ0
  have Q5 := P5.ext hZ0
  have Q6 := P6.ext hZ0
  have Q7 := P7.ext hZ0
  have Q8 := P8.ext hZ0
  have Q9 := P9.ext hZ0
  have Q10 := P10.ext hZ0
  have Q11 := P11.ext hZ0
  have Q13 := P13.ext hZ0
  have Q14 := P14.ext hZ0
  have Q10x := Q10.exa
  have Q11x := Q11.exa
  refine Seg.getS (wd G 91 rfl) Via.refl P3 d19_0 (pc' := 3) rfl ?_
  refine Seg.cloneH (cap := 2) (wd G 93 rfl) (wd G 94 rfl) (wd G 98 rfl) (wd G 96 rfl) (wd G 97 rfl) (wd G 99 rfl) Q7 Q6 rfl d19_3 (pc' := 6) rfl (by decide) (W := 0) (Nat.le_of_eq rfl) (by decide) (by decide) (k' := 1) (n' := 2) rfl rfl (by decide) (by decide) ?_
  intro b_1 h_3 E_2 e_b_1 l_b_1 A_b_1 X_b_1
  refine Seg.castY (wd G 102 rfl) (Ins.self X_b_1) d19_6 (pc' := 9) rfl ?_
  exact Seg.retA rfl rfl rfl d19_9 (by decide) (by decide) ⟨b_1, kv, rfl, E_2, A_b_1⟩
theorem d18_0 : decode prog_6_method_6_code 0 = .ok (.invokestatic 37, 3) := by decide +kernel
theorem pd_5 : parseMethodDescriptor "()[Lcom/example/wardn/wardn/rules/ErrorClass;" = some ⟨[], some (.array (.object "com/example/wardn/wardn/rules/ErrorClass"))⟩ := by decide +kernel
theorem d18_3 : decode prog_6_method_6_code 3 = .ok (.astore_n 1, 1) := by decide +kernel
theorem d18_4 : decode prog_6_method_6_code 4 = .ok (.aload_n 1, 1) := by decide +kernel
theorem d18_5 : decode prog_6_method_6_code 5 = .ok (.arraylength, 1) := by decide +kernel
theorem d18_6 : decode prog_6_method_6_code 6 = .ok (.istore_n 2, 1) := by decide +kernel
theorem d18_7 : decode prog_6_method_6_code 7 = .ok (.iconst 0, 1) := by decide +kernel
theorem d18_8 : decode prog_6_method_6_code 8 = .ok (.istore_n 3, 1) := by decide +kernel
theorem d18_9 : decode prog_6_method_6_code 9 = .ok (.iload_n 3, 1) := by decide +kernel
theorem d18_10 : decode prog_6_method_6_code 10 = .ok (.iload_n 2, 1) := by decide +kernel
theorem d18_11 : decode prog_6_method_6_code 11 = .ok (.if_icmp .ge 32, 3) := by decide +kernel
theorem d18_14 : decode prog_6_method_6_code 14 = .ok (.aload_n 1, 1) := by decide +kernel
theorem d18_15 : decode prog_6_method_6_code 15 = .ok (.iload_n 3, 1) := by decide +kernel
theorem d18_16 : decode prog_6_method_6_code 16 = .ok (.aaload, 1) := by decide +kernel
theorem d18_17 : decode prog_6_method_6_code 17 = .ok (.astore 4, 2) := by decide +kernel
theorem d18_19 : decode prog_6_method_6_code 19 = .ok (.aload 4, 2) := by decide +kernel
theorem d18_21 : decode prog_6_method_6_code 21 = .ok (.getfield 29, 3) := by decide +kernel
theorem d18_24 : decode prog_6_method_6_code 24 = .ok (.aload_n 0, 1) := by decide +kernel
theorem d18_25 : decode prog_6_method_6_code 25 = .ok (.invokevirtual 41, 3) := by decide +kernel
theorem pd_6 : parseMethodDescriptor "(Ljava/lang/Object;)Z" = some ⟨[(.object "java/lang/Object")], some .boolean⟩ := by decide +kernel
theorem d18_28 : decode prog_6_method_6_code 28 = .ok (.ifCond .eq 9, 3) := by decide +kernel
theorem d18_31 : decode prog_6_method_6_code 31 = .ok (.aload 4, 2) := by decide +kernel
theorem d18_33 : decode prog_6_method_6_code 33 = .ok (.invokestatic 47, 3) := by decide +kernel
theorem pd_7 : parseMethodDescriptor "(Ljava/lang/Object;)Ljava/util/Optional;" = some ⟨[(.object "java/lang/Object")], some (.object "java/util/Optional")⟩ := by decide +kernel
theorem d18_36 : decode prog_6_method_6_code 36 = .ok (.areturn, 1) := by decide +kernel
theorem d18_37 : decode prog_6_method_6_code 37 = .ok (.iinc 3 1, 3) := by decide +kernel
theorem d18_40 : decode prog_6_method_6_code 40 = .ok (.goto (-31), 3) := by decide +kernel
theorem d18_43 : decode prog_6_method_6_code 43 = .ok (.invokestatic 53, 3) := by decide +kernel
theorem pd_8 : parseMethodDescriptor "()Ljava/util/Optional;" = some ⟨[], some (.object "java/util/Optional")⟩ := by decide +kernel
theorem d18_46 : decode prog_6_method_6_code 46 = .ok (.areturn, 1) := by decide +kernel
theorem ef_ct_named (fb : Addr) (ua : Addr) (va : Addr) (s1 : Addr) (s2 : Addr) (oe : Addr) (kv : ClassId) (a : Addr) (cs : List Int32) (m : MethodId) : entryFrame m #[(.ref a)] 5 = mkF m 0 #[.val (.ref a), .unset, .unset, .unset, .unset] [] := by first | (simp [entryFrame, mkF, argsToLocals, Value.category]; done) | rfl
set_option maxRecDepth 65536 in
set_option maxHeartbeats 4000000 in
theorem ct_named {l : Launch} {Z : State} {a0 : Array Value} (G : Env1 Z a0) (fb : Addr) (ua : Addr) (va : Addr) (s1 : Addr) (s2 : Addr) (oe : Addr) (kv : ClassId) (a : Addr) (cs : List Int32) (h0 : Heap) (P : Pin1 Z fb ua va s1 s2 oe kv) (F : Str Z h0 a cs) :
    Ct l Z EL1 [] [] (⟨"com/example/wardn/wardn/rules/ErrorClass", "named", "(Ljava/lang/String;)Ljava/util/Optional;"⟩ : MethodName) prog_6_method_6_code 5 (some (.object "java/util/Optional")) ({ frames := 3, cells := 2, slots := 3, locals := 38 } : Room) #[(.ref a)] h0 (fun v h => ∃ o, v = some (.ref o) ∧ Ext h0 h ∧ Exa Z h o "java/util/Optional" ∧ Fld Z h o "java/util/Optional" "value" "Ljava/lang/Object;" (res1 cs fb ua)) := by
  refine Ct.of_seg (a0 := a0) (plainFor_of_name pn_com_example_wardn_wardn_rules_ErrorClass) G.2.1 (ef_ct_named fb ua va s1 s2 oe kv a cs) ?_
  refine Seg.start fun hZ0 => ?_
  obtain ⟨P1, P2, P3, P4, P5, P6, P7, P8, P9, P10, P11, P12, P13, P14⟩ := id P
  have Q4 := P4.ext hZ0
  have Q5 := P5.ext hZ0
  have Q6 := P6.ext hZ0
  have Q7 := P7.ext hZ0
  have Q8 := P8.ext hZ0
  have Q9 := P9.ext hZ0
  have Q10 := P10.ext hZ0
  have Q11 := P11.ext hZ0
  have Q13 := P13.ext hZ0
  have Q14 := P14.ext hZ0
  have Q10x := Q10.exa
  have Q11x := Q11.exa
  refine Seg.callS (y' := (⟨"com/example/wardn/wardn/rules/ErrorClass", "values", "()[Lcom/example/wardn/wardn/rules/ErrorClass;"⟩ : MethodName)) (wd G 88 rfl) (wd G 89 rfl) (wd G 83 rfl) (wd G 90 rfl) ⟨by decide, by decide⟩ (Pays.of_ct (W := 0) (ct_values G fb ua va s1 s2 oe kv h0 P) all0 (wd G 90 rfl) (wd G 83 rfl) (by decide) (by decide) rfl rfl) (argsL := []) (rest := []) rfl (lenOf pd_5 rfl) rfl (Nat.le_of_eq rfl) rfl d18_0 (pc' := 3) rfl (k' := 1) (n' := 2) rfl rfl (by decide) (by decide) ?_
  intro v_1 h_4 sz_2 q_3
  obtain ⟨r, kr, rfl, E1, A1⟩ := q_3
  refine Seg.astoreN (L' := #[.val (.ref a), .val (.ref r), .unset, .unset, .unset]) d18_3 rfl rfl (pc' := 4) rfl ?_
  refine Seg.aloadN d18_4 rfl rfl (pc' := 5) rfl ?_
  refine Seg.alen A1 d18_5 (pc' := 6) rfl ?_
  refine Seg.istoreN (L' := #[.val (.ref a), .val (.ref r), .val (.int (2 : Int32)), .unset, .unset]) d18_6 rfl (pc' := 7) rfl ?_
  refine Seg.iconst (v := 0) d18_7 (by decide) (pc' := 8) rfl ?_
  refine Seg.istoreN (L' := #[.val (.ref a), .val (.ref r), .val (.int (2 : Int32)), .val (.int (0 : Int32)), .unset]) d18_8 rfl (pc' := 9) rfl ?_
  refine Seg.iloadN d18_9 rfl (pc' := 10) rfl ?_
  refine Seg.iloadN d18_10 rfl (pc' := 11) rfl ?_
  refine Seg.icN d18_11 (by decide) (pc' := 14) rfl ?_
  refine Seg.aloadN d18_14 rfl rfl (pc' := 15) rfl ?_
  refine Seg.iloadN d18_15 rfl (pc' := 16) rfl ?_
  refine Seg.aaload (v := (.ref fb)) rfl A1 ⟨by decide, by decide⟩ rfl d18_16 (pc' := 17) rfl ?_
  refine Seg.astore (L' := #[.val (.ref a), .val (.ref r), .val (.int (2 : Int32)), .val (.int (0 : Int32)), .val (.ref fb)]) d18_17 rfl rfl (pc' := 19) rfl ?_
  refine Seg.aload d18_19 rfl rfl (pc' := 21) rfl ?_
  have F_5 := Q8.ext E1
  refine Seg.getF (host := "") (Or.inl (wd G 104 rfl)) Via.refl F_5 d18_21 (pc' := 24) rfl ?_
  refine Seg.aloadN d18_24 rfl rfl (pc' := 25) rfl ?_
  by_cases h1 : cs = FBL
  · have F_6 := Q10.ext E1
    have F_7 := F.ext E1
    have F_8 := Q10x.ext E1
    refine Seg.callV (y' := (⟨"java/lang/String", "equals", "(Ljava/lang/Object;)Z"⟩ : MethodName)) (z := (⟨"java/lang/String", "equals", "(Ljava/lang/Object;)Z"⟩ : MethodName)) (a := s1) (wd G 106 rfl) (wd G 74 rfl) (nf_sel (wd G 76 rfl)) (wd G 76 rfl) (wd G 75 rfl) ⟨by decide, by decide⟩ F_8 (pays_eqT (W := 0) G h_4 F_6 F_7 h1.symm (by decide) (by decide)) (argsL := [(.ref a)]) (rest := []) rfl (lenOf pd_6 rfl) rfl (Nat.le_of_eq rfl) rfl d18_25 (pc' := 28) rfl (k' := 1) (n' := 2) rfl rfl (by decide) (by decide) ?_
    intro v_9 h_12 sz_10 q_11
    obtain ⟨rfl, rfl⟩ := q_11
    refine Seg.ifN d18_28 (by decide) (pc' := 31) rfl ?_
    refine Seg.aload d18_31 rfl rfl (pc' := 33) rfl ?_
    refine Seg.callS (y' := (⟨"java/util/Optional", "of", "(Ljava/lang/Object;)Ljava/util/Optional;"⟩ : MethodName)) (wd G 107 rfl) (wd G 108 rfl) (wd G 109 rfl) (wd G 110 rfl) ⟨by decide, by decide⟩ (Pays.of_ct (W := 0) (ct_joof G fb h_4) all0 (wd G 110 rfl) (wd G 109 rfl) (by decide) (by decide) rfl rfl) (argsL := [(.ref fb)]) (rest := []) rfl (lenOf pd_7 rfl) rfl (Nat.le_of_eq rfl) rfl d18_33 (pc' := 36) rfl (k' := 2) (n' := 3) rfl rfl (by decide) (by decide) ?_
    intro v_13 h_16 sz_14 q_15
    obtain ⟨o, rfl, E2, A2, F2⟩ := q_15
    have E_17 : Ext h0 h_16 := ext_tr E1 E2
    exact Seg.retA rfl rfl rfl d18_36 (by decide) (by decide) ⟨o, rfl, E_17, A2, (show res1 cs fb ua = _ from if_pos h1).symm ▸ F2⟩
  · have F_18 := Q10.ext E1
    have F_19 := F.ext E1
    have F_20 := Q10x.ext E1
    refine Seg.callV (y' := (⟨"java/lang/String", "equals", "(Ljava/lang/Object;)Z"⟩ : MethodName)) (z := (⟨"java/lang/String", "equals", "(Ljava/lang/Object;)Z"⟩ : MethodName)) (a := s1) (wd G 106 rfl) (wd G 74 rfl) (nf_sel (wd G 76 rfl)) (wd G 76 rfl) (wd G 75 rfl) ⟨by decide, by decide⟩ F_20 (pays_eqF (W := 0) G h_4 F_18 F_19 (fun q => h1 q.symm) (by decide) (by decide)) (argsL := [(.ref a)]) (rest := []) rfl (lenOf pd_6 rfl) rfl (Nat.le_of_eq rfl) rfl d18_25 (pc' := 28) rfl (k' := 1) (n' := 2) rfl rfl (by decide) (by decide) ?_
    intro v_21 h_24 sz_22 q_23
    obtain ⟨rfl, rfl⟩ := q_23
    refine Seg.ifY (pc' := 37) d18_28 (by decide) (by decide) (by decide) ?_
    refine Seg.iinc (v := 1) (z := (1 : Int32)) (L' := #[.val (.ref a), .val (.ref r), .val (.int (2 : Int32)), .val (.int (1 : Int32)), .val (.ref fb)]) d18_37 (by decide) rfl (by decide) rfl (pc' := 40) rfl ?_
    refine Seg.goto (pc' := 9) d18_40 (by decide) (by decide) ?_
    refine Seg.iloadN d18_9 rfl (pc' := 10) rfl ?_
    refine Seg.iloadN d18_10 rfl (pc' := 11) rfl ?_
    refine Seg.icN d18_11 (by decide) (pc' := 14) rfl ?_
    refine Seg.aloadN d18_14 rfl rfl (pc' := 15) rfl ?_
    refine Seg.iloadN d18_15 rfl (pc' := 16) rfl ?_
    refine Seg.aaload (v := (.ref ua)) rfl A1 ⟨by decide, by decide⟩ rfl d18_16 (pc' := 17) rfl ?_
    refine Seg.astore (L' := #[.val (.ref a), .val (.ref r), .val (.int (2 : Int32)), .val (.int (1 : Int32)), .val (.ref ua)]) d18_17 rfl rfl (pc' := 19) rfl ?_
    refine Seg.aload d18_19 rfl rfl (pc' := 21) rfl ?_
    have F_25 := Q9.ext E1
    refine Seg.getF (host := "") (Or.inl (wd G 104 rfl)) Via.refl F_25 d18_21 (pc' := 24) rfl ?_
    refine Seg.aloadN d18_24 rfl rfl (pc' := 25) rfl ?_
    by_cases h2 : cs = UAL
    · have F_26 := Q11.ext E1
      have F_27 := Q11x.ext E1
      refine Seg.callV (y' := (⟨"java/lang/String", "equals", "(Ljava/lang/Object;)Z"⟩ : MethodName)) (z := (⟨"java/lang/String", "equals", "(Ljava/lang/Object;)Z"⟩ : MethodName)) (a := s2) (wd G 106 rfl) (wd G 74 rfl) (nf_sel (wd G 76 rfl)) (wd G 76 rfl) (wd G 75 rfl) ⟨by decide, by decide⟩ F_27 (pays_eqT (W := 0) G h_4 F_26 F_19 h2.symm (by decide) (by decide)) (argsL := [(.ref a)]) (rest := []) rfl (lenOf pd_6 rfl) rfl (Nat.le_of_eq rfl) rfl d18_25 (pc' := 28) rfl (k' := 1) (n' := 2) rfl rfl (by decide) (by decide) ?_
      intro v_28 h_31 sz_29 q_30
      obtain ⟨rfl, rfl⟩ := q_30
      refine Seg.ifN d18_28 (by decide) (pc' := 31) rfl ?_
      refine Seg.aload d18_31 rfl rfl (pc' := 33) rfl ?_
      refine Seg.callS (y' := (⟨"java/util/Optional", "of", "(Ljava/lang/Object;)Ljava/util/Optional;"⟩ : MethodName)) (wd G 107 rfl) (wd G 108 rfl) (wd G 109 rfl) (wd G 110 rfl) ⟨by decide, by decide⟩ (Pays.of_ct (W := 0) (ct_joof G ua h_4) all0 (wd G 110 rfl) (wd G 109 rfl) (by decide) (by decide) rfl rfl) (argsL := [(.ref ua)]) (rest := []) rfl (lenOf pd_7 rfl) rfl (Nat.le_of_eq rfl) rfl d18_33 (pc' := 36) rfl (k' := 2) (n' := 3) rfl rfl (by decide) (by decide) ?_
      intro v_32 h_35 sz_33 q_34
      obtain ⟨o, rfl, E2, A2, F2⟩ := q_34
      have E_36 : Ext h0 h_35 := ext_tr E1 E2
      exact Seg.retA rfl rfl rfl d18_36 (by decide) (by decide) ⟨o, rfl, E_36, A2, (show res1 cs fb ua = _ from (if_neg h1).trans (if_pos h2)).symm ▸ F2⟩
    · have F_37 := Q11.ext E1
      have F_38 := Q11x.ext E1
      refine Seg.callV (y' := (⟨"java/lang/String", "equals", "(Ljava/lang/Object;)Z"⟩ : MethodName)) (z := (⟨"java/lang/String", "equals", "(Ljava/lang/Object;)Z"⟩ : MethodName)) (a := s2) (wd G 106 rfl) (wd G 74 rfl) (nf_sel (wd G 76 rfl)) (wd G 76 rfl) (wd G 75 rfl) ⟨by decide, by decide⟩ F_38 (pays_eqF (W := 0) G h_4 F_37 F_19 (fun q => h2 q.symm) (by decide) (by decide)) (argsL := [(.ref a)]) (rest := []) rfl (lenOf pd_6 rfl) rfl (Nat.le_of_eq rfl) rfl d18_25 (pc' := 28) rfl (k' := 1) (n' := 2) rfl rfl (by decide) (by decide) ?_
      intro v_39 h_42 sz_40 q_41
      obtain ⟨rfl, rfl⟩ := q_41
      refine Seg.ifY (pc' := 37) d18_28 (by decide) (by decide) (by decide) ?_
      refine Seg.iinc (v := 1) (z := (2 : Int32)) (L' := #[.val (.ref a), .val (.ref r), .val (.int (2 : Int32)), .val (.int (2 : Int32)), .val (.ref ua)]) d18_37 (by decide) rfl (by decide) rfl (pc' := 40) rfl ?_
      refine Seg.goto (pc' := 9) d18_40 (by decide) (by decide) ?_
      refine Seg.iloadN d18_9 rfl (pc' := 10) rfl ?_
      refine Seg.iloadN d18_10 rfl (pc' := 11) rfl ?_
      refine Seg.icY (pc' := 43) d18_11 (by decide) (by decide) (by decide) ?_
      refine Seg.callS (y' := (⟨"java/util/Optional", "empty", "()Ljava/util/Optional;"⟩ : MethodName)) (wd G 133 rfl) (wd G 134 rfl) (wd G 109 rfl) (wd G 135 rfl) ⟨by decide, by decide⟩ (Pays.of_ct (W := 0) (ct_joempty G oe h_4 P12) all0 (wd G 135 rfl) (wd G 109 rfl) (by decide) (by decide) rfl rfl) (argsL := []) (rest := []) rfl (lenOf pd_8 rfl) rfl (Nat.le_of_eq rfl) rfl d18_43 (pc' := 46) rfl (k' := 1) (n' := 2) rfl rfl (by decide) (by decide) ?_
      intro v_43 h_46 sz_44 q_45
      obtain ⟨rfl, rfl⟩ := q_45
      have F_47 := Q13.ext E1
      have F_48 := Q14.ext E1
      exact Seg.retA rfl rfl rfl d18_46 (by decide) (by decide) ⟨oe, rfl, E1, F_47, (show res1 cs fb ua = _ from (if_neg h1).trans (if_neg h2)).symm ▸ F_48⟩
theorem pd_9 : parseMethodDescriptor "(Ljava/lang/String;)Ljava/util/Optional;" = some ⟨[(.object "java/lang/String")], some (.object "java/util/Optional")⟩ := by decide +kernel
set_option maxRecDepth 65536 in
set_option maxHeartbeats 4000000 in
theorem sg272 {l : Launch} {Z : State} {a0 : Array Value} (G : Env1 Z a0) (p1 : Int32) (p2 : Int64) (p3 : Int64) (p4 : Int32) (p5 : Int32) (m : Int32) (a : Addr) (k : Nat) (b : Addr) (s : Addr) (cs : List Int32) (h : Heap) (F : Str Z h s cs) :
    Seg l Z a0 EL1 x code maxLocals ret room_1 (fun v h => v = some (.int 1)) h 12 400 [] 272 #[.val (.int p1), .val (.long p2), .second, .val (.long p3), .second, .val (.int p4), .val (.int p5), .val (.int m), .val (.ref a), .val (.int (Int32.ofNat k)), .val (.ref b), .val (.ref s), .unset, .unset] [] := by
  obtain ⟨fb, ua, va, s1, s2, oe, kv, P⟩ := G.2.2.2.2
  refine Seg.start fun hZ0 => ?_
  obtain ⟨P1, P2, P3, P4, P5, P6, P7, P8, P9, P10, P11, P12, P13, P14⟩ := id P
  have Q4 := P4.ext hZ0
  have Q5 := P5.ext hZ0
  have Q6 := P6.ext hZ0
  have Q7 := P7.ext hZ0
  have Q8 := P8.ext hZ0
  have Q9 := P9.ext hZ0
  have Q10 := P10.ext hZ0
  have Q11 := P11.ext hZ0
  have Q13 := P13.ext hZ0
  have Q14 := P14.ext hZ0
  have Q10x := Q10.exa
  have Q11x := Q11.exa
  have Fx := F.exa
  refine Seg.anull at_272 (pc' := 273) rfl ?_
  refine Seg.astore (L' := #[.val (.int p1), .val (.long p2), .second, .val (.long p3), .second, .val (.int p4), .val (.int p5), .val (.int m), .val (.ref a), .val (.int (Int32.ofNat k)), .val (.ref b), .val (.ref s), .val Value.null, .unset]) at_273 rfl rfl (pc' := 275) rfl ?_
  refine Seg.aload at_275 rfl rfl (pc' := 277) rfl ?_
  refine Seg.ldcS (text := "forbidden") (vs := [(.int 102), (.int 111), (.int 114), (.int 98), (.int 105), (.int 100), (.int 100), (.int 101), (.int 110)]) (z := 9) (nn := 36) (wd G 0 rfl) (wS G) (by decide) (by decide +kernel) (by decide) (by decide) at_277 (pc' := 279) rfl (by decide) (by decide) (k' := 14) (n' := 440) rfl rfl (by decide) (by decide) ?_
  intro a_1 h_10 b_2 kb_3 E_4 A_5 F_6 F_7 A_8 ne_9
  have F_l1 : Str Z h_10 a_1 FBL := ⟨b_2, kb_3, 0, 9, _, A_5, F_7, F_6, A_8, cod_FBL, le16 all_FBL, (by decide)⟩
  by_cases h1 : cs = FBL
  · have F_11 := F.ext E_4
    have F_12 := Fx.ext E_4
    refine Seg.callV (y' := (⟨"java/lang/String", "equals", "(Ljava/lang/Object;)Z"⟩ : MethodName)) (z := (⟨"java/lang/String", "equals", "(Ljava/lang/Object;)Z"⟩ : MethodName)) (a := s) (wd G 73 rfl) (wd G 74 rfl) (nf_sel (wd G 76 rfl)) (wd G 76 rfl) (wd G 75 rfl) ⟨by decide, by decide⟩ F_12 (pays_eqT (W := 0) G h_10 F_11 F_l1 h1 (by decide) (by decide)) (argsL := [(.ref a_1)]) (rest := []) rfl (lenOf pd_6 rfl) rfl (Nat.le_of_eq rfl) rfl at_279 (pc' := 282) rfl (k' := 14) (n' := 440) rfl rfl (by decide) (by decide) ?_
    intro v_13 h_16 sz_14 q_15
    obtain ⟨rfl, rfl⟩ := q_15
    refine Seg.ifN at_282 (by decide) (pc' := 285) rfl ?_
    refine Seg.getS (wd G 82 rfl) Via.refl P1 at_285 (pc' := 288) rfl ?_
    refine Seg.astore (L' := #[.val (.int p1), .val (.long p2), .second, .val (.long p3), .second, .val (.int p4), .val (.int p5), .val (.int m), .val (.ref a), .val (.int (Int32.ofNat k)), .val (.ref b), .val (.ref s), .val (.ref fb), .unset]) at_288 rfl rfl (pc' := 290) rfl ?_
    refine Seg.goto (pc' := 308) at_290 (by decide) (by decide) ?_
    refine Seg.aload at_308 rfl rfl (pc' := 310) rfl ?_
    refine Seg.callS (y' := (⟨"com/example/wardn/wardn/rules/ErrorClass", "named", "(Ljava/lang/String;)Ljava/util/Optional;"⟩ : MethodName)) (wd G 85 rfl) (wd G 86 rfl) (wd G 83 rfl) (wd G 87 rfl) ⟨by decide, by decide⟩ (Pays.of_ct (W := 0) (ct_named G fb ua va s1 s2 oe kv s cs h_10 P F_11) all0 (wd G 87 rfl) (wd G 83 rfl) (by decide) (by decide) rfl rfl) (argsL := [(.ref s)]) (rest := []) rfl (lenOf pd_9 rfl) rfl (Nat.le_of_eq rfl) rfl at_310 (pc' := 313) rfl (k' := 16) (n' := 443) rfl rfl (by decide) (by decide) ?_
    intro v_17 h_20 sz_18 q_19
    obtain ⟨o, rfl, E9, A9, F9⟩ := q_19
    rw [show res1 cs fb ua = _ from if_pos h1] at F9
    refine Seg.anull at_313 (pc' := 314) rfl ?_
    refine Seg.callV (y' := (⟨"java/util/Optional", "orElse", "(Ljava/lang/Object;)Ljava/lang/Object;"⟩ : MethodName)) (z := (⟨"java/util/Optional", "orElse", "(Ljava/lang/Object;)Ljava/lang/Object;"⟩ : MethodName)) (a := o) (wd G 124 rfl) (wd G 125 rfl) (nf_sel (wd G 127 rfl)) (wd G 127 rfl) (wd G 126 rfl) ⟨by decide, by decide⟩ A9 (Pays.of_ct (W := 0) (ct_orElse G o fb h_20 F9) all0 (wd G 128 rfl) (wd G 109 rfl) (by decide) (by decide) rfl rfl) (argsL := [Value.null]) (rest := []) rfl (lenOf pd_3 rfl) rfl (Nat.le_of_eq rfl) rfl at_314 (pc' := 317) rfl (k' := 16) (n' := 443) rfl rfl (by decide) (by decide) ?_
    intro v_21 h_24 sz_22 q_23
    obtain ⟨rfl, rfl⟩ := q_23
    have E_25 : Ext h h_20 := ext_tr E_4 E9
    have F_26 := Q4.ext E_25
    refine Seg.castY (wd G 129 rfl) (Ins.self F_26) at_317 (pc' := 320) rfl ?_
    refine Seg.astore (L' := #[.val (.int p1), .val (.long p2), .second, .val (.long p3), .second, .val (.int p4), .val (.int p5), .val (.int m), .val (.ref a), .val (.int (Int32.ofNat k)), .val (.ref b), .val (.ref s), .val (.ref fb), .val (.ref fb)]) at_320 rfl rfl (pc' := 322) rfl ?_
    refine Seg.aload at_322 rfl rfl (pc' := 324) rfl ?_
    refine Seg.aload at_324 rfl rfl (pc' := 326) rfl ?_
    refine Seg.acN at_326 rfl rfl (XT.aa_ne_f rfl) (pc' := 329) rfl ?_
    refine Seg.iconst (v := 1) at_329 (by decide) (pc' := 330) rfl ?_
    refine Seg.goto (pc' := 334) at_330 (by decide) (by decide) ?_
    exact Seg.retN (t := .boolean) (w := (1 : Int32)) rfl (by decide) (by decide) at_334 (by decide) (by decide) rfl
  · have F_27 := F.ext E_4
    have F_28 := Fx.ext E_4
    refine Seg.callV (y' := (⟨"java/lang/String", "equals", "(Ljava/lang/Object;)Z"⟩ : MethodName)) (z := (⟨"java/lang/String", "equals", "(Ljava/lang/Object;)Z"⟩ : MethodName)) (a := s) (wd G 73 rfl) (wd G 74 rfl) (nf_sel (wd G 76 rfl)) (wd G 76 rfl) (wd G 75 rfl) ⟨by decide, by decide⟩ F_28 (pays_eqF (W := 0) G h_10 F_27 F_l1 h1 (by decide) (by decide)) (argsL := [(.ref a_1)]) (rest := []) rfl (lenOf pd_6 rfl) rfl (Nat.le_of_eq rfl) rfl at_279 (pc' := 282) rfl (k' := 14) (n' := 440) rfl rfl (by decide) (by decide) ?_
    intro v_29 h_32 sz_30 q_31
    obtain ⟨rfl, rfl⟩ := q_31
    refine Seg.ifY (pc' := 293) at_282 (by decide) (by decide) (by decide) ?_
    refine Seg.aload at_293 rfl rfl (pc' := 295) rfl ?_
    refine Seg.ldcS (text := "unauthorized") (vs := [(.int 117), (.int 110), (.int 97), (.int 117), (.int 116), (.int 104), (.int 111), (.int 114), (.int 105), (.int 122), (.int 101), (.int 100)]) (z := 12) (nn := 48) (wd G 132 rfl) (wS G) (by decide) (by decide +kernel) (by decide) (by decide) at_295 (pc' := 297) rfl (by decide) (by decide) (k' := 16) (n' := 492) rfl rfl (by decide) (by decide) ?_
    intro a_33 h_42 b_34 kb_35 E_36 A_37 F_38 F_39 A_40 ne_41
    have F_l2 : Str Z h_42 a_33 UAL := ⟨b_34, kb_35, 0, 12, _, A_37, F_39, F_38, A_40, cod_UAL, le16 all_UAL, (by decide)⟩
    by_cases h2 : cs = UAL
    · have F_43 := F_27.ext E_36
      have F_44 := F_28.ext E_36
      refine Seg.callV (y' := (⟨"java/lang/String", "equals", "(Ljava/lang/Object;)Z"⟩ : MethodName)) (z := (⟨"java/lang/String", "equals", "(Ljava/lang/Object;)Z"⟩ : MethodName)) (a := s) (wd G 73 rfl) (wd G 74 rfl) (nf_sel (wd G 76 rfl)) (wd G 76 rfl) (wd G 75 rfl) ⟨by decide, by decide⟩ F_44 (pays_eqT (W := 0) G h_42 F_43 F_l2 h2 (by decide) (by decide)) (argsL := [(.ref a_33)]) (rest := []) rfl (lenOf pd_6 rfl) rfl (Nat.le_of_eq rfl) rfl at_297 (pc' := 300) rfl (k' := 16) (n' := 492) rfl rfl (by decide) (by decide) ?_
      intro v_45 h_48 sz_46 q_47
      obtain ⟨rfl, rfl⟩ := q_47
      refine Seg.ifN at_300 (by decide) (pc' := 303) rfl ?_
      refine Seg.getS (wd G 138 rfl) Via.refl P2 at_303 (pc' := 306) rfl ?_
      refine Seg.astore (L' := #[.val (.int p1), .val (.long p2), .second, .val (.long p3), .second, .val (.int p4), .val (.int p5), .val (.int m), .val (.ref a), .val (.int (Int32.ofNat k)), .val (.ref b), .val (.ref s), .val (.ref ua), .unset]) at_306 rfl rfl (pc' := 308) rfl ?_
      refine Seg.aload at_308 rfl rfl (pc' := 310) rfl ?_
      refine Seg.callS (y' := (⟨"com/example/wardn/wardn/rules/ErrorClass", "named", "(Ljava/lang/String;)Ljava/util/Optional;"⟩ : MethodName)) (wd G 85 rfl) (wd G 86 rfl) (wd G 83 rfl) (wd G 87 rfl) ⟨by decide, by decide⟩ (Pays.of_ct (W := 0) (ct_named G fb ua va s1 s2 oe kv s cs h_42 P F_43) all0 (wd G 87 rfl) (wd G 83 rfl) (by decide) (by decide) rfl rfl) (argsL := [(.ref s)]) (rest := []) rfl (lenOf pd_9 rfl) rfl (Nat.le_of_eq rfl) rfl at_310 (pc' := 313) rfl (k' := 18) (n' := 495) rfl rfl (by decide) (by decide) ?_
      intro v_49 h_52 sz_50 q_51
      obtain ⟨o, rfl, E9, A9, F9⟩ := q_51
      rw [show res1 cs fb ua = _ from (if_neg h1).trans (if_pos h2)] at F9
      refine Seg.anull at_313 (pc' := 314) rfl ?_
      refine Seg.callV (y' := (⟨"java/util/Optional", "orElse", "(Ljava/lang/Object;)Ljava/lang/Object;"⟩ : MethodName)) (z := (⟨"java/util/Optional", "orElse", "(Ljava/lang/Object;)Ljava/lang/Object;"⟩ : MethodName)) (a := o) (wd G 124 rfl) (wd G 125 rfl) (nf_sel (wd G 127 rfl)) (wd G 127 rfl) (wd G 126 rfl) ⟨by decide, by decide⟩ A9 (Pays.of_ct (W := 0) (ct_orElse G o ua h_52 F9) all0 (wd G 128 rfl) (wd G 109 rfl) (by decide) (by decide) rfl rfl) (argsL := [Value.null]) (rest := []) rfl (lenOf pd_3 rfl) rfl (Nat.le_of_eq rfl) rfl at_314 (pc' := 317) rfl (k' := 18) (n' := 495) rfl rfl (by decide) (by decide) ?_
      intro v_53 h_56 sz_54 q_55
      obtain ⟨rfl, rfl⟩ := q_55
      have E_57 : Ext h h_42 := ext_tr E_4 E_36
      have E_58 : Ext h h_52 := ext_tr E_57 E9
      have F_59 := Q5.ext E_58
      refine Seg.castY (wd G 129 rfl) (Ins.self F_59) at_317 (pc' := 320) rfl ?_
      refine Seg.astore (L' := #[.val (.int p1), .val (.long p2), .second, .val (.long p3), .second, .val (.int p4), .val (.int p5), .val (.int m), .val (.ref a), .val (.int (Int32.ofNat k)), .val (.ref b), .val (.ref s), .val (.ref ua), .val (.ref ua)]) at_320 rfl rfl (pc' := 322) rfl ?_
      refine Seg.aload at_322 rfl rfl (pc' := 324) rfl ?_
      refine Seg.aload at_324 rfl rfl (pc' := 326) rfl ?_
      refine Seg.acN at_326 rfl rfl (XT.aa_ne_f rfl) (pc' := 329) rfl ?_
      refine Seg.iconst (v := 1) at_329 (by decide) (pc' := 330) rfl ?_
      refine Seg.goto (pc' := 334) at_330 (by decide) (by decide) ?_
      exact Seg.retN (t := .boolean) (w := (1 : Int32)) rfl (by decide) (by decide) at_334 (by decide) (by decide) rfl
    · have F_60 := F_27.ext E_36
      have F_61 := F_28.ext E_36
      refine Seg.callV (y' := (⟨"java/lang/String", "equals", "(Ljava/lang/Object;)Z"⟩ : MethodName)) (z := (⟨"java/lang/String", "equals", "(Ljava/lang/Object;)Z"⟩ : MethodName)) (a := s) (wd G 73 rfl) (wd G 74 rfl) (nf_sel (wd G 76 rfl)) (wd G 76 rfl) (wd G 75 rfl) ⟨by decide, by decide⟩ F_61 (pays_eqF (W := 0) G h_42 F_60 F_l2 h2 (by decide) (by decide)) (argsL := [(.ref a_33)]) (rest := []) rfl (lenOf pd_6 rfl) rfl (Nat.le_of_eq rfl) rfl at_297 (pc' := 300) rfl (k' := 16) (n' := 492) rfl rfl (by decide) (by decide) ?_
      intro v_62 h_65 sz_63 q_64
      obtain ⟨rfl, rfl⟩ := q_64
      refine Seg.ifY (pc' := 308) at_300 (by decide) (by decide) (by decide) ?_
      refine Seg.aload at_308 rfl rfl (pc' := 310) rfl ?_
      refine Seg.callS (y' := (⟨"com/example/wardn/wardn/rules/ErrorClass", "named", "(Ljava/lang/String;)Ljava/util/Optional;"⟩ : MethodName)) (wd G 85 rfl) (wd G 86 rfl) (wd G 83 rfl) (wd G 87 rfl) ⟨by decide, by decide⟩ (Pays.of_ct (W := 0) (ct_named G fb ua va s1 s2 oe kv s cs h_42 P F_60) all0 (wd G 87 rfl) (wd G 83 rfl) (by decide) (by decide) rfl rfl) (argsL := [(.ref s)]) (rest := []) rfl (lenOf pd_9 rfl) rfl (Nat.le_of_eq rfl) rfl at_310 (pc' := 313) rfl (k' := 18) (n' := 495) rfl rfl (by decide) (by decide) ?_
      intro v_66 h_69 sz_67 q_68
      obtain ⟨o, rfl, E9, A9, F9⟩ := q_68
      rw [show res1 cs fb ua = _ from (if_neg h1).trans (if_neg h2)] at F9
      refine Seg.anull at_313 (pc' := 314) rfl ?_
      refine Seg.callV (y' := (⟨"java/util/Optional", "orElse", "(Ljava/lang/Object;)Ljava/lang/Object;"⟩ : MethodName)) (z := (⟨"java/util/Optional", "orElse", "(Ljava/lang/Object;)Ljava/lang/Object;"⟩ : MethodName)) (a := o) (wd G 124 rfl) (wd G 125 rfl) (nf_sel (wd G 127 rfl)) (wd G 127 rfl) (wd G 126 rfl) ⟨by decide, by decide⟩ A9 (Pays.of_ct (W := 0) (ct_orElseN G o h_69 F9) all0 (wd G 128 rfl) (wd G 109 rfl) (by decide) (by decide) rfl rfl) (argsL := [Value.null]) (rest := []) rfl (lenOf pd_3 rfl) rfl (Nat.le_of_eq rfl) rfl at_314 (pc' := 317) rfl (k' := 18) (n' := 495) rfl rfl (by decide) (by decide) ?_
      intro v_70 h_73 sz_71 q_72
      obtain ⟨rfl, rfl⟩ := q_72
      refine Seg.castNull at_317 (pc' := 320) rfl ?_
      refine Seg.astore (L' := #[.val (.int p1), .val (.long p2), .second, .val (.long p3), .second, .val (.int p4), .val (.int p5), .val (.int m), .val (.ref a), .val (.int (Int32.ofNat k)), .val (.ref b), .val (.ref s), .val Value.null, .val Value.null]) at_320 rfl rfl (pc' := 322) rfl ?_
      refine Seg.aload at_322 rfl rfl (pc' := 324) rfl ?_
      refine Seg.aload at_324 rfl rfl (pc' := 326) rfl ?_
      refine Seg.acN at_326 rfl rfl (XT.aa_ne_f rfl) (pc' := 329) rfl ?_
      refine Seg.iconst (v := 1) at_329 (by decide) (pc' := 330) rfl ?_
      refine Seg.goto (pc' := 334) at_330 (by decide) (by decide) ?_
      exact Seg.retN (t := .boolean) (w := (1 : Int32)) rfl (by decide) (by decide) at_334 (by decide) (by decide) rfl
theorem pd_10 : parseMethodDescriptor "([CI)[C" = some ⟨[(.array .char), .int], some (.array .char)⟩ := by decide +kernel
theorem pd_11 : parseMethodDescriptor "([C)V" = some ⟨[(.array .char)], none⟩ := by decide +kernel
set_option maxRecDepth 65536 in
set_option maxHeartbeats 4000000 in
theorem sg256 {l : Launch} {Z : State} {a0 : Array Value} (G : Env1 Z a0) (p1 : Int32) (p2 : Int64) (p3 : Int64) (p4 : Int32) (p5 : Int32) (m : Int32) (a : Addr) (k : Nat) (b : Addr) (kb : ClassId) (ds : List Int32) (h : Heap) (hd : ds.length = 13) (hc : ∀ c ∈ ds, ¬ c < 0 ∧ ¬ (255 : Int32) < c) (hk : k ≤ 13) (K : Arv Z h b kb .char 13 (ds.map Value.int) (.int 0)) :
    Seg l Z a0 EL1 x code maxLocals ret room_1 (fun v h => v = some (.int 1)) h 4 100 [] 256 #[.val (.int p1), .val (.long p2), .second, .val (.long p3), .second, .val (.int p4), .val (.int p5), .val (.int m), .val (.ref a), .val (.int (Int32.ofNat k)), .val (.ref b), .unset, .unset, .unset] [] := by
  refine Seg.newO (wd G 49 rfl) (wd G 2 rfl) (wd G 1 rfl) at_256 (pc' := 259) rfl (k' := 5) (n' := 104) rfl rfl (by decide) (by decide) ?_
  intro b_1 h_3 E_2 e_b_1 l_b_1 A_b_1 D_b_1
  have F_value_b_1 : Fld Z h_3 b_1 "java/lang/String" "value" "[B" Value.null := D_b_1 (Or.inr (wd G 4 rfl)) (ty := (.array .byte)) (by decide)
  have F_coder_b_1 : Fld Z h_3 b_1 "java/lang/String" "coder" "B" (.int (0 : Int32)) := D_b_1 (Or.inr (wd G 5 rfl)) (ty := .byte) (by decide)
  refine Seg.dup at_259 rfl (pc' := 260) rfl ?_
  refine Seg.aload at_260 rfl rfl (pc' := 262) rfl ?_
  refine Seg.iload at_262 rfl (pc' := 264) rfl ?_
  have F_4 := K.ext E_2
  refine Seg.callS (y' := (⟨"com/example/wardn/wardn/rules/ErrorClassNamedPinLaw", "cut", "([CI)[C"⟩ : MethodName)) (wd G 50 rfl) (wd G 51 rfl) (wd G 24 rfl) (wd G 52 rfl) ⟨by decide, by decide⟩ (Pays.of_ct (W := 2) (ct_cut G b kb ds k h_3 hd hc hk F_4) all0 (wd G 52 rfl) (wd G 24 rfl) (by decide) (by decide) rfl rfl) (argsL := [(.ref b), (.int (Int32.ofNat k))]) (rest := [(.ref b_1), (.ref b_1)]) rfl (lenOf pd_10 rfl) rfl (Nat.le_of_eq rfl) rfl at_264 (pc' := 267) rfl (k' := 6) (n' := 117) rfl rfl (by decide) (by decide) ?_
  intro v_5 h_8 sz_6 q_7
  obtain ⟨r, kr, rfl, E1, g1, A1⟩ := q_7
  have F_9 := A_b_1.ext E1
  have F_10 := F_value_b_1.ext E1
  have F_11 := F_coder_b_1.ext E1
  by_cases h1 : k = 0
  · subst h1
    refine Seg.callN (y' := (⟨"java/lang/String", "<init>", "([C)V"⟩ : MethodName)) (a := b_1) rfl (wd G 53 rfl) (wd G 54 rfl) (wd G 55 rfl) ⟨by decide, by decide⟩ (Pays.of_ct (W := 1) (ct_sie G b_1 r .null (.int 0) kr (.int 0) h_8 F_9 F_10 F_11 A1) (allS (List.mem_of_getElem? (i := 0) rfl) all0) (wd G 55 rfl) (wd G 1 rfl) (by decide) (by decide) rfl rfl) (argsL := [(.ref r)]) (rest := [(.ref b_1)]) rfl (lenOf pd_11 rfl) rfl (Nat.le_of_eq rfl) rfl at_267 (pc' := 270) rfl (k' := 10) (n' := 125) rfl rfl (by decide) (by decide) ?_
    intro v_12 h_15 sz_13 q_14
    obtain ⟨rfl, K8, F8⟩ := q_14
    refine Seg.astore (L' := #[.val (.int p1), .val (.long p2), .second, .val (.long p3), .second, .val (.int p4), .val (.int p5), .val (.int m), .val (.ref a), .val (.int (Int32.ofNat 0)), .val (.ref b), .val (.ref b_1), .unset, .unset]) at_270 rfl rfl (pc' := 272) rfl ?_
    exact (sg272 G p1 p2 p3 p4 p5 m a 0 b b_1 [] h_15 F8).mono (by decide) (by decide) all0
  · refine Seg.callN (y' := (⟨"java/lang/String", "<init>", "([C)V"⟩ : MethodName)) (a := b_1) rfl (wd G 53 rfl) (wd G 54 rfl) (wd G 55 rfl) ⟨by decide, by decide⟩ ((pays_str (W := 1) G (ds.take k) k h_8 F_9 F_10 F_11 A1 (by rw [List.length_take]; omega) rfl (by omega) (by omega) (fun c q => hc c (List.mem_of_mem_take q)) (List.mem_of_getElem? (i := 0) rfl) (by decide) (by decide)).more (Nat.le_refl _) hk) (argsL := [(.ref r)]) (rest := [(.ref b_1)]) rfl (lenOf pd_11 rfl) rfl (Nat.le_of_eq rfl) rfl at_267 (pc' := 270) rfl (k' := 7) (n' := 130) rfl rfl (by decide) (by decide) ?_
    intro v_16 h_19 sz_17 q_18
    obtain ⟨rfl, K8, F8⟩ := q_18
    refine Seg.astore (L' := #[.val (.int p1), .val (.long p2), .second, .val (.long p3), .second, .val (.int p4), .val (.int p5), .val (.int m), .val (.ref a), .val (.int (Int32.ofNat k)), .val (.ref b), .val (.ref b_1), .unset, .unset]) at_270 rfl rfl (pc' := 272) rfl ?_
    exact (sg272 G p1 p2 p3 p4 p5 m a k b b_1 (ds.take k) h_19 F8).mono (by decide) (by decide) all0
set_option maxRecDepth 65536 in
set_option maxHeartbeats 4000000 in
theorem sg232 {l : Launch} {Z : State} {a0 : Array Value} (G : Env1 Z a0) (p1 : Int32) (p2 : Int64) (p3 : Int64) (p4 : Int32) (p5 : Int32) (m : Int32) (a : Addr) (k : Nat) (b : Addr) (kb : ClassId) (ds : List Int32) (h : Heap) (hd : ds.length = 13) (hc : ∀ c ∈ ds, ¬ c < 0 ∧ ¬ (255 : Int32) < c) (hk : k ≤ 13) (K : Arv Z h b kb .char 13 (ds.map Value.int) (.int 0)) :
    Seg l Z a0 EL1 x code maxLocals ret room_1 (fun v h => v = some (.int 1)) h 4 100 [b] 232 #[.val (.int p1), .val (.long p2), .second, .val (.long p3), .second, .val (.int p4), .val (.int p5), .val (.int m), .val (.ref a), .val (.int (Int32.ofNat k)), .val (.ref b), .unset, .unset, .unset] [] := by
  refine Seg.iload at_232 rfl (pc' := 234) rfl ?_
  refine Seg.iconst (v := 1) at_234 (by decide) (pc' := 235) rfl ?_
  refine Seg.iand (v := (p4 &&& (1 : Int32))) at_235 rfl (pc' := 236) rfl ?_
  by_cases h1 : (p4 &&& (1 : Int32)) = 0
  · refine Seg.ifY (pc' := 256) at_236 (XT.i0_eq_t h1) (by decide) (by decide) ?_
    exact (sg256 G p1 p2 p3 p4 p5 m a k b kb ds h hd hc hk K).mono (by decide) (by decide) all0
  · refine Seg.ifN at_236 (XT.i0_eq_f h1) (pc' := 239) rfl ?_
    refine Seg.aload at_239 rfl rfl (pc' := 241) rfl ?_
    refine Seg.iload at_241 rfl (pc' := 243) rfl ?_
    refine Seg.iconst (v := 1) at_243 (by decide) (pc' := 244) rfl ?_
    refine Seg.iushr (v := ((p4).toUInt32 >>> ((1 : Int32) &&& 31).toUInt32).toInt32) at_244 rfl (pc' := 245) rfl ?_
    refine Seg.bipush (v := 13) at_245 (by decide) (pc' := 247) rfl ?_
    obtain ⟨j, hj, ej⟩ := rem_ushr p4 1 1 13 (by decide) (by decide) (by decide) (by decide)
    refine Seg.irem (v := (Int32.ofNat j)) at_247 (by decide) ej (pc' := 248) rfl ?_
    refine Seg.iload at_248 rfl (pc' := 250) rfl ?_
    refine Seg.sipush (v := 255) at_250 (by decide) (pc' := 253) rfl ?_
    refine Seg.iand (v := (p5 &&& (255 : Int32))) at_253 rfl (pc' := 254) rfl ?_
    refine Seg.i2c (v := (p5 &&& (255 : Int32))) at_254 (i2c_mask _) (pc' := 255) rfl ?_
    refine Seg.castore (v' := (p5 &&& (255 : Int32))) (i := j) K (n32in (n := 13) hj (by decide)) (n32c (by omega)) (by rw [List.length_map]; omega) (i2c_mask _) (List.mem_of_getElem? (i := 0) rfl) at_255 (pc' := 256) rfl ?_
    intro h' W A
    rw [← List.map_set] at A
    exact (sg256 G p1 p2 p3 p4 p5 m a k b kb _ h' (by rw [List.length_set]; exact hd) (all_set hc (and255 _)) hk A).mono (by decide) (by decide) all0
theorem pd_12 : parseMethodDescriptor "(Ljava/lang/String;IJJ)C" = some ⟨[(.object "java/lang/String"), .int, .long, .long], some .char⟩ := by decide +kernel
set_option maxRecDepth 65536 in
set_option maxHeartbeats 4000000 in
theorem sg56 {l : Launch} {Z : State} {a0 : Array Value} (G : Env1 Z a0) (p1 : Int32) (p2 : Int64) (p3 : Int64) (p4 : Int32) (p5 : Int32) (m : Int32) (a : Addr) (bs : List Int32) (k : Nat) (h : Heap) (F : Str Z h a bs) (hb : ∀ c ∈ bs, ¬ c < 0 ∧ ¬ (255 : Int32) < c) (hl : bs.length ≤ 12) (hk : k ≤ 13) :
    Seg l Z a0 EL1 x code maxLocals ret room_1 (fun v h => v = some (.int 1)) h 2 60 [] 56 #[.val (.int p1), .val (.long p2), .second, .val (.long p3), .second, .val (.int p4), .val (.int p5), .val (.int m), .val (.ref a), .val (.int (Int32.ofNat k)), .unset, .unset, .unset, .unset] [] := by
  refine Seg.bipush (v := 13) at_56 (by decide) (pc' := 58) rfl ?_
  refine Seg.newP (ty := .char) (dv := (.int 0)) rfl rfl (wd G 21 rfl) at_58 (pc' := 60) rfl (by decide) (cap := 13) (by decide) (by decide) (k' := 3) (n' := 73) rfl rfl (by decide) (by decide) ?_
  intro b_1 h_3 k_b_1 E_2 e_b_1 l_b_1 A_b_1
  replace A_b_1 : Arv Z h_3 b_1 k_b_1 .char (13 : Int32) [(.int (0 : Int32)), (.int (0 : Int32)), (.int (0 : Int32)), (.int (0 : Int32)), (.int (0 : Int32)), (.int (0 : Int32)), (.int (0 : Int32)), (.int (0 : Int32)), (.int (0 : Int32)), (.int (0 : Int32)), (.int (0 : Int32)), (.int (0 : Int32)), (.int (0 : Int32))] (.int 0) := A_b_1.pad (pad_rep [] (.int 0) 13)
  refine Seg.astore (L' := #[.val (.int p1), .val (.long p2), .second, .val (.long p3), .second, .val (.int p4), .val (.int p5), .val (.int m), .val (.ref a), .val (.int (Int32.ofNat k)), .val (.ref b_1), .unset, .unset, .unset]) at_60 rfl rfl (pc' := 62) rfl ?_
  refine Seg.aload at_62 rfl rfl (pc' := 64) rfl ?_
  refine Seg.iconst (v := 0) at_64 (by decide) (pc' := 65) rfl ?_
  refine Seg.aload at_65 rfl rfl (pc' := 67) rfl ?_
  refine Seg.iconst (v := 0) at_67 (by decide) (pc' := 68) rfl ?_
  refine Seg.lloadN at_68 rfl (pc' := 69) rfl ?_
  refine Seg.lloadN at_69 rfl (pc' := 70) rfl ?_
  have F_4 := F.ext E_2
  refine Seg.callS (y' := (⟨"com/example/wardn/wardn/rules/ErrorClassNamedPinLaw", "pick", "(Ljava/lang/String;IJJ)C"⟩ : MethodName)) (wd G 22 rfl) (wd G 23 rfl) (wd G 24 rfl) (wd G 25 rfl) ⟨by decide, by decide⟩ (Pays.of_ct (W := 2) (ct_pick G a bs 0 p2 p3 h_3 F_4 hb hl (by decide)) all0 (wd G 25 rfl) (wd G 24 rfl) (by decide) (by decide) rfl rfl) (argsL := [(.ref a), (.int (0 : Int32)), (.long p2), (.long p3)]) (rest := [(.int (0 : Int32)), (.ref b_1)]) rfl (lenOf pd_12 rfl) rfl (Nat.le_of_eq rfl) rfl at_70 (pc' := 73) rfl (k' := 3) (n' := 73) rfl rfl (by decide) (by decide) ?_
  intro v_5 h_8 sz_6 q_7
  obtain ⟨d0, rfl, rfl, z0⟩ := q_7
  refine Seg.castore (v' := d0) (i := 0) A_b_1 ⟨by decide, by decide⟩ rfl (Nat.le_of_ble_eq_true rfl) (nar255 z0) (List.mem_of_getElem? (i := 0) rfl) at_73 (pc' := 74) rfl ?_
  intro h_11 W_9 A_10
  replace A_10 : Arv Z h_11 b_1 k_b_1 .char (13 : Int32) [(.int d0), (.int (0 : Int32)), (.int (0 : Int32)), (.int (0 : Int32)), (.int (0 : Int32)), (.int (0 : Int32)), (.int (0 : Int32)), (.int (0 : Int32)), (.int (0 : Int32)), (.int (0 : Int32)), (.int (0 : Int32)), (.int (0 : Int32)), (.int (0 : Int32))] (.int 0) := A_10
  refine Seg.aload at_74 rfl rfl (pc' := 76) rfl ?_
  refine Seg.iconst (v := 1) at_76 (by decide) (pc' := 77) rfl ?_
  refine Seg.aload at_77 rfl rfl (pc' := 79) rfl ?_
  refine Seg.iconst (v := 1) at_79 (by decide) (pc' := 80) rfl ?_
  refine Seg.lloadN at_80 rfl (pc' := 81) rfl ?_
  refine Seg.lloadN at_81 rfl (pc' := 82) rfl ?_
  have E_12 : Ext h h_11 := ext_wr E_2 W_9 (Nat.le_trans (ext_rfl _).1 (Nat.le_of_eq e_b_1))
  have F_13 := F.ext E_12
  refine Seg.callS (y' := (⟨"com/example/wardn/wardn/rules/ErrorClassNamedPinLaw", "pick", "(Ljava/lang/String;IJJ)C"⟩ : MethodName)) (wd G 22 rfl) (wd G 23 rfl) (wd G 24 rfl) (wd G 25 rfl) ⟨by decide, by decide⟩ (Pays.of_ct (W := 2) (ct_pick G a bs 1 p2 p3 h_11 F_13 hb hl (by decide)) all0 (wd G 25 rfl) (wd G 24 rfl) (by decide) (by decide) rfl rfl) (argsL := [(.ref a), (.int (1 : Int32)), (.long p2), (.long p3)]) (rest := [(.int (1 : Int32)), (.ref b_1)]) rfl (lenOf pd_12 rfl) rfl (Nat.le_of_eq rfl) rfl at_82 (pc' := 85) rfl (k' := 3) (n' := 73) rfl rfl (by decide) (by decide) ?_
  intro v_14 h_17 sz_15 q_16
  obtain ⟨d1, rfl, rfl, z1⟩ := q_16
  refine Seg.castore (v' := d1) (i := 1) A_10 ⟨by decide, by decide⟩ rfl (Nat.le_of_ble_eq_true rfl) (nar255 z1) (List.mem_of_getElem? (i := 0) rfl) at_85 (pc' := 86) rfl ?_
  intro h_20 W_18 A_19
  replace A_19 : Arv Z h_20 b_1 k_b_1 .char (13 : Int32) [(.int d0), (.int d1), (.int (0 : Int32)), (.int (0 : Int32)), (.int (0 : Int32)), (.int (0 : Int32)), (.int (0 : Int32)), (.int (0 : Int32)), (.int (0 : Int32)), (.int (0 : Int32)), (.int (0 : Int32)), (.int (0 : Int32)), (.int (0 : Int32))] (.int 0) := A_19
  refine Seg.aload at_86 rfl rfl (pc' := 88) rfl ?_
  refine Seg.iconst (v := 2) at_88 (by decide) (pc' := 89) rfl ?_
  refine Seg.aload at_89 rfl rfl (pc' := 91) rfl ?_
  refine Seg.iconst (v := 2) at_91 (by decide) (pc' := 92) rfl ?_
  refine Seg.lloadN at_92 rfl (pc' := 93) rfl ?_
  refine Seg.lloadN at_93 rfl (pc' := 94) rfl ?_
  have E_21 : Ext h h_20 := ext_wr E_12 W_18 (Nat.le_trans (ext_rfl _).1 (Nat.le_of_eq e_b_1))
  have F_22 := F.ext E_21
  refine Seg.callS (y' := (⟨"com/example/wardn/wardn/rules/ErrorClassNamedPinLaw", "pick", "(Ljava/lang/String;IJJ)C"⟩ : MethodName)) (wd G 22 rfl) (wd G 23 rfl) (wd G 24 rfl) (wd G 25 rfl) ⟨by decide, by decide⟩ (Pays.of_ct (W := 2) (ct_pick G a bs 2 p2 p3 h_20 F_22 hb hl (by decide)) all0 (wd G 25 rfl) (wd G 24 rfl) (by decide) (by decide) rfl rfl) (argsL := [(.ref a), (.int (2 : Int32)), (.long p2), (.long p3)]) (rest := [(.int (2 : Int32)), (.ref b_1)]) rfl (lenOf pd_12 rfl) rfl (Nat.le_of_eq rfl) rfl at_94 (pc' := 97) rfl (k' := 3) (n' := 73) rfl rfl (by decide) (by decide) ?_
  intro v_23 h_26 sz_24 q_25
  obtain ⟨d2, rfl, rfl, z2⟩ := q_25
  refine Seg.castore (v' := d2) (i := 2) A_19 ⟨by decide, by decide⟩ rfl (Nat.le_of_ble_eq_true rfl) (nar255 z2) (List.mem_of_getElem? (i := 0) rfl) at_97 (pc' := 98) rfl ?_
  intro h_29 W_27 A_28
  replace A_28 : Arv Z h_29 b_1 k_b_1 .char (13 : Int32) [(.int d0), (.int d1), (.int d2), (.int (0 : Int32)), (.int (0 : Int32)), (.int (0 : Int32)), (.int (0 : Int32)), (.int (0 : Int32)), (.int (0 : Int32)), (.int (0 : Int32)), (.int (0 : Int32)), (.int (0 : Int32)), (.int (0 : Int32))] (.int 0) := A_28
  refine Seg.aload at_98 rfl rfl (pc' := 100) rfl ?_
  refine Seg.iconst (v := 3) at_100 (by decide) (pc' := 101) rfl ?_
  refine Seg.aload at_101 rfl rfl (pc' := 103) rfl ?_
  refine Seg.iconst (v := 3) at_103 (by decide) (pc' := 104) rfl ?_
  refine Seg.lloadN at_104 rfl (pc' := 105) rfl ?_
  refine Seg.lloadN at_105 rfl (pc' := 106) rfl ?_
  have E_30 : Ext h h_29 := ext_wr E_21 W_27 (Nat.le_trans (ext_rfl _).1 (Nat.le_of_eq e_b_1))
  have F_31 := F.ext E_30
  refine Seg.callS (y' := (⟨"com/example/wardn/wardn/rules/ErrorClassNamedPinLaw", "pick", "(Ljava/lang/String;IJJ)C"⟩ : MethodName)) (wd G 22 rfl) (wd G 23 rfl) (wd G 24 rfl) (wd G 25 rfl) ⟨by decide, by decide⟩ (Pays.of_ct (W := 2) (ct_pick G a bs 3 p2 p3 h_29 F_31 hb hl (by decide)) all0 (wd G 25 rfl) (wd G 24 rfl) (by decide) (by decide) rfl rfl) (argsL := [(.ref a), (.int (3 : Int32)), (.long p2), (.long p3)]) (rest := [(.int (3 : Int32)), (.ref b_1)]) rfl (lenOf pd_12 rfl) rfl (Nat.le_of_eq rfl) rfl at_106 (pc' := 109) rfl (k' := 3) (n' := 73) rfl rfl (by decide) (by decide) ?_
  intro v_32 h_35 sz_33 q_34
  obtain ⟨d3, rfl, rfl, z3⟩ := q_34
  refine Seg.castore (v' := d3) (i := 3) A_28 ⟨by decide, by decide⟩ rfl (Nat.le_of_ble_eq_true rfl) (nar255 z3) (List.mem_of_getElem? (i := 0) rfl) at_109 (pc' := 110) rfl ?_
  intro h_38 W_36 A_37
  replace A_37 : Arv Z h_38 b_1 k_b_1 .char (13 : Int32) [(.int d0), (.int d1), (.int d2), (.int d3), (.int (0 : Int32)), (.int (0 : Int32)), (.int (0 : Int32)), (.int (0 : Int32)), (.int (0 : Int32)), (.int (0 : Int32)), (.int (0 : Int32)), (.int (0 : Int32)), (.int (0 : Int32))] (.int 0) := A_37
  refine Seg.aload at_110 rfl rfl (pc' := 112) rfl ?_
  refine Seg.iconst (v := 4) at_112 (by decide) (pc' := 113) rfl ?_
  refine Seg.aload at_113 rfl rfl (pc' := 115) rfl ?_
  refine Seg.iconst (v := 4) at_115 (by decide) (pc' := 116) rfl ?_
  refine Seg.lloadN at_116 rfl (pc' := 117) rfl ?_
  refine Seg.lloadN at_117 rfl (pc' := 118) rfl ?_
  have E_39 : Ext h h_38 := ext_wr E_30 W_36 (Nat.le_trans (ext_rfl _).1 (Nat.le_of_eq e_b_1))
  have F_40 := F.ext E_39
  refine Seg.callS (y' := (⟨"com/example/wardn/wardn/rules/ErrorClassNamedPinLaw", "pick", "(Ljava/lang/String;IJJ)C"⟩ : MethodName)) (wd G 22 rfl) (wd G 23 rfl) (wd G 24 rfl) (wd G 25 rfl) ⟨by decide, by decide⟩ (Pays.of_ct (W := 2) (ct_pick G a bs 4 p2 p3 h_38 F_40 hb hl (by decide)) all0 (wd G 25 rfl) (wd G 24 rfl) (by decide) (by decide) rfl rfl) (argsL := [(.ref a), (.int (4 : Int32)), (.long p2), (.long p3)]) (rest := [(.int (4 : Int32)), (.ref b_1)]) rfl (lenOf pd_12 rfl) rfl (Nat.le_of_eq rfl) rfl at_118 (pc' := 121) rfl (k' := 3) (n' := 73) rfl rfl (by decide) (by decide) ?_
  intro v_41 h_44 sz_42 q_43
  obtain ⟨d4, rfl, rfl, z4⟩ := q_43
  refine Seg.castore (v' := d4) (i := 4) A_37 ⟨by decide, by decide⟩ rfl (Nat.le_of_ble_eq_true rfl) (nar255 z4) (List.mem_of_getElem? (i := 0) rfl) at_121 (pc' := 122) rfl ?_
  intro h_47 W_45 A_46
  replace A_46 : Arv Z h_47 b_1 k_b_1 .char (13 : Int32) [(.int d0), (.int d1), (.int d2), (.int d3), (.int d4), (.int (0 : Int32)), (.int (0 : Int32)), (.int (0 : Int32)), (.int (0 : Int32)), (.int (0 : Int32)), (.int (0 : Int32)), (.int (0 : Int32)), (.int (0 : Int32))] (.int 0) := A_46
  refine Seg.aload at_122 rfl rfl (pc' := 124) rfl ?_
  refine Seg.iconst (v := 5) at_124 (by decide) (pc' := 125) rfl ?_
  refine Seg.aload at_125 rfl rfl (pc' := 127) rfl ?_
  refine Seg.iconst (v := 5) at_127 (by decide) (pc' := 128) rfl ?_
  refine Seg.lloadN at_128 rfl (pc' := 129) rfl ?_
  refine Seg.lloadN at_129 rfl (pc' := 130) rfl ?_
  have E_48 : Ext h h_47 := ext_wr E_39 W_45 (Nat.le_trans (ext_rfl _).1 (Nat.le_of_eq e_b_1))
  have F_49 := F.ext E_48
  refine Seg.callS (y' := (⟨"com/example/wardn/wardn/rules/ErrorClassNamedPinLaw", "pick", "(Ljava/lang/String;IJJ)C"⟩ : MethodName)) (wd G 22 rfl) (wd G 23 rfl) (wd G 24 rfl) (wd G 25 rfl) ⟨by decide, by decide⟩ (Pays.of_ct (W := 2) (ct_pick G a bs 5 p2 p3 h_47 F_49 hb hl (by decide)) all0 (wd G 25 rfl) (wd G 24 rfl) (by decide) (by decide) rfl rfl) (argsL := [(.ref a), (.int (5 : Int32)), (.long p2), (.long p3)]) (rest := [(.int (5 : Int32)), (.ref b_1)]) rfl (lenOf pd_12 rfl) rfl (Nat.le_of_eq rfl) rfl at_130 (pc' := 133) rfl (k' := 3) (n' := 73) rfl rfl (by decide) (by decide) ?_
  intro v_50 h_53 sz_51 q_52
  obtain ⟨d5, rfl, rfl, z5⟩ := q_52
  refine Seg.castore (v' := d5) (i := 5) A_46 ⟨by decide, by decide⟩ rfl (Nat.le_of_ble_eq_true rfl) (nar255 z5) (List.mem_of_getElem? (i := 0) rfl) at_133 (pc' := 134) rfl ?_
  intro h_56 W_54 A_55
  replace A_55 : Arv Z h_56 b_1 k_b_1 .char (13 : Int32) [(.int d0), (.int d1), (.int d2), (.int d3), (.int d4), (.int d5), (.int (0 : Int32)), (.int (0 : Int32)), (.int (0 : Int32)), (.int (0 : Int32)), (.int (0 : Int32)), (.int (0 : Int32)), (.int (0 : Int32))] (.int 0) := A_55
  refine Seg.aload at_134 rfl rfl (pc' := 136) rfl ?_
  refine Seg.bipush (v := 6) at_136 (by decide) (pc' := 138) rfl ?_
  refine Seg.aload at_138 rfl rfl (pc' := 140) rfl ?_
  refine Seg.bipush (v := 6) at_140 (by decide) (pc' := 142) rfl ?_
  refine Seg.lloadN at_142 rfl (pc' := 143) rfl ?_
  refine Seg.lloadN at_143 rfl (pc' := 144) rfl ?_
  have E_57 : Ext h h_56 := ext_wr E_48 W_54 (Nat.le_trans (ext_rfl _).1 (Nat.le_of_eq e_b_1))
  have F_58 := F.ext E_57
  refine Seg.callS (y' := (⟨"com/example/wardn/wardn/rules/ErrorClassNamedPinLaw", "pick", "(Ljava/lang/String;IJJ)C"⟩ : MethodName)) (wd G 22 rfl) (wd G 23 rfl) (wd G 24 rfl) (wd G 25 rfl) ⟨by decide, by decide⟩ (Pays.of_ct (W := 2) (ct_pick G a bs 6 p2 p3 h_56 F_58 hb hl (by decide)) all0 (wd G 25 rfl) (wd G 24 rfl) (by decide) (by decide) rfl rfl) (argsL := [(.ref a), (.int (6 : Int32)), (.long p2), (.long p3)]) (rest := [(.int (6 : Int32)), (.ref b_1)]) rfl (lenOf pd_12 rfl) rfl (Nat.le_of_eq rfl) rfl at_144 (pc' := 147) rfl (k' := 3) (n' := 73) rfl rfl (by decide) (by decide) ?_
  intro v_59 h_62 sz_60 q_61
  obtain ⟨d6, rfl, rfl, z6⟩ := q_61
  refine Seg.castore (v' := d6) (i := 6) A_55 ⟨by decide, by decide⟩ rfl (Nat.le_of_ble_eq_true rfl) (nar255 z6) (List.mem_of_getElem? (i := 0) rfl) at_147 (pc' := 148) rfl ?_
  intro h_65 W_63 A_64
  replace A_64 : Arv Z h_65 b_1 k_b_1 .char (13 : Int32) [(.int d0), (.int d1), (.int d2), (.int d3), (.int d4), (.int d5), (.int d6), (.int (0 : Int32)), (.int (0 : Int32)), (.int (0 : Int32)), (.int (0 : Int32)), (.int (0 : Int32)), (.int (0 : Int32))] (.int 0) := A_64
  refine Seg.aload at_148 rfl rfl (pc' := 150) rfl ?_
  refine Seg.bipush (v := 7) at_150 (by decide) (pc' := 152) rfl ?_
  refine Seg.aload at_152 rfl rfl (pc' := 154) rfl ?_
  refine Seg.bipush (v := 7) at_154 (by decide) (pc' := 156) rfl ?_
  refine Seg.lloadN at_156 rfl (pc' := 157) rfl ?_
  refine Seg.lloadN at_157 rfl (pc' := 158) rfl ?_
  have E_66 : Ext h h_65 := ext_wr E_57 W_63 (Nat.le_trans (ext_rfl _).1 (Nat.le_of_eq e_b_1))
  have F_67 := F.ext E_66
  refine Seg.callS (y' := (⟨"com/example/wardn/wardn/rules/ErrorClassNamedPinLaw", "pick", "(Ljava/lang/String;IJJ)C"⟩ : MethodName)) (wd G 22 rfl) (wd G 23 rfl) (wd G 24 rfl) (wd G 25 rfl) ⟨by decide, by decide⟩ (Pays.of_ct (W := 2) (ct_pick G a bs 7 p2 p3 h_65 F_67 hb hl (by decide)) all0 (wd G 25 rfl) (wd G 24 rfl) (by decide) (by decide) rfl rfl) (argsL := [(.ref a), (.int (7 : Int32)), (.long p2), (.long p3)]) (rest := [(.int (7 : Int32)), (.ref b_1)]) rfl (lenOf pd_12 rfl) rfl (Nat.le_of_eq rfl) rfl at_158 (pc' := 161) rfl (k' := 3) (n' := 73) rfl rfl (by decide) (by decide) ?_
  intro v_68 h_71 sz_69 q_70
  obtain ⟨d7, rfl, rfl, z7⟩ := q_70
  refine Seg.castore (v' := d7) (i := 7) A_64 ⟨by decide, by decide⟩ rfl (Nat.le_of_ble_eq_true rfl) (nar255 z7) (List.mem_of_getElem? (i := 0) rfl) at_161 (pc' := 162) rfl ?_
  intro h_74 W_72 A_73
  replace A_73 : Arv Z h_74 b_1 k_b_1 .char (13 : Int32) [(.int d0), (.int d1), (.int d2), (.int d3), (.int d4), (.int d5), (.int d6), (.int d7), (.int (0 : Int32)), (.int (0 : Int32)), (.int (0 : Int32)), (.int (0 : Int32)), (.int (0 : Int32))] (.int 0) := A_73
  refine Seg.aload at_162 rfl rfl (pc' := 164) rfl ?_
  refine Seg.bipush (v := 8) at_164 (by decide) (pc' := 166) rfl ?_
  refine Seg.aload at_166 rfl rfl (pc' := 168) rfl ?_
  refine Seg.bipush (v := 8) at_168 (by decide) (pc' := 170) rfl ?_
  refine Seg.lloadN at_170 rfl (pc' := 171) rfl ?_
  refine Seg.lloadN at_171 rfl (pc' := 172) rfl ?_
  have E_75 : Ext h h_74 := ext_wr E_66 W_72 (Nat.le_trans (ext_rfl _).1 (Nat.le_of_eq e_b_1))
  have F_76 := F.ext E_75
  refine Seg.callS (y' := (⟨"com/example/wardn/wardn/rules/ErrorClassNamedPinLaw", "pick", "(Ljava/lang/String;IJJ)C"⟩ : MethodName)) (wd G 22 rfl) (wd G 23 rfl) (wd G 24 rfl) (wd G 25 rfl) ⟨by decide, by decide⟩ (Pays.of_ct (W := 2) (ct_pick G a bs 8 p2 p3 h_74 F_76 hb hl (by decide)) all0 (wd G 25 rfl) (wd G 24 rfl) (by decide) (by decide) rfl rfl) (argsL := [(.ref a), (.int (8 : Int32)), (.long p2), (.long p3)]) (rest := [(.int (8 : Int32)), (.ref b_1)]) rfl (lenOf pd_12 rfl) rfl (Nat.le_of_eq rfl) rfl at_172 (pc' := 175) rfl (k' := 3) (n' := 73) rfl rfl (by decide) (by decide) ?_
  intro v_77 h_80 sz_78 q_79
  obtain ⟨d8, rfl, rfl, z8⟩ := q_79
  refine Seg.castore (v' := d8) (i := 8) A_73 ⟨by decide, by decide⟩ rfl (Nat.le_of_ble_eq_true rfl) (nar255 z8) (List.mem_of_getElem? (i := 0) rfl) at_175 (pc' := 176) rfl ?_
  intro h_83 W_81 A_82
  replace A_82 : Arv Z h_83 b_1 k_b_1 .char (13 : Int32) [(.int d0), (.int d1), (.int d2), (.int d3), (.int d4), (.int d5), (.int d6), (.int d7), (.int d8), (.int (0 : Int32)), (.int (0 : Int32)), (.int (0 : Int32)), (.int (0 : Int32))] (.int 0) := A_82
  refine Seg.aload at_176 rfl rfl (pc' := 178) rfl ?_
  refine Seg.bipush (v := 9) at_178 (by decide) (pc' := 180) rfl ?_
  refine Seg.aload at_180 rfl rfl (pc' := 182) rfl ?_
  refine Seg.bipush (v := 9) at_182 (by decide) (pc' := 184) rfl ?_
  refine Seg.lloadN at_184 rfl (pc' := 185) rfl ?_
  refine Seg.lloadN at_185 rfl (pc' := 186) rfl ?_
  have E_84 : Ext h h_83 := ext_wr E_75 W_81 (Nat.le_trans (ext_rfl _).1 (Nat.le_of_eq e_b_1))
  have F_85 := F.ext E_84
  refine Seg.callS (y' := (⟨"com/example/wardn/wardn/rules/ErrorClassNamedPinLaw", "pick", "(Ljava/lang/String;IJJ)C"⟩ : MethodName)) (wd G 22 rfl) (wd G 23 rfl) (wd G 24 rfl) (wd G 25 rfl) ⟨by decide, by decide⟩ (Pays.of_ct (W := 2) (ct_pick G a bs 9 p2 p3 h_83 F_85 hb hl (by decide)) all0 (wd G 25 rfl) (wd G 24 rfl) (by decide) (by decide) rfl rfl) (argsL := [(.ref a), (.int (9 : Int32)), (.long p2), (.long p3)]) (rest := [(.int (9 : Int32)), (.ref b_1)]) rfl (lenOf pd_12 rfl) rfl (Nat.le_of_eq rfl) rfl at_186 (pc' := 189) rfl (k' := 3) (n' := 73) rfl rfl (by decide) (by decide) ?_
  intro v_86 h_89 sz_87 q_88
  obtain ⟨d9, rfl, rfl, z9⟩ := q_88
  refine Seg.castore (v' := d9) (i := 9) A_82 ⟨by decide, by decide⟩ rfl (Nat.le_of_ble_eq_true rfl) (nar255 z9) (List.mem_of_getElem? (i := 0) rfl) at_189 (pc' := 190) rfl ?_
  intro h_92 W_90 A_91
  replace A_91 : Arv Z h_92 b_1 k_b_1 .char (13 : Int32) [(.int d0), (.int d1), (.int d2), (.int d3), (.int d4), (.int d5), (.int d6), (.int d7), (.int d8), (.int d9), (.int (0 : Int32)), (.int (0 : Int32)), (.int (0 : Int32))] (.int 0) := A_91
  refine Seg.aload at_190 rfl rfl (pc' := 192) rfl ?_
  refine Seg.bipush (v := 10) at_192 (by decide) (pc' := 194) rfl ?_
  refine Seg.aload at_194 rfl rfl (pc' := 196) rfl ?_
  refine Seg.bipush (v := 10) at_196 (by decide) (pc' := 198) rfl ?_
  refine Seg.lloadN at_198 rfl (pc' := 199) rfl ?_
  refine Seg.lloadN at_199 rfl (pc' := 200) rfl ?_
  have E_93 : Ext h h_92 := ext_wr E_84 W_90 (Nat.le_trans (ext_rfl _).1 (Nat.le_of_eq e_b_1))
  have F_94 := F.ext E_93
  refine Seg.callS (y' := (⟨"com/example/wardn/wardn/rules/ErrorClassNamedPinLaw", "pick", "(Ljava/lang/String;IJJ)C"⟩ : MethodName)) (wd G 22 rfl) (wd G 23 rfl) (wd G 24 rfl) (wd G 25 rfl) ⟨by decide, by decide⟩ (Pays.of_ct (W := 2) (ct_pick G a bs 10 p2 p3 h_92 F_94 hb hl (by decide)) all0 (wd G 25 rfl) (wd G 24 rfl) (by decide) (by decide) rfl rfl) (argsL := [(.ref a), (.int (10 : Int32)), (.long p2), (.long p3)]) (rest := [(.int (10 : Int32)), (.ref b_1)]) rfl (lenOf pd_12 rfl) rfl (Nat.le_of_eq rfl) rfl at_200 (pc' := 203) rfl (k' := 3) (n' := 73) rfl rfl (by decide) (by decide) ?_
  intro v_95 h_98 sz_96 q_97
  obtain ⟨d10, rfl, rfl, z10⟩ := q_97
  refine Seg.castore (v' := d10) (i := 10) A_91 ⟨by decide, by decide⟩ rfl (Nat.le_of_ble_eq_true rfl) (nar255 z10) (List.mem_of_getElem? (i := 0) rfl) at_203 (pc' := 204) rfl ?_
  intro h_101 W_99 A_100
  replace A_100 : Arv Z h_101 b_1 k_b_1 .char (13 : Int32) [(.int d0), (.int d1), (.int d2), (.int d3), (.int d4), (.int d5), (.int d6), (.int d7), (.int d8), (.int d9), (.int d10), (.int (0 : Int32)), (.int (0 : Int32))] (.int 0) := A_100
  refine Seg.aload at_204 rfl rfl (pc' := 206) rfl ?_
  refine Seg.bipush (v := 11) at_206 (by decide) (pc' := 208) rfl ?_
  refine Seg.aload at_208 rfl rfl (pc' := 210) rfl ?_
  refine Seg.bipush (v := 11) at_210 (by decide) (pc' := 212) rfl ?_
  refine Seg.lloadN at_212 rfl (pc' := 213) rfl ?_
  refine Seg.lloadN at_213 rfl (pc' := 214) rfl ?_
  have E_102 : Ext h h_101 := ext_wr E_93 W_99 (Nat.le_trans (ext_rfl _).1 (Nat.le_of_eq e_b_1))
  have F_103 := F.ext E_102
  refine Seg.callS (y' := (⟨"com/example/wardn/wardn/rules/ErrorClassNamedPinLaw", "pick", "(Ljava/lang/String;IJJ)C"⟩ : MethodName)) (wd G 22 rfl) (wd G 23 rfl) (wd G 24 rfl) (wd G 25 rfl) ⟨by decide, by decide⟩ (Pays.of_ct (W := 2) (ct_pick G a bs 11 p2 p3 h_101 F_103 hb hl (by decide)) all0 (wd G 25 rfl) (wd G 24 rfl) (by decide) (by decide) rfl rfl) (argsL := [(.ref a), (.int (11 : Int32)), (.long p2), (.long p3)]) (rest := [(.int (11 : Int32)), (.ref b_1)]) rfl (lenOf pd_12 rfl) rfl (Nat.le_of_eq rfl) rfl at_214 (pc' := 217) rfl (k' := 3) (n' := 73) rfl rfl (by decide) (by decide) ?_
  intro v_104 h_107 sz_105 q_106
  obtain ⟨d11, rfl, rfl, z11⟩ := q_106
  refine Seg.castore (v' := d11) (i := 11) A_100 ⟨by decide, by decide⟩ rfl (Nat.le_of_ble_eq_true rfl) (nar255 z11) (List.mem_of_getElem? (i := 0) rfl) at_217 (pc' := 218) rfl ?_
  intro h_110 W_108 A_109
  replace A_109 : Arv Z h_110 b_1 k_b_1 .char (13 : Int32) [(.int d0), (.int d1), (.int d2), (.int d3), (.int d4), (.int d5), (.int d6), (.int d7), (.int d8), (.int d9), (.int d10), (.int d11), (.int (0 : Int32))] (.int 0) := A_109
  refine Seg.aload at_218 rfl rfl (pc' := 220) rfl ?_
  refine Seg.bipush (v := 12) at_220 (by decide) (pc' := 222) rfl ?_
  refine Seg.aload at_222 rfl rfl (pc' := 224) rfl ?_
  refine Seg.bipush (v := 12) at_224 (by decide) (pc' := 226) rfl ?_
  refine Seg.lloadN at_226 rfl (pc' := 227) rfl ?_
  refine Seg.lloadN at_227 rfl (pc' := 228) rfl ?_
  have E_111 : Ext h h_110 := ext_wr E_102 W_108 (Nat.le_trans (ext_rfl _).1 (Nat.le_of_eq e_b_1))
  have F_112 := F.ext E_111
  refine Seg.callS (y' := (⟨"com/example/wardn/wardn/rules/ErrorClassNamedPinLaw", "pick", "(Ljava/lang/String;IJJ)C"⟩ : MethodName)) (wd G 22 rfl) (wd G 23 rfl) (wd G 24 rfl) (wd G 25 rfl) ⟨by decide, by decide⟩ (Pays.of_ct (W := 2) (ct_pick G a bs 12 p2 p3 h_110 F_112 hb hl (by decide)) all0 (wd G 25 rfl) (wd G 24 rfl) (by decide) (by decide) rfl rfl) (argsL := [(.ref a), (.int (12 : Int32)), (.long p2), (.long p3)]) (rest := [(.int (12 : Int32)), (.ref b_1)]) rfl (lenOf pd_12 rfl) rfl (Nat.le_of_eq rfl) rfl at_228 (pc' := 231) rfl (k' := 3) (n' := 73) rfl rfl (by decide) (by decide) ?_
  intro v_113 h_116 sz_114 q_115
  obtain ⟨d12, rfl, rfl, z12⟩ := q_115
  refine Seg.castore (v' := d12) (i := 12) A_109 ⟨by decide, by decide⟩ rfl (Nat.le_of_ble_eq_true rfl) (nar255 z12) (List.mem_of_getElem? (i := 0) rfl) at_231 (pc' := 232) rfl ?_
  intro h_119 W_117 A_118
  replace A_118 : Arv Z h_119 b_1 k_b_1 .char (13 : Int32) [(.int d0), (.int d1), (.int d2), (.int d3), (.int d4), (.int d5), (.int d6), (.int d7), (.int d8), (.int d9), (.int d10), (.int d11), (.int d12)] (.int 0) := A_118
  have hc : ∀ c ∈ [d0, d1, d2, d3, d4, d5, d6, d7, d8, d9, d10, d11, d12], ¬ c < 0 ∧ ¬ (255 : Int32) < c := by intro c hc; simp only [List.mem_cons, List.not_mem_nil, or_false] at hc; rcases hc with rfl | rfl | rfl | rfl | rfl | rfl | rfl | rfl | rfl | rfl | rfl | rfl | rfl <;> assumption
  exact (sg232 G p1 p2 p3 p4 p5 m a k b_1 k_b_1 [d0, d1, d2, d3, d4, d5, d6, d7, d8, d9, d10, d11, d12] h_119 rfl hc hk A_118).mono (by decide) (by decide) (allS (List.mem_of_getElem? (i := 0) rfl) all0)
set_option maxRecDepth 65536 in
set_option maxHeartbeats 4000000 in
theorem sg30 {l : Launch} {Z : State} {a0 : Array Value} (G : Env1 Z a0) (p1 : Int32) (p2 : Int64) (p3 : Int64) (p4 : Int32) (p5 : Int32) (m : Int32) (a : Addr) (bs : List Int32) (h : Heap) (F : Str Z h a bs) (hb : ∀ c ∈ bs, ¬ c < 0 ∧ ¬ (255 : Int32) < c) (hl : bs.length ≤ 12) :
    Seg l Z a0 EL1 x code maxLocals ret room_1 (fun v h => v = some (.int 1)) h 2 60 [] 30 #[.val (.int p1), .val (.long p2), .second, .val (.long p3), .second, .val (.int p4), .val (.int p5), .val (.int m), .val (.ref a), .unset, .unset, .unset, .unset, .unset] [] := by
  have f1 := F.exa
  refine Seg.iloadN at_30 rfl (pc' := 31) rfl ?_
  refine Seg.iconst (v := 2) at_31 (by decide) (pc' := 32) rfl ?_
  refine Seg.iushr (v := ((p1).toUInt32 >>> ((2 : Int32) &&& 31).toUInt32).toInt32) at_32 rfl (pc' := 33) rfl ?_
  refine Seg.iconst (v := 1) at_33 (by decide) (pc' := 34) rfl ?_
  refine Seg.iand (v := (((p1).toUInt32 >>> ((2 : Int32) &&& 31).toUInt32).toInt32 &&& (1 : Int32))) at_34 rfl (pc' := 35) rfl ?_
  by_cases h1 : (((p1).toUInt32 >>> ((2 : Int32) &&& 31).toUInt32).toInt32 &&& (1 : Int32)) = 0
  · refine Seg.ifN at_35 (XT.i0_ne_f h1) (pc' := 38) rfl ?_
    refine Seg.aload at_38 rfl rfl (pc' := 40) rfl ?_
    refine Seg.callV (y' := (⟨"java/lang/String", "length", "()I"⟩ : MethodName)) (z := (⟨"java/lang/String", "length", "()I"⟩ : MethodName)) (a := a) (wd G 8 rfl) (wd G 9 rfl) (nf_sel (wd G 11 rfl)) (wd G 11 rfl) (wd G 10 rfl) ⟨by decide, by decide⟩ f1 (pays_len (W := 0) G h F (by decide) (by decide)) (argsL := []) (rest := []) rfl (lenOf pd_1 rfl) rfl (Nat.le_of_eq rfl) rfl at_40 (pc' := 43) rfl (k' := 2) (n' := 60) rfl rfl (by decide) (by decide) ?_
    intro v_1 h_4 sz_2 q_3
    obtain ⟨rfl, rfl⟩ := q_3
    refine Seg.istore (L' := #[.val (.int p1), .val (.long p2), .second, .val (.long p3), .second, .val (.int p4), .val (.int p5), .val (.int m), .val (.ref a), .val (.int (Int32.ofNat bs.length)), .unset, .unset, .unset, .unset]) at_43 rfl (pc' := 45) rfl ?_
    refine Seg.goto (pc' := 56) at_45 (by decide) (by decide) ?_
    exact (sg56 G p1 p2 p3 p4 p5 m a bs bs.length h F hb hl (by omega)).mono (by decide) (by decide) all0
  · refine Seg.ifY (pc' := 48) at_35 (XT.i0_ne_t h1) (by decide) (by decide) ?_
    refine Seg.iloadN at_48 rfl (pc' := 49) rfl ?_
    refine Seg.iconst (v := 3) at_49 (by decide) (pc' := 50) rfl ?_
    refine Seg.iushr (v := ((p1).toUInt32 >>> ((3 : Int32) &&& 31).toUInt32).toInt32) at_50 rfl (pc' := 51) rfl ?_
    refine Seg.bipush (v := 14) at_51 (by decide) (pc' := 53) rfl ?_
    obtain ⟨k, hk, ek⟩ := rem_ushr p1 3 3 14 (by decide) (by decide) (by decide) (by decide)
    refine Seg.irem (v := (Int32.ofNat k)) at_53 (by decide) ek (pc' := 54) rfl ?_
    refine Seg.istore (L' := #[.val (.int p1), .val (.long p2), .second, .val (.long p3), .second, .val (.int p4), .val (.int p5), .val (.int m), .val (.ref a), .val (.int (Int32.ofNat k)), .unset, .unset, .unset, .unset]) at_54 rfl (pc' := 56) rfl ?_
    exact (sg56 G p1 p2 p3 p4 p5 m a bs k h F hb hl (by omega)).mono (by decide) (by decide) all0
set_option maxRecDepth 65536 in
set_option maxHeartbeats 4000000 in
theorem sg0 {l : Launch} {Z : State} {a0 : Array Value} (G : Env1 Z a0) (p1 : Int32) (p2 : Int64) (p3 : Int64) (p4 : Int32) (p5 : Int32) (h0 : Heap) :
    Seg l Z a0 EL1 x code maxLocals ret room_1 (fun v h => v = some (.int 1)) h0 0 0 [] 0 #[.val (.int p1), .val (.long p2), .second, .val (.long p3), .second, .val (.int p4), .val (.int p5), .unset, .unset, .unset, .unset, .unset, .unset, .unset] [] := by
  refine Seg.iloadN at_0 rfl (pc' := 1) rfl ?_
  refine Seg.iconst (v := 3) at_1 (by decide) (pc' := 2) rfl ?_
  refine Seg.iand (v := (p1 &&& (3 : Int32))) at_2 rfl (pc' := 3) rfl ?_
  refine Seg.istore (L' := #[.val (.int p1), .val (.long p2), .second, .val (.long p3), .second, .val (.int p4), .val (.int p5), .val (.int (p1 &&& (3 : Int32))), .unset, .unset, .unset, .unset, .unset, .unset]) at_3 rfl (pc' := 5) rfl ?_
  refine Seg.iload at_5 rfl (pc' := 7) rfl ?_
  by_cases h1 : (p1 &&& (3 : Int32)) = 0
  · refine Seg.ifN at_7 (XT.i0_ne_f h1) (pc' := 10) rfl ?_
    refine Seg.ldcS (text := "forbidden") (vs := [(.int 102), (.int 111), (.int 114), (.int 98), (.int 105), (.int 100), (.int 100), (.int 101), (.int 110)]) (z := 9) (nn := 36) (wd G 0 rfl) (wS G) (by decide) (by decide +kernel) (by decide) (by decide) at_10 (pc' := 12) rfl (by decide) (by decide) (k' := 2) (n' := 40) rfl rfl (by decide) (by decide) ?_
    intro a_1 h_10 b_2 kb_3 E_4 A_5 F_6 F_7 A_8 ne_9
    refine Seg.goto (pc' := 28) at_12 (by decide) (by decide) ?_
    have F_l : Str Z h_10 a_1 FBL := ⟨b_2, kb_3, 0, 9, _, A_5, F_7, F_6, A_8, cod_FBL, le16 all_FBL, (by decide)⟩
    refine Seg.astore (L' := #[.val (.int p1), .val (.long p2), .second, .val (.long p3), .second, .val (.int p4), .val (.int p5), .val (.int (p1 &&& (3 : Int32))), .val (.ref a_1), .unset, .unset, .unset, .unset, .unset]) at_28 rfl rfl (pc' := 30) rfl ?_
    exact (sg30 G p1 p2 p3 p4 p5 (p1 &&& (3 : Int32)) a_1 FBL h_10 F_l all_FBL (by decide)).mono (by decide) (by decide) all0
  · refine Seg.ifY (pc' := 15) at_7 (XT.i0_ne_t h1) (by decide) (by decide) ?_
    refine Seg.iload at_15 rfl (pc' := 17) rfl ?_
    refine Seg.iconst (v := 1) at_17 (by decide) (pc' := 18) rfl ?_
    by_cases h2 : (p1 &&& (3 : Int32)) = 1
    · refine Seg.icN at_18 (XT.ii_ne_f h2) (pc' := 21) rfl ?_
      refine Seg.ldcS (text := "unauthorized") (vs := [(.int 117), (.int 110), (.int 97), (.int 117), (.int 116), (.int 104), (.int 111), (.int 114), (.int 105), (.int 122), (.int 101), (.int 100)]) (z := 12) (nn := 48) (wd G 132 rfl) (wS G) (by decide) (by decide +kernel) (by decide) (by decide) at_21 (pc' := 23) rfl (by decide) (by decide) (k' := 2) (n' := 52) rfl rfl (by decide) (by decide) ?_
      intro a_11 h_20 b_12 kb_13 E_14 A_15 F_16 F_17 A_18 ne_19
      refine Seg.goto (pc' := 28) at_23 (by decide) (by decide) ?_
      have F_l : Str Z h_20 a_11 UAL := ⟨b_12, kb_13, 0, 12, _, A_15, F_17, F_16, A_18, cod_UAL, le16 all_UAL, (by decide)⟩
      refine Seg.astore (L' := #[.val (.int p1), .val (.long p2), .second, .val (.long p3), .second, .val (.int p4), .val (.int p5), .val (.int (p1 &&& (3 : Int32))), .val (.ref a_11), .unset, .unset, .unset, .unset, .unset]) at_28 rfl rfl (pc' := 30) rfl ?_
      exact (sg30 G p1 p2 p3 p4 p5 (p1 &&& (3 : Int32)) a_11 UAL h_20 F_l all_UAL (by decide)).mono (by decide) (by decide) all0
    · refine Seg.icY (pc' := 26) at_18 (XT.ii_ne_t h2) (by decide) (by decide) ?_
      refine Seg.ldcS (text := "") (vs := []) (z := 0) (nn := 0) (wd G 131 rfl) (wS G) (by decide) (by decide +kernel) (by decide) (by decide) at_26 (pc' := 28) rfl (by decide) (by decide) (k' := 2) (n' := 4) rfl rfl (by decide) (by decide) ?_
      intro a_21 h_30 b_22 kb_23 E_24 A_25 F_26 F_27 A_28 ne_29
      have F_l : Str Z h_30 a_21 [] := ⟨b_22, kb_23, 0, 0, _, A_25, F_27, F_26, A_28, (Or.inl ⟨rfl, rfl, rfl, by decide⟩), le16 (by decide), (by decide)⟩
      refine Seg.astore (L' := #[.val (.int p1), .val (.long p2), .second, .val (.long p3), .second, .val (.int p4), .val (.int p5), .val (.int (p1 &&& (3 : Int32))), .val (.ref a_21), .unset, .unset, .unset, .unset, .unset]) at_28 rfl rfl (pc' := 30) rfl ?_
      exact (sg30 G p1 p2 p3 p4 p5 (p1 &&& (3 : Int32)) a_21 [] h_30 F_l (by decide) (by decide)).mono (by decide) (by decide) all0
theorem eqint {args : Array Value} {first s : State} {o : Option Outcome} {idx : List Nat} {t : Term} {n : Int32} (h : (Jvm.Cond.eq t (.int n)).value args first o s idx = some true) : t.eval args first o idx s = some (.int n) := by
  obtain ⟨x, y, h1, h2, h3, -⟩ := cmp_v (Or.inl h)
  cases h2
  cases x <;> simp [Cond.value, h1, Term.eval] at h ⊢
  · exact h
theorem eqref {args : Array Value} {first s : State} {o : Option Outcome} {idx : List Nat} {t u : Term} {a : Addr} (hu : u.eval args first o idx s = some (.ref a)) (h : (Jvm.Cond.eq t u).value args first o s idx = some true) : t.eval args first o idx s = some (.ref a) := by
  obtain ⟨x, y, h1, h2, h3, -⟩ := cmp_v (Or.inl h)
  cases hu.symm.trans h2
  cases x <;> simp [Cond.value, h1, hu] at h ⊢
  · exact h
theorem ef_law (i1 : Int32) (i2 : Int64) (i3 : Int64) (i4 : Int32) (i5 : Int32) (m : MethodId) : entryFrame m #[(.int i1), (.long i2), (.long i3), (.int i4), (.int i5)] maxLocals = mkF m 0 #[.val (.int i1), .val (.long i2), .second, .val (.long i3), .second, .val (.int i4), .val (.int i5), .unset, .unset, .unset, .unset, .unset, .unset, .unset] [] := by first | (simp [entryFrame, mkF, argsToLocals, Value.category, maxLocals]; done) | rfl
set_option maxRecDepth 65536 in
set_option maxHeartbeats 40000000 in
theorem comes_1 {Post : Tables → Env → Array Value → State → Outcome → State → Prop} (hpost : ∀ tb e args s v u, (limb_1_1.after args s (.returned v) u = true ∧ limb_1_2.after args s (.returned v) u = true ∧ True) → Jvm.Pilot.@@N@@.Jvm.D.FramedW s (.returned v) u (Jvm.fieldLocs frame_1_writes args s ++ Jvm.arrayLocs frame_1_arrays args s ++ Jvm.staticLocs frame_1_statics s) 32 4288 → Post tb e args s (.returned v) u) :
    Jvm.Pilot.@@N@@.Jvm.D.ArmFor flags0 classFile x code maxLocals ret World_1 tables_1 room_1 Calls_1 rest_1 Pre_1 Post := by
  intro l hfl _ _ p e ha hc hk s m args below hf hA hF happ hP
  obtain ⟨hcalls, hrest, hpre⟩ := hP
  obtain ⟨-, -, -, hnamed, -, -, -, hat⟩ := (Spec.applies_iff hf).mp happ
  obtain ⟨hg, hn⟩ := and_e (Cond.before_iff.mp (show (Jvm.Cond.and given_1 narrow_1).before args s = true from hpre))
  obtain ⟨hc0, g1⟩ := and_e hg
  obtain ⟨a1, g2⟩ := and_e g1
  obtain ⟨a2, g3⟩ := and_e g2
  obtain ⟨a3, g4⟩ := and_e g3
  obtain ⟨a4, g5⟩ := and_e g4
  obtain ⟨w0, w1, w2, w3, w4, rfl⟩ : ∃ w0 w1 w2 w3 w4 : Value, args = #[w0, w1, w2, w3, w4] := by
    have hs : args.size = 5 := by simpa [Cond.value, given_1] using hc0
    obtain ⟨L⟩ := args
    match L, hs with
    | [w0, w1, w2, w3, w4], _ => exact ⟨w0, w1, w2, w3, w4, rfl⟩
  have hw := fun d (hd : d ∈ tables_1) => atoms_spec (ws := Jvm.Cond.code x code maxLocals ret :: tables_1) hat d (List.mem_cons_of_mem _ hd)
  obtain ⟨hsets, hown0⟩ := atoms_of _ (rest_1_c_eq ▸ (show rest_1_c.before _ s = true from hrest))
  have hfit : Fit s := fun {y c} hc i hi => by
    obtain ⟨ha, rfl⟩ := Array.getElem?_eq_some_iff.mp hc
    have q := List.all_eq_true.mp ((Array.all_eq_true_iff_forall_mem.mp hF) _ (Array.getElem_mem ha)) i (List.mem_range.mpr hi)
    simpa [Array.getElem?_eq_getElem hi] using q
  obtain ⟨i1, u0⟩ := is_v a1
  obtain rfl : w0 = (.int i1) := Option.some.inj u0
  obtain ⟨i2, u1⟩ := isL_v a2
  obtain rfl : w1 = (.long i2) := Option.some.inj u1
  obtain ⟨i3, u2⟩ := isL_v a3
  obtain rfl : w2 = (.long i3) := Option.some.inj u2
  obtain ⟨i4, u3⟩ := is_v a4
  obtain rfl : w3 = (.int i4) := Option.some.inj u3
  obtain ⟨i5, u4⟩ := is_v g5
  obtain rfl : w4 = (.int i5) := Option.some.inj u4
  obtain ⟨zc, ec⟩ := is_v (Cond.before_iff.mp (hsets _ (List.mem_of_getElem? (i := 1) rfl)))
  have Sc : Sta s s.heap "java/lang/String" "COMPACT_STRINGS" "Z" (.int zc) := Sta.start ec (Or.inl (hsets _ (List.mem_of_getElem? (i := 0) rfl)))
  have hcw := hsets _ (List.mem_of_getElem? (i := 2) rfl)
  have hzc : ¬ (zc = (0 : Int32)) := gotF (Cond.eq_ints ec (Term.int_eval (0))) (not_v (Cond.before_iff.mp hcw))
  have hEW : EW s #[(.int i1), (.long i2), (.long i3), (.int i4), (.int i5)] EL1 := (EW.cons (hw _ (List.mem_of_getElem? (i := 0) rfl)) (by decide) (EW.cons (hw _ (List.mem_of_getElem? (i := 132) rfl)) (by decide) (EW.cons (hw _ (List.mem_of_getElem? (i := 131) rfl)) (by decide) (EW.cons (hw _ (List.mem_of_getElem? (i := 137) rfl)) (by decide) EW.nil))))
  obtain ⟨fm, ef0, hfm⟩ := isR_v (Cond.before_iff.mp (hsets _ (List.mem_of_getElem? (i := 8) rfl)))
  have Sfm : Sta s s.heap "jdk/internal/util/Preconditions" "SIOOBE_FORMATTER" "Ljava/util/function/BiFunction;" fm := Sta.start ef0 (Or.inl (hsets _ (List.mem_of_getElem? (i := 7) rfl)))
  have ho0 := Cond.before_iff.mp (hsets _ (List.mem_of_getElem? (i := 11) rfl))
  obtain ⟨oe, eoe⟩ := exa_v ho0
  have Aoe : Exa s s.heap oe "java/util/Optional" := Exa.start eoe ho0
  have Soe : Sta s s.heap "java/util/Optional" "EMPTY" "Ljava/util/Optional;" (.ref oe) := Sta.start eoe (Or.inl (hsets _ (List.mem_of_getElem? (i := 10) rfl)))
  have Foe : Fld s s.heap oe "java/util/Optional" "value" "Ljava/lang/Object;" .null := Fld.start ((fld_at eoe).symm.trans (null_v (Cond.before_iff.mp (hsets _ (List.mem_of_getElem? (i := 12) rfl)))))
  obtain ⟨n0, r0⟩ := and_e hn
  obtain ⟨n1, r1⟩ := and_e r0
  obtain ⟨n2, r2⟩ := and_e r1
  obtain ⟨n3, r3⟩ := and_e r2
  obtain ⟨n4, r4⟩ := and_e r3
  obtain ⟨n5, r5⟩ := and_e r4
  obtain ⟨n6, r6⟩ := and_e r5
  obtain ⟨n7, r7⟩ := and_e r6
  obtain ⟨n8, r8⟩ := and_e r7
  obtain ⟨n9, r9⟩ := and_e r8
  obtain ⟨n10, r10⟩ := and_e r9
  obtain ⟨n11, r11⟩ := and_e r10
  obtain ⟨n12, r12⟩ := and_e r11
  obtain ⟨n13, r13⟩ := and_e r12
  obtain ⟨n14, r14⟩ := and_e r13
  obtain ⟨n15, r15⟩ := and_e r14
  obtain ⟨n16, r16⟩ := and_e r15
  obtain ⟨n17, r17⟩ := and_e r16
  obtain ⟨n18, r18⟩ := and_e r17
  obtain ⟨n19, r19⟩ := and_e r18
  obtain ⟨n20, r20⟩ := and_e r19
  obtain ⟨n21, r21⟩ := and_e r20
  obtain ⟨n22, r22⟩ := and_e r21
  obtain ⟨n23, r23⟩ := and_e r22
  obtain ⟨n24, r24⟩ := and_e r23
  obtain ⟨n25, r25⟩ := and_e r24
  obtain ⟨n26, r26⟩ := and_e r25
  obtain ⟨n27, r27⟩ := and_e r26
  obtain ⟨n28, r28⟩ := and_e r27
  obtain ⟨n29, r29⟩ := and_e r28
  obtain ⟨n30, r30⟩ := and_e r29
  obtain ⟨n31, r31⟩ := and_e r30
  obtain ⟨n32, r32⟩ := and_e r31
  obtain ⟨n33, r33⟩ := and_e r32
  obtain ⟨n34, r34⟩ := and_e r33
  have n35 := r34
  obtain ⟨fb, efb⟩ := exa_v n0
  have Afb : Exa s s.heap fb "com/example/wardn/wardn/rules/ErrorClass" := Exa.start efb n0
  have Sfb : Sta s s.heap "com/example/wardn/wardn/rules/ErrorClass" "FORBIDDEN" "Lcom/example/wardn/wardn/rules/ErrorClass;" (.ref fb) := Sta.start efb (Or.inr ⟨hw _ (List.mem_of_getElem? (i := 83) rfl), hw _ (List.mem_of_getElem? (i := 84) rfl)⟩)
  obtain ⟨ua, eua⟩ := exa_v n5
  have Aua : Exa s s.heap ua "com/example/wardn/wardn/rules/ErrorClass" := Exa.start eua n5
  have Sua : Sta s s.heap "com/example/wardn/wardn/rules/ErrorClass" "UNAUTHORIZED" "Lcom/example/wardn/wardn/rules/ErrorClass;" (.ref ua) := Sta.start eua (Or.inr ⟨hw _ (List.mem_of_getElem? (i := 83) rfl), hw _ (List.mem_of_getElem? (i := 100) rfl)⟩)
  obtain ⟨va, eva⟩ := exa_v n2
  have Ava : Exa s s.heap va "[Lcom/example/wardn/wardn/rules/ErrorClass;" := Exa.start eva n2
  have Sva : Sta s s.heap "com/example/wardn/wardn/rules/ErrorClass" "$VALUES" "[Lcom/example/wardn/wardn/rules/ErrorClass;" (.ref va) := Sta.start eva (Or.inr ⟨hw _ (List.mem_of_getElem? (i := 83) rfl), hw _ (List.mem_of_getElem? (i := 92) rfl)⟩)
  obtain ⟨kv, Vva⟩ := arv_start (vs := [.ref fb, .ref ua]) .null hfit eva n1 (eqint n3) (by decide) rfl (fun cl hc => ⟨(elem_in (eqref efb n4) eva (Term.int_eval 0) hc).2, (elem_in (eqref eua n6) eva (Term.int_eval 1) hc).2, trivial⟩)
  obtain ⟨s1, es1⟩ := exa_v n7
  have As1 : Exa s s.heap s1 "java/lang/String" := Exa.start es1 n7
  have Fs1 : Fld s s.heap fb "com/example/wardn/wardn/rules/ErrorClass" "jsonName" "Ljava/lang/String;" (.ref s1) := Fld.start ((fld_at efb).symm.trans es1)
  have Cs1 : Fld s s.heap s1 "java/lang/String" "coder" "B" (.int 0) := Fld.start ((fld_at es1).symm.trans (eqint n8))
  obtain ⟨bs1, ebs1⟩ := arr_v n9
  have Ws1 : Fld s s.heap s1 "java/lang/String" "value" "[B" (.ref bs1) := Fld.start ((fld_at es1).symm.trans ebs1)
  obtain ⟨kbs1, Vbs1⟩ := arv_start (vs := [.int 102, .int 111, .int 114, .int 98, .int 105, .int 100, .int 100, .int 101, .int 110]) (.int 0) hfit ebs1 n9 (eqint n10) (by decide) rfl (fun cl hc => ⟨(elem_in (eqint n15) ebs1 (Term.int_eval 0) hc).2, (elem_in (eqint n16) ebs1 (Term.int_eval 1) hc).2, (elem_in (eqint n17) ebs1 (Term.int_eval 2) hc).2, (elem_in (eqint n18) ebs1 (Term.int_eval 3) hc).2, (elem_in (eqint n19) ebs1 (Term.int_eval 4) hc).2, (elem_in (eqint n20) ebs1 (Term.int_eval 5) hc).2, (elem_in (eqint n21) ebs1 (Term.int_eval 6) hc).2, (elem_in (eqint n22) ebs1 (Term.int_eval 7) hc).2, (elem_in (eqint n23) ebs1 (Term.int_eval 8) hc).2, trivial⟩)
  have Ts1 : Str s s.heap s1 FBL := ⟨bs1, kbs1, 0, 9, _, As1, Ws1, Cs1, Vbs1, cod_FBL, le16 all_FBL, (by decide)⟩
  obtain ⟨s2, es2⟩ := exa_v n11
  have As2 : Exa s s.heap s2 "java/lang/String" := Exa.start es2 n11
  have Fs2 : Fld s s.heap ua "com/example/wardn/wardn/rules/ErrorClass" "jsonName" "Ljava/lang/String;" (.ref s2) := Fld.start ((fld_at eua).symm.trans es2)
  have Cs2 : Fld s s.heap s2 "java/lang/String" "coder" "B" (.int 0) := Fld.start ((fld_at es2).symm.trans (eqint n12))
  obtain ⟨bs2, ebs2⟩ := arr_v n13
  have Ws2 : Fld s s.heap s2 "java/lang/String" "value" "[B" (.ref bs2) := Fld.start ((fld_at es2).symm.trans ebs2)
  obtain ⟨kbs2, Vbs2⟩ := arv_start (vs := [.int 117, .int 110, .int 97, .int 117, .int 116, .int 104, .int 111, .int 114, .int 105, .int 122, .int 101, .int 100]) (.int 0) hfit ebs2 n13 (eqint n14) (by decide) rfl (fun cl hc => ⟨(elem_in (eqint n24) ebs2 (Term.int_eval 0) hc).2, (elem_in (eqint n25) ebs2 (Term.int_eval 1) hc).2, (elem_in (eqint n26) ebs2 (Term.int_eval 2) hc).2, (elem_in (eqint n27) ebs2 (Term.int_eval 3) hc).2, (elem_in (eqint n28) ebs2 (Term.int_eval 4) hc).2, (elem_in (eqint n29) ebs2 (Term.int_eval 5) hc).2, (elem_in (eqint n30) ebs2 (Term.int_eval 6) hc).2, (elem_in (eqint n31) ebs2 (Term.int_eval 7) hc).2, (elem_in (eqint n32) ebs2 (Term.int_eval 8) hc).2, (elem_in (eqint n33) ebs2 (Term.int_eval 9) hc).2, (elem_in (eqint n34) ebs2 (Term.int_eval 10) hc).2, (elem_in (eqint n35) ebs2 (Term.int_eval 11) hc).2, trivial⟩)
  have Ts2 : Str s s.heap s2 UAL := ⟨bs2, kbs2, 0, 12, _, As2, Ws2, Cs2, Vbs2, cod_UAL, le16 all_UAL, (by decide)⟩
  have G : Env1 s #[(.int i1), (.long i2), (.long i3), (.int i4), (.int i5)] := ⟨hw, hEW, ⟨zc, Sc, hzc⟩, ⟨fm, Sfm, hfm⟩, fb, ua, va, s1, s2, oe, kv, Sfb, Sua, Sva, Afb, Aua, Ava, Vva, Fs1, Fs2, Ts1, Ts2, Soe, Aoe, Foe⟩
  have hH : CHv s EL1 s.vm s.heap := CHv.start hEW (fun p hp => hcalls.1 p hp) hcw (hw _ (List.mem_of_getElem? (i := 3) rfl)) (hw _ (List.mem_of_getElem? (i := 2) rfl))
  have ct : Ct l s EL1 [] tables_1 x code maxLocals ret room_1 #[(.int i1), (.long i2), (.long i3), (.int i4), (.int i5)] s.heap (fun v h => v = some (.int 1)) := Ct.of_seg (a0 := #[(.int i1), (.long i2), (.long i3), (.int i4), (.int i5)]) (plainFor_of_name pn_com_example_wardn_wardn_rules_ErrorClassNamedPinLaw) G.2.1 (ef_law i1 i2 i3 i4 i5) (sg0 G i1 i2 i3 i4 i5 s.heap)
  obtain ⟨n, o, h1, h2, h3, v, L, rfl, ⟨N, -, rfl⟩, -, hq⟩ := ct p e ha hc hk s m _ below hf ((Spec.applies_iff_loose hf).mp happ).1 ⟨rfl, State.Warmed39.refl s, rfl, hH, (fun x q => nomatch q), ext_rfl _⟩ trivial
  refine ⟨n, _, h1, h2, h3, hpost _ _ _ _ _ _ ⟨Cond.after_iff.mpr rfl, Cond.after_iff.mpr (eq_i res_at (Term.int_eval (1)) rfl), trivial⟩ ?_⟩
  exact ⟨hq.1, hq.2.1, hq.2.2.1, (hq.2.2.2.sift fun y hy => Or.inr (N y hy)).mono (by decide) (by decide)⟩
theorem main_1_1 : Claimed_1_1 := comes_1 fun _ _ _ _ _ _ h hF => ⟨h.1, hF⟩
theorem main_1_2 : Claimed_1_2 := comes_1 fun _ _ _ _ _ _ h hF => ⟨h.2.1, hF⟩
end Jvm.Pilot.@@N@@
namespace Jvm.Pilot.@@N@@
open Jvm Jvm.ClassFile Sem Op Lib Jvm.Free Jvm.Stand Jvm.Pilot.@@N@@.Jvm.D
/-! MADE BY PROGRAM (witnessworld.py) out of the Statement's table words and the real class files: 24 classes; the members and pool entries that the words name. The judged class is class 1, her method 1. -/
namespace start1
open Jvm.ClassFile
def u (s : String) : CpInfo := .utf8 (stringToUtf16 s)
/-- a pool by its gaps: so many unusable entries, then the entry; so many at the end -/
def gap : Nat → List CpInfo → List CpInfo
  | 0, r => r
  | n + 1, r => .unusable :: gap n r
def poolList (es : List (Nat × CpInfo)) (last : Nat) : List CpInfo := es.foldr (fun e r => gap e.1 (e.2 :: r)) (gap last [])
def pool (es : List (Nat × CpInfo)) (last : Nat) : Array CpInfo := ⟨poolList es last⟩
def fileOf (pool : Array CpInfo) (this : Nat) (attrs : Array Attribute := #[]) (ms : Array MethodInfo := #[]) (fl : Nat := 33) (sup : Nat := 0) (ifs : Array Nat := #[]) (fds : Array FieldInfo := #[]) : ClassFile where
  minorVersion := 0
  majorVersion := 65
  constantPool := pool
  accessFlags := fl
  thisClass := this
  superClass := sup
  interfaces := ifs
  fields := fds
  methods := ms
  attributes := attrs
def plain (name : String) (sup : Option ClassId) : Class where
  name := name
  kind := .ordinary
  loader := none
  accessFlags := 33
  super := sup
  interfaces := #[]
  cf := none
  fields := #[]
  methods := #[]
  instanceTypes := #[]
  staticTypes := #[]
  resolved := #[]
  callSites := []
  init := .initialized
  statics := none
  mirror := none

def pool0 : Array CpInfo := pool [(5, u "<init>"), (0, u "()V"), (1, .class_ 10), (1, u "java/lang/Object"), (85, u "clone"), (0, u "()Ljava/lang/Object;")] 26

def k0c0 : Code := { maxStack := 0, maxLocals := 1, code := object_method_1_code, exceptionTable := #[], attributes := #[] }
def k0m0 : Method := { name := "<init>", desc := "()V", sig := { parameters := [], returnType := none }, accessFlags := 1, code := some k0c0 }
def k0m1 : Method := { name := "clone", desc := "()Ljava/lang/Object;", sig := { parameters := [], returnType := some (.object "java/lang/Object") }, accessFlags := 260, code := none }
/-- java/lang/Object -/
def k0 : Class := { plain "java/lang/Object" none with
  accessFlags := 33
  interfaces := #[]
  cf := some (fileOf pool0 8 #[] #[{ accessFlags := 1, nameIndex := 5, descriptorIndex := 6, attributes := #[] }, { accessFlags := 260, nameIndex := 96, descriptorIndex := 97, attributes := #[] }] 33 0 #[] #[])
  fields := #[]
  methods := #[k0m0, k0m1]
  instanceTypes := #[]
  staticTypes := #[]
  resolved := Array.replicate 124 none
  statics := none }

def pool1 : Array CpInfo := pool [(2, .class_ 4), (1, u "java/lang/Object"), (0, u "<init>"), (0, u "()V"), (0, .string 8), (0, u "forbidden"), (0, .string 10), (0, u "unauthorized"), (0, .string 12), (0, u ""), (0, .methodref 14 15), (0, .class_ 16), (0, .nameAndType 17 18), (0, u "java/lang/String"), (0, u "length"), (0, u "()I"), (0, .methodref 20 21), (0, .class_ 22), (0, .nameAndType 23 24), (0, u "com/example/wardn/wardn/rules/ErrorClassNamedPinLaw"), (0, u "pick"), (0, u "(Ljava/lang/String;IJJ)C"), (0, .methodref 20 26), (0, .nameAndType 27 28), (0, u "cut"), (0, u "([CI)[C"), (0, .methodref 14 30), (0, .nameAndType 5 31), (0, u "([C)V"), (0, .methodref 14 33), (0, .nameAndType 34 35), (0, u "equals"), (0, u "(Ljava/lang/Object;)Z"), (0, .fieldref 37 38), (0, .class_ 39), (0, .nameAndType 40 41), (0, u "com/example/wardn/wardn/rules/ErrorClass"), (0, u "FORBIDDEN"), (0, u "Lcom/example/wardn/wardn/rules/ErrorClass;"), (0, .fieldref 37 43), (0, .nameAndType 44 41), (0, u "UNAUTHORIZED"), (0, .methodref 37 46), (0, .nameAndType 47 48), (0, u "named"), (0, u "(Ljava/lang/String;)Ljava/util/Optional;"), (0, .methodref 50 51), (0, .class_ 52), (0, .nameAndType 53 54), (0, u "java/util/Optional"), (0, u "orElse"), (0, u "(Ljava/lang/Object;)Ljava/lang/Object;"), (0, .methodref 14 56), (0, .nameAndType 57 58), (0, u "charAt"), (0, u "(I)C"), (0, .long 255), (3, u "law"), (0, u "(IJJII)Z")] 5

def k1m0 : Method := { name := "<init>", desc := "()V", sig := { parameters := [], returnType := none }, accessFlags := 1, code := none }
def k1c1 : Code := { maxStack := 8, maxLocals := 14, code := code, exceptionTable := #[], attributes := #[] }
def k1m1 : Method := { name := "law", desc := "(IJJII)Z", sig := { parameters := [.int, .long, .long, .int, .int], returnType := some .boolean }, accessFlags := 9, code := some k1c1 }
def k1c2 : Code := { maxStack := 5, maxLocals := 6, code := method_3_code, exceptionTable := #[], attributes := #[] }
def k1m2 : Method := { name := "pick", desc := "(Ljava/lang/String;IJJ)C", sig := { parameters := [(.object "java/lang/String"), .int, .long, .long], returnType := some .char }, accessFlags := 10, code := some k1c2 }
def k1c3 : Code := { maxStack := 4, maxLocals := 3, code := method_4_code, exceptionTable := #[], attributes := #[] }
def k1m3 : Method := { name := "cut", desc := "([CI)[C", sig := { parameters := [(.array .char), .int], returnType := some (.array .char) }, accessFlags := 10, code := some k1c3 }
/-- com/example/wardn/wardn/rules/ErrorClassNamedPinLaw -/
def k1 : Class := { plain "com/example/wardn/wardn/rules/ErrorClassNamedPinLaw" (some 0) with
  accessFlags := 49
  interfaces := #[]
  cf := some (fileOf pool1 20 #[] #[{ accessFlags := 1, nameIndex := 5, descriptorIndex := 6, attributes := #[] }, { accessFlags := 9, nameIndex := 63, descriptorIndex := 64, attributes := #[] }, { accessFlags := 10, nameIndex := 23, descriptorIndex := 24, attributes := #[] }, { accessFlags := 10, nameIndex := 27, descriptorIndex := 28, attributes := #[] }] 49 2 #[] #[])
  fields := #[]
  methods := #[k1m0, k1m1, k1m2, k1m3]
  instanceTypes := #[]
  staticTypes := #[]
  resolved := Array.replicate 70 none
  statics := none }

def pool2 : Array CpInfo := pool [(1, .class_ 2), (0, u "java/io/Serializable"), (0, .class_ 4), (0, u "java/lang/Object")] 2

/-- java/io/Serializable -/
def k2 : Class := { plain "java/io/Serializable" (some 0) with
  accessFlags := 1537
  interfaces := #[]
  cf := some (fileOf pool2 1 #[] #[] 1537 3 #[] #[])
  fields := #[]
  methods := #[]
  instanceTypes := #[]
  staticTypes := #[]
  resolved := Array.replicate 7 none
  statics := none }

def pool3 : Array CpInfo := pool [(1, .class_ 2), (0, u "java/lang/Comparable"), (0, .class_ 4), (0, u "java/lang/Object")] 7

/-- java/lang/Comparable -/
def k3 : Class := { plain "java/lang/Comparable" (some 0) with
  accessFlags := 1537
  interfaces := #[]
  cf := some (fileOf pool3 1 #[] #[] 1537 3 #[] #[])
  fields := #[]
  methods := #[]
  instanceTypes := #[]
  staticTypes := #[]
  resolved := Array.replicate 12 none
  statics := none }

def pool4 : Array CpInfo := pool [(2, .class_ 4), (1, u "java/lang/CharSequence"), (42, .class_ 48), (0, u "java/lang/CharSequence$1CodePointIterator"), (10, .class_ 60), (0, u "java/lang/CharSequence$1CharIterator"), (5, .class_ 67), (0, u "java/lang/Object")] 63

/-- java/lang/CharSequence -/
def k4 : Class := { plain "java/lang/CharSequence" (some 0) with
  accessFlags := 1537
  interfaces := #[]
  cf := some (fileOf pool4 2 #[.nestMembers #[47, 59]] #[] 1537 66 #[] #[])
  fields := #[]
  methods := #[]
  instanceTypes := #[]
  staticTypes := #[]
  resolved := Array.replicate 131 none
  statics := none }

def pool5 : Array CpInfo := pool [(1, .class_ 2), (0, u "java/lang/constant/Constable"), (0, .class_ 4), (0, u "java/lang/Object")] 6

/-- java/lang/constant/Constable -/
def k5 : Class := { plain "java/lang/constant/Constable" (some 0) with
  accessFlags := 1537
  interfaces := #[]
  cf := some (fileOf pool5 1 #[] #[] 1537 3 #[] #[])
  fields := #[]
  methods := #[]
  instanceTypes := #[]
  staticTypes := #[]
  resolved := Array.replicate 11 none
  statics := none }

def pool6 : Array CpInfo := pool [(1, .class_ 2), (0, u "java/lang/constant/ConstantDesc"), (0, .class_ 4), (0, u "java/lang/Object")] 32

/-- java/lang/constant/ConstantDesc -/
def k6 : Class := { plain "java/lang/constant/ConstantDesc" (some 0) with
  accessFlags := 1537
  interfaces := #[]
  cf := some (fileOf pool6 1 #[] #[] 1537 3 #[] #[])
  fields := #[]
  methods := #[]
  instanceTypes := #[]
  staticTypes := #[]
  resolved := Array.replicate 37 none
  statics := none }

def pool7 : Array CpInfo := pool [(1, .methodref 2 3), (0, .class_ 4), (0, .nameAndType 5 6), (0, u "java/lang/Object"), (0, u "<init>"), (0, u "()V"), (0, .string 8), (0, u ""), (0, .fieldref 10 11), (0, .class_ 12), (0, .nameAndType 13 14), (0, u "java/lang/String"), (0, u "value"), (0, u "[B"), (0, .fieldref 10 16), (0, .nameAndType 17 18), (0, u "coder"), (0, u "B"), (2, u "hash"), (0, u "I"), (2, u "hashIsZero"), (0, u "Z"), (0, .methodref 10 28), (0, .nameAndType 5 29), (0, u "([CIILjava/lang/Void;)V"), (8, .fieldref 10 39), (0, .nameAndType 40 26), (0, u "COMPACT_STRINGS"), (1, .class_ 44), (1, u "java/lang/StringUTF16"), (0, u "compress"), (1, .methodref 42 48), (0, .nameAndType 49 50), (0, u "coderFromArrayLen"), (0, u "([BI)B"), (56, .class_ 109), (1, u "java/lang/StringLatin1"), (32, u "()Z"), (34, .methodref 42 178), (0, .nameAndType 45 179), (0, u "([CII)[B"), (154, u "()I"), (0, .methodref 10 336), (0, .nameAndType 17 337), (0, u "()B"), (25, u "([BI)C"), (27, u "(II)V"), (35, u "(I)C"), (64, .methodref 10 493), (0, .nameAndType 494 142), (0, u "isLatin1"), (0, .methodref 107 496), (0, .nameAndType 497 363), (0, u "charAt"), (3, u "checkIndex"), (5, u "length"), (33, .methodref 107 542), (0, .nameAndType 543 544), (0, u "equals"), (0, u "([B[B)Z"), (28, u "(Ljava/lang/Object;)Z"), (1, .class_ 576), (0, u "java/lang/CharSequence"), (22, u "CASE_INSENSITIVE_ORDER"), (0, u "Ljava/util/Comparator;"), (409, u "([C)V"), (42, .fieldref 1054 1055), (0, .class_ 1056), (0, .nameAndType 1057 1058), (0, u "jdk/internal/util/Preconditions"), (0, u "SIOOBE_FORMATTER"), (0, u "Ljava/util/function/BiFunction;"), (0, .methodref 1054 1060), (0, .nameAndType 501 1061), (0, u "(IILjava/util/function/BiFunction;)I"), (39, u "serialPersistentFields"), (0, u "[Ljava/io/ObjectStreamField;"), (0, .class_ 1104), (0, u "java/lang/String$CaseInsensitiveComparator"), (1, .class_ 1107), (0, u "java/io/Serializable"), (0, .class_ 1109), (0, u "java/lang/Comparable"), (0, .class_ 1111), (0, u "java/lang/constant/Constable"), (0, .class_ 1113), (0, u "java/lang/constant/ConstantDesc"), (2, u "serialVersionUID"), (0, u "J"), (3, u "REPL"), (0, u "C"), (2, u "LATIN1"), (1, u "UTF16")] 323

def k7m0 : Method := { name := "<init>", desc := "()V", sig := { parameters := [], returnType := none }, accessFlags := 1, code := none }
def k7c1 : Code := { maxStack := 5, maxLocals := 2, code := jdk_42_method_3_code, exceptionTable := #[], attributes := #[] }
def k7m1 : Method := { name := "<init>", desc := "([C)V", sig := { parameters := [(.array .char)], returnType := none }, accessFlags := 1, code := some k7c1 }
def k7c2 : Code := { maxStack := 2, maxLocals := 1, code := jdk_42_method_54_code, exceptionTable := #[], attributes := #[] }
def k7m2 : Method := { name := "length", desc := "()I", sig := { parameters := [], returnType := some .int }, accessFlags := 1, code := some k7c2 }
def k7c3 : Code := { maxStack := 2, maxLocals := 2, code := jdk_42_method_56_code, exceptionTable := #[], attributes := #[] }
def k7m3 : Method := { name := "charAt", desc := "(I)C", sig := { parameters := [.int], returnType := some .char }, accessFlags := 1, code := some k7c3 }
def k7c4 : Code := { maxStack := 2, maxLocals := 3, code := jdk_42_method_66_code, exceptionTable := #[], attributes := #[] }
def k7m4 : Method := { name := "equals", desc := "(Ljava/lang/Object;)Z", sig := { parameters := [(.object "java/lang/Object")], returnType := some .boolean }, accessFlags := 1, code := some k7c4 }
def k7c5 : Code := { maxStack := 4, maxLocals := 6, code := jdk_42_method_149_code, exceptionTable := #[], attributes := #[] }
def k7m5 : Method := { name := "<init>", desc := "([CIILjava/lang/Void;)V", sig := { parameters := [(.array .char), .int, .int, (.object "java/lang/Void")], returnType := none }, accessFlags := 2, code := some k7c5 }
def k7c6 : Code := { maxStack := 1, maxLocals := 1, code := jdk_42_method_152_code, exceptionTable := #[], attributes := #[] }
def k7m6 : Method := { name := "coder", desc := "()B", sig := { parameters := [], returnType := some .byte }, accessFlags := 0, code := some k7c6 }
def k7c7 : Code := { maxStack := 1, maxLocals := 1, code := jdk_42_method_154_code, exceptionTable := #[], attributes := #[] }
def k7m7 : Method := { name := "isLatin1", desc := "()Z", sig := { parameters := [], returnType := some .boolean }, accessFlags := 0, code := some k7c7 }
def k7c8 : Code := { maxStack := 3, maxLocals := 2, code := jdk_42_method_155_code, exceptionTable := #[], attributes := #[] }
def k7m8 : Method := { name := "checkIndex", desc := "(II)V", sig := { parameters := [.int, .int], returnType := none }, accessFlags := 8, code := some k7c8 }
/-- java/lang/String -/
def k7 : Class := { plain "java/lang/String" (some 0) with
  accessFlags := 49
  interfaces := #[2, 3, 4, 5, 6]
  cf := some (fileOf pool7 10 #[.nestMembers #[1103]] #[{ accessFlags := 1, nameIndex := 5, descriptorIndex := 6, attributes := #[] }, { accessFlags := 1, nameIndex := 5, descriptorIndex := 1010, attributes := #[] }, { accessFlags := 1, nameIndex := 507, descriptorIndex := 334, attributes := #[] }, { accessFlags := 1, nameIndex := 497, descriptorIndex := 427, attributes := #[] }, { accessFlags := 1, nameIndex := 543, descriptorIndex := 573, attributes := #[] }, { accessFlags := 2, nameIndex := 5, descriptorIndex := 29, attributes := #[] }, { accessFlags := 0, nameIndex := 17, descriptorIndex := 337, attributes := #[] }, { accessFlags := 0, nameIndex := 494, descriptorIndex := 142, attributes := #[] }, { accessFlags := 8, nameIndex := 501, descriptorIndex := 391, attributes := #[] }] 49 2 #[1106, 1108, 575, 1110, 1112] #[{ accessFlags := 18, nameIndex := 13, descriptorIndex := 14, attributes := #[] }, { accessFlags := 18, nameIndex := 17, descriptorIndex := 18, attributes := #[] }, { accessFlags := 2, nameIndex := 21, descriptorIndex := 22, attributes := #[] }, { accessFlags := 2, nameIndex := 25, descriptorIndex := 26, attributes := #[] }, { accessFlags := 26, nameIndex := 1116, descriptorIndex := 1117, attributes := #[] }, { accessFlags := 24, nameIndex := 40, descriptorIndex := 26, attributes := #[] }, { accessFlags := 26, nameIndex := 1101, descriptorIndex := 1102, attributes := #[] }, { accessFlags := 26, nameIndex := 1121, descriptorIndex := 1122, attributes := #[] }, { accessFlags := 25, nameIndex := 599, descriptorIndex := 600, attributes := #[] }, { accessFlags := 24, nameIndex := 1125, descriptorIndex := 18, attributes := #[] }, { accessFlags := 24, nameIndex := 1127, descriptorIndex := 18, attributes := #[] }])
  fields := #[{ name := "value", type := (.array .byte), accessFlags := 18, slot := 0, constantValue := 0 }, { name := "coder", type := .byte, accessFlags := 18, slot := 1, constantValue := 0 }, { name := "hash", type := .int, accessFlags := 2, slot := 2, constantValue := 0 }, { name := "hashIsZero", type := .boolean, accessFlags := 2, slot := 3, constantValue := 0 }, { name := "serialVersionUID", type := .long, accessFlags := 26, slot := 0, constantValue := 0 }, { name := "COMPACT_STRINGS", type := .boolean, accessFlags := 24, slot := 1, constantValue := 0 }, { name := "serialPersistentFields", type := (.array (.object "java/io/ObjectStreamField")), accessFlags := 26, slot := 2, constantValue := 0 }, { name := "REPL", type := .char, accessFlags := 26, slot := 3, constantValue := 0 }, { name := "CASE_INSENSITIVE_ORDER", type := (.object "java/util/Comparator"), accessFlags := 25, slot := 4, constantValue := 0 }, { name := "LATIN1", type := .byte, accessFlags := 24, slot := 5, constantValue := 0 }, { name := "UTF16", type := .byte, accessFlags := 24, slot := 6, constantValue := 0 }]
  methods := #[k7m0, k7m1, k7m2, k7m3, k7m4, k7m5, k7m6, k7m7, k7m8]
  instanceTypes := #[(.array .byte), .byte, .int, .boolean]
  staticTypes := #[.long, .boolean, (.array (.object "java/io/ObjectStreamField")), .char, (.object "java/util/Comparator"), .byte, .byte]
  resolved := Array.replicate 1451 none
  statics := some 0 }

def pool8 : Array CpInfo := pool [(1, .class_ 2), (0, u "java/lang/String"), (1, .class_ 6), (1, u "java/lang/Object"), (0, u "<init>"), (0, u "()V"), (0, .methodref 1 10), (0, .nameAndType 11 12), (0, u "checkIndex"), (0, u "(II)V"), (1, .class_ 16), (1, u "java/lang/StringLatin1"), (36, u "([BI)C"), (67, u "$assertionsDisabled"), (0, u "Z"), (98, .class_ 223), (1, u "java/lang/StringLatin1$LinesSpliterator"), (28, u "charAt"), (28, u "equals"), (0, u "([B[B)Z"), (107, .class_ 391), (0, u "java/lang/StringLatin1$CharsSpliterator")] 3

def k8m0 : Method := { name := "<init>", desc := "()V", sig := { parameters := [], returnType := none }, accessFlags := 0, code := none }
def k8c1 : Code := { maxStack := 2, maxLocals := 2, code := jdk_43_method_2_code, exceptionTable := #[], attributes := #[] }
def k8m1 : Method := { name := "charAt", desc := "([BI)C", sig := { parameters := [(.array .byte), .int], returnType := some .char }, accessFlags := 9, code := some k8c1 }
def k8c2 : Code := { maxStack := 3, maxLocals := 3, code := jdk_43_method_13_code, exceptionTable := #[], attributes := #[] }
def k8m2 : Method := { name := "equals", desc := "([B[B)Z", sig := { parameters := [(.array .byte), (.array .byte)], returnType := some .boolean }, accessFlags := 9, code := some k8c2 }
/-- java/lang/StringLatin1 -/
def k8 : Class := { plain "java/lang/StringLatin1" (some 0) with
  accessFlags := 48
  interfaces := #[]
  cf := some (fileOf pool8 14 #[.nestMembers #[390, 221]] #[{ accessFlags := 0, nameIndex := 7, descriptorIndex := 8, attributes := #[] }, { accessFlags := 9, nameIndex := 252, descriptorIndex := 53, attributes := #[] }, { accessFlags := 9, nameIndex := 281, descriptorIndex := 282, attributes := #[] }] 48 4 #[] #[{ accessFlags := 4120, nameIndex := 121, descriptorIndex := 122, attributes := #[] }])
  fields := #[{ name := "$assertionsDisabled", type := .boolean, accessFlags := 4120, slot := 0, constantValue := 0 }]
  methods := #[k8m0, k8m1, k8m2]
  instanceTypes := #[]
  staticTypes := #[.boolean]
  resolved := Array.replicate 395 none
  statics := none }

def pool9 : Array CpInfo := pool [(2, .class_ 4), (1, u "java/lang/Object"), (0, u "<init>"), (0, u "()V"), (17, .class_ 26), (1, u "jdk/internal/util/Preconditions"), (6, u "checkIndex"), (21, .class_ 56), (0, u "jdk/internal/util/Preconditions$4"), (57, .class_ 115), (0, u "jdk/internal/util/Preconditions$1"), (7, u "SIOOBE_FORMATTER"), (0, u "Ljava/util/function/BiFunction;"), (0, .class_ 126), (0, u "jdk/internal/util/Preconditions$2"), (3, u "AIOOBE_FORMATTER"), (0, .class_ 132), (0, u "jdk/internal/util/Preconditions$3"), (3, u "IOOBE_FORMATTER"), (41, u "(IILjava/util/function/BiFunction;)I")] 15

def k9m0 : Method := { name := "<init>", desc := "()V", sig := { parameters := [], returnType := none }, accessFlags := 1, code := none }
def k9c1 : Code := { maxStack := 3, maxLocals := 3, code := jdk_41_method_11_code, exceptionTable := #[], attributes := #[] }
def k9m1 : Method := { name := "checkIndex", desc := "(IILjava/util/function/BiFunction;)I", sig := { parameters := [.int, .int, (.object "java/util/function/BiFunction")], returnType := some .int }, accessFlags := 9, code := some k9c1 }
/-- jdk/internal/util/Preconditions -/
def k9 : Class := { plain "jdk/internal/util/Preconditions" (some 0) with
  accessFlags := 33
  interfaces := #[]
  cf := some (fileOf pool9 24 #[.nestMembers #[55, 131, 125, 114]] #[{ accessFlags := 1, nameIndex := 5, descriptorIndex := 6, attributes := #[] }, { accessFlags := 9, nameIndex := 33, descriptorIndex := 178, attributes := #[] }] 33 2 #[] #[{ accessFlags := 25, nameIndex := 123, descriptorIndex := 124, attributes := #[] }, { accessFlags := 25, nameIndex := 130, descriptorIndex := 124, attributes := #[] }, { accessFlags := 25, nameIndex := 136, descriptorIndex := 124, attributes := #[] }])
  fields := #[{ name := "SIOOBE_FORMATTER", type := (.object "java/util/function/BiFunction"), accessFlags := 25, slot := 0, constantValue := 0 }, { name := "AIOOBE_FORMATTER", type := (.object "java/util/function/BiFunction"), accessFlags := 25, slot := 1, constantValue := 0 }, { name := "IOOBE_FORMATTER", type := (.object "java/util/function/BiFunction"), accessFlags := 25, slot := 2, constantValue := 0 }]
  methods := #[k9m0, k9m1]
  instanceTypes := #[]
  staticTypes := #[(.object "java/util/function/BiFunction"), (.object "java/util/function/BiFunction"), (.object "java/util/function/BiFunction")]
  resolved := Array.replicate 194 none
  statics := some 1 }

def pool10 : Array CpInfo := pool [(6, .class_ 8), (1, u "java/lang/Object"), (0, u "<init>"), (0, u "()V"), (1, .class_ 14), (1, u "java/lang/StringUTF16"), (31, u "$assertionsDisabled"), (0, u "Z"), (13, u "HI_BYTE_SHIFT"), (0, u "I"), (2, u "LO_BYTE_SHIFT"), (49, .methodref 12 116), (0, .nameAndType 117 118), (0, u "compress"), (0, u "([CI[BII)I"), (3, u "([CII)[B"), (138, u "coderFromArrayLen"), (0, u "([BI)B"), (106, .class_ 371), (1, u "java/lang/StringUTF16$LinesSpliterator"), (58, u "MAX_LENGTH"), (196, .class_ 628), (0, u "java/lang/StringUTF16$CodePointsSpliterator"), (0, .class_ 630), (0, u "java/lang/StringUTF16$CharsSpliterator")] 4

def k10m0 : Method := { name := "<init>", desc := "()V", sig := { parameters := [], returnType := none }, accessFlags := 0, code := none }
def k10c1 : Code := { maxStack := 2, maxLocals := 2, code := jdk_52_method_15_code, exceptionTable := #[], attributes := #[] }
def k10m1 : Method := { name := "coderFromArrayLen", desc := "([BI)B", sig := { parameters := [(.array .byte), .int], returnType := some .byte }, accessFlags := 8, code := some k10c1 }
def k10c2 : Code := { maxStack := 5, maxLocals := 6, code := jdk_52_method_16_code, exceptionTable := #[], attributes := #[] }
def k10m2 : Method := { name := "compress", desc := "([CII)[B", sig := { parameters := [(.array .char), .int, .int], returnType := some (.array .byte) }, accessFlags := 9, code := some k10c2 }
def k10c3 : Code := { maxStack := 3, maxLocals := 7, code := jdk_52_method_21_code, exceptionTable := #[], attributes := #[] }
def k10m3 : Method := { name := "compress", desc := "([CI[BII)I", sig := { parameters := [(.array .char), .int, (.array .byte), .int, .int], returnType := some .int }, accessFlags := 9, code := some k10c3 }
/-- java/lang/StringUTF16 -/
def k10 : Class := { plain "java/lang/StringUTF16" (some 0) with
  accessFlags := 48
  interfaces := #[]
  cf := some (fileOf pool10 12 #[.nestMembers #[627, 629, 369]] #[{ accessFlags := 0, nameIndex := 9, descriptorIndex := 10, attributes := #[] }, { accessFlags := 8, nameIndex := 261, descriptorIndex := 262, attributes := #[] }, { accessFlags := 9, nameIndex := 117, descriptorIndex := 122, attributes := #[] }, { accessFlags := 9, nameIndex := 117, descriptorIndex := 118, attributes := #[] }] 48 6 #[] #[{ accessFlags := 26, nameIndex := 61, descriptorIndex := 62, attributes := #[] }, { accessFlags := 26, nameIndex := 65, descriptorIndex := 62, attributes := #[] }, { accessFlags := 24, nameIndex := 430, descriptorIndex := 62, attributes := #[] }, { accessFlags := 4120, nameIndex := 46, descriptorIndex := 47, attributes := #[] }])
  fields := #[{ name := "HI_BYTE_SHIFT", type := .int, accessFlags := 26, slot := 0, constantValue := 0 }, { name := "LO_BYTE_SHIFT", type := .int, accessFlags := 26, slot := 1, constantValue := 0 }, { name := "MAX_LENGTH", type := .int, accessFlags := 24, slot := 2, constantValue := 0 }, { name := "$assertionsDisabled", type := .boolean, accessFlags := 4120, slot := 3, constantValue := 0 }]
  methods := #[k10m0, k10m1, k10m2, k10m3]
  instanceTypes := #[]
  staticTypes := #[.int, .int, .int, .boolean]
  resolved := Array.replicate 635 none
  statics := none }

def pool11 : Array CpInfo := pool [(2, .class_ 4), (1, u "java/lang/Enum"), (0, u "name"), (0, u "Ljava/lang/String;"), (2, u "ordinal"), (0, u "I"), (1, .class_ 14), (1, u "java/lang/Object"), (4, u "hash"), (86, .class_ 108), (1, u "java/lang/Enum$EnumDesc"), (2, .class_ 112), (0, u "java/lang/constant/Constable"), (0, .class_ 114), (0, u "java/lang/Comparable"), (0, .class_ 116), (0, u "java/io/Serializable")] 87

/-- java/lang/Enum -/
def k11 : Class := { plain "java/lang/Enum" (some 0) with
  accessFlags := 1057
  interfaces := #[5, 3, 2]
  cf := some (fileOf pool11 2 #[.nestMembers #[106]] #[] 1057 12 #[111, 113, 115] #[{ accessFlags := 18, nameIndex := 5, descriptorIndex := 6, attributes := #[] }, { accessFlags := 18, nameIndex := 9, descriptorIndex := 10, attributes := #[] }, { accessFlags := 2, nameIndex := 19, descriptorIndex := 10, attributes := #[] }])
  fields := #[{ name := "name", type := (.object "java/lang/String"), accessFlags := 18, slot := 0, constantValue := 0 }, { name := "ordinal", type := .int, accessFlags := 18, slot := 1, constantValue := 0 }, { name := "hash", type := .int, accessFlags := 2, slot := 2, constantValue := 0 }]
  methods := #[]
  instanceTypes := #[(.object "java/lang/String"), .int, .int]
  staticTypes := #[]
  resolved := Array.replicate 204 none
  statics := none }

def pool12 : Array CpInfo := pool [(1, .class_ 2), (0, u "com/example/wardn/wardn/rules/ErrorClass"), (2, u "FORBIDDEN"), (0, u "Lcom/example/wardn/wardn/rules/ErrorClass;"), (2, u "UNAUTHORIZED"), (0, .fieldref 1 11), (0, .nameAndType 12 13), (0, u "$VALUES"), (0, u "[Lcom/example/wardn/wardn/rules/ErrorClass;"), (0, .methodref 15 16), (0, .class_ 13), (0, .nameAndType 17 18), (0, u "clone"), (0, u "()Ljava/lang/Object;"), (1, .class_ 22), (1, u "java/lang/Enum"), (6, .fieldref 1 30), (0, .nameAndType 31 32), (0, u "jsonName"), (0, u "Ljava/lang/String;"), (2, u "status"), (0, u "I"), (0, .methodref 1 38), (0, .nameAndType 39 40), (0, u "values"), (0, u "()[Lcom/example/wardn/wardn/rules/ErrorClass;"), (0, .methodref 42 43), (0, .class_ 44), (0, .nameAndType 45 46), (0, u "java/lang/String"), (0, u "equals"), (0, u "(Ljava/lang/Object;)Z"), (0, .methodref 48 49), (0, .class_ 50), (0, .nameAndType 51 52), (0, u "java/util/Optional"), (0, u "of"), (0, u "(Ljava/lang/Object;)Ljava/util/Optional;"), (0, .methodref 48 54), (0, .nameAndType 55 56), (0, u "empty"), (0, u "()Ljava/util/Optional;"), (19, u "named"), (0, u "(Ljava/lang/String;)Ljava/util/Optional;")] 7

def k12c0 : Code := { maxStack := 1, maxLocals := 0, code := prog_6_method_1_code, exceptionTable := #[], attributes := #[] }
def k12m0 : Method := { name := "values", desc := "()[Lcom/example/wardn/wardn/rules/ErrorClass;", sig := { parameters := [], returnType := some (.array (.object "com/example/wardn/wardn/rules/ErrorClass")) }, accessFlags := 9, code := some k12c0 }
def k12c1 : Code := { maxStack := 2, maxLocals := 5, code := prog_6_method_6_code, exceptionTable := #[], attributes := #[] }
def k12m1 : Method := { name := "named", desc := "(Ljava/lang/String;)Ljava/util/Optional;", sig := { parameters := [(.object "java/lang/String")], returnType := some (.object "java/util/Optional") }, accessFlags := 9, code := some k12c1 }
/-- com/example/wardn/wardn/rules/ErrorClass -/
def k12 : Class := { plain "com/example/wardn/wardn/rules/ErrorClass" (some 11) with
  accessFlags := 16433
  interfaces := #[]
  cf := some (fileOf pool12 1 #[] #[{ accessFlags := 9, nameIndex := 39, descriptorIndex := 40, attributes := #[] }, { accessFlags := 9, nameIndex := 76, descriptorIndex := 77, attributes := #[] }] 16433 20 #[] #[{ accessFlags := 16409, nameIndex := 5, descriptorIndex := 6, attributes := #[] }, { accessFlags := 16409, nameIndex := 9, descriptorIndex := 6, attributes := #[] }, { accessFlags := 18, nameIndex := 31, descriptorIndex := 32, attributes := #[] }, { accessFlags := 18, nameIndex := 35, descriptorIndex := 36, attributes := #[] }, { accessFlags := 4122, nameIndex := 12, descriptorIndex := 13, attributes := #[] }])
  fields := #[{ name := "FORBIDDEN", type := (.object "com/example/wardn/wardn/rules/ErrorClass"), accessFlags := 16409, slot := 0, constantValue := 0 }, { name := "UNAUTHORIZED", type := (.object "com/example/wardn/wardn/rules/ErrorClass"), accessFlags := 16409, slot := 1, constantValue := 0 }, { name := "jsonName", type := (.object "java/lang/String"), accessFlags := 18, slot := 3, constantValue := 0 }, { name := "status", type := .int, accessFlags := 18, slot := 4, constantValue := 0 }, { name := "$VALUES", type := (.array (.object "com/example/wardn/wardn/rules/ErrorClass")), accessFlags := 4122, slot := 2, constantValue := 0 }]
  methods := #[k12m0, k12m1]
  instanceTypes := #[(.object "java/lang/String"), .int, .int, (.object "java/lang/String"), .int]
  staticTypes := #[(.object "com/example/wardn/wardn/rules/ErrorClass"), (.object "com/example/wardn/wardn/rules/ErrorClass"), (.array (.object "com/example/wardn/wardn/rules/ErrorClass"))]
  resolved := Array.replicate 85 none
  statics := some 2 }

def pool13 : Array CpInfo := pool [(1, .class_ 2), (0, u "java/lang/Cloneable"), (0, .class_ 4), (0, u "java/lang/Object")] 2

/-- java/lang/Cloneable -/
def k13 : Class := { plain "java/lang/Cloneable" (some 0) with
  accessFlags := 1537
  interfaces := #[]
  cf := some (fileOf pool13 1 #[] #[] 1537 3 #[] #[])
  fields := #[]
  methods := #[]
  instanceTypes := #[]
  staticTypes := #[]
  resolved := Array.replicate 7 none
  statics := none }

def pool14 : Array CpInfo := pool [(1, .fieldref 2 3), (0, .class_ 4), (0, .nameAndType 5 6), (0, u "java/util/Optional"), (0, u "EMPTY"), (0, u "Ljava/util/Optional;"), (0, .methodref 8 9), (0, .class_ 10), (0, .nameAndType 11 12), (0, u "java/lang/Object"), (0, u "<init>"), (0, u "()V"), (0, .fieldref 2 14), (0, .nameAndType 15 16), (0, u "value"), (0, u "Ljava/lang/Object;"), (0, .methodref 18 19), (0, .class_ 20), (0, .nameAndType 21 22), (0, u "java/util/Objects"), (0, u "requireNonNull"), (0, u "(Ljava/lang/Object;)Ljava/lang/Object;"), (0, .methodref 2 24), (0, .nameAndType 11 25), (0, u "(Ljava/lang/Object;)V"), (29, u "empty"), (0, u "()Ljava/util/Optional;"), (8, u "(Ljava/lang/Object;)Ljava/util/Optional;"), (16, u "of"), (82, u "orElse")] 21

def k14c0 : Code := { maxStack := 1, maxLocals := 1, code := jdk_32_method_1_code, exceptionTable := #[], attributes := #[] }
def k14m0 : Method := { name := "empty", desc := "()Ljava/util/Optional;", sig := { parameters := [], returnType := some (.object "java/util/Optional") }, accessFlags := 9, code := some k14c0 }
def k14c1 : Code := { maxStack := 2, maxLocals := 2, code := jdk_32_method_2_code, exceptionTable := #[], attributes := #[] }
def k14m1 : Method := { name := "<init>", desc := "(Ljava/lang/Object;)V", sig := { parameters := [(.object "java/lang/Object")], returnType := none }, accessFlags := 2, code := some k14c1 }
def k14c2 : Code := { maxStack := 3, maxLocals := 1, code := jdk_32_method_3_code, exceptionTable := #[], attributes := #[] }
def k14m2 : Method := { name := "of", desc := "(Ljava/lang/Object;)Ljava/util/Optional;", sig := { parameters := [(.object "java/lang/Object")], returnType := some (.object "java/util/Optional") }, accessFlags := 9, code := some k14c2 }
def k14c3 : Code := { maxStack := 1, maxLocals := 2, code := jdk_32_method_15_code, exceptionTable := #[], attributes := #[] }
def k14m3 : Method := { name := "orElse", desc := "(Ljava/lang/Object;)Ljava/lang/Object;", sig := { parameters := [(.object "java/lang/Object")], returnType := some (.object "java/lang/Object") }, accessFlags := 1, code := some k14c3 }
/-- java/util/Optional -/
def k14 : Class := { plain "java/util/Optional" (some 0) with
  accessFlags := 49
  interfaces := #[]
  cf := some (fileOf pool14 2 #[] #[{ accessFlags := 9, nameIndex := 55, descriptorIndex := 56, attributes := #[] }, { accessFlags := 2, nameIndex := 11, descriptorIndex := 25, attributes := #[] }, { accessFlags := 9, nameIndex := 82, descriptorIndex := 65, attributes := #[] }, { accessFlags := 1, nameIndex := 165, descriptorIndex := 22, attributes := #[] }] 49 8 #[] #[{ accessFlags := 26, nameIndex := 5, descriptorIndex := 6, attributes := #[] }, { accessFlags := 18, nameIndex := 15, descriptorIndex := 16, attributes := #[] }])
  fields := #[{ name := "EMPTY", type := (.object "java/util/Optional"), accessFlags := 26, slot := 0, constantValue := 0 }, { name := "value", type := (.object "java/lang/Object"), accessFlags := 18, slot := 0, constantValue := 0 }]
  methods := #[k14m0, k14m1, k14m2, k14m3]
  instanceTypes := #[(.object "java/lang/Object")]
  staticTypes := #[(.object "java/util/Optional")]
  resolved := Array.replicate 187 none
  statics := some 3 }

def pool15 : Array CpInfo := pool [(2, .class_ 4), (1, u "java/lang/Object"), (0, u "<init>"), (0, u "()V"), (35, .class_ 44), (1, u "java/util/Objects"), (0, u "requireNonNull"), (0, u "(Ljava/lang/Object;)Ljava/lang/Object;")] 137

def k15m0 : Method := { name := "<init>", desc := "()V", sig := { parameters := [], returnType := none }, accessFlags := 2, code := none }
def k15c1 : Code := { maxStack := 2, maxLocals := 1, code := jdk_31_method_10_code, exceptionTable := #[], attributes := #[] }
def k15m1 : Method := { name := "requireNonNull", desc := "(Ljava/lang/Object;)Ljava/lang/Object;", sig := { parameters := [(.object "java/lang/Object")], returnType := some (.object "java/lang/Object") }, accessFlags := 9, code := some k15c1 }
/-- java/util/Objects -/
def k15 : Class := { plain "java/util/Objects" (some 0) with
  accessFlags := 49
  interfaces := #[]
  cf := some (fileOf pool15 42 #[] #[{ accessFlags := 2, nameIndex := 5, descriptorIndex := 6, attributes := #[] }, { accessFlags := 9, nameIndex := 45, descriptorIndex := 46, attributes := #[] }] 49 2 #[] #[])
  fields := #[]
  methods := #[k15m0, k15m1]
  instanceTypes := #[]
  staticTypes := #[]
  resolved := Array.replicate 184 none
  statics := none }

def pool16 : Array CpInfo := pool [(9, u "<init>"), (6, .class_ 18), (1, u "java/lang/Object"), (0, u "()V"), (1, .class_ 23), (1, u "jdk/internal/util/ArraysSupport"), (0, u "LOG2_ARRAY_LONG_INDEX_SCALE"), (0, u "I"), (2, u "U"), (0, u "Ljdk/internal/misc/Unsafe;"), (8, u "BIG_ENDIAN"), (0, u "Z"), (8, u "LOG2_BYTE_BIT_SIZE"), (4, u "LOG2_ARRAY_INT_INDEX_SCALE"), (54, u "JLA"), (0, u "Ljdk/internal/access/JavaLangAccess;"), (11, u "LOG2_ARRAY_BOOLEAN_INDEX_SCALE"), (9, u "LOG2_ARRAY_BYTE_INDEX_SCALE"), (5, u "LOG2_ARRAY_CHAR_INDEX_SCALE"), (5, u "LOG2_ARRAY_SHORT_INDEX_SCALE"), (18, u "LOG2_ARRAY_FLOAT_INDEX_SCALE"), (24, u "LOG2_ARRAY_DOUBLE_INDEX_SCALE"), (89, u "T_BOOLEAN"), (2, u "T_CHAR"), (1, u "T_FLOAT"), (1, u "T_DOUBLE"), (1, u "T_BYTE"), (1, u "T_SHORT"), (1, u "T_INT"), (1, u "T_LONG"), (1, u "SOFT_MAX_ARRAY_LENGTH")] 83

def k16m0 : Method := { name := "<init>", desc := "()V", sig := { parameters := [], returnType := none }, accessFlags := 2, code := none }
/-- jdk/internal/util/ArraysSupport -/
def k16 : Class := { plain "jdk/internal/util/ArraysSupport" (some 0) with
  accessFlags := 33
  interfaces := #[]
  cf := some (fileOf pool16 21 #[] #[{ accessFlags := 2, nameIndex := 9, descriptorIndex := 19, attributes := #[] }] 33 16 #[] #[{ accessFlags := 24, nameIndex := 28, descriptorIndex := 29, attributes := #[] }, { accessFlags := 26, nameIndex := 38, descriptorIndex := 39, attributes := #[] }, { accessFlags := 25, nameIndex := 121, descriptorIndex := 25, attributes := #[] }, { accessFlags := 25, nameIndex := 131, descriptorIndex := 25, attributes := #[] }, { accessFlags := 25, nameIndex := 137, descriptorIndex := 25, attributes := #[] }, { accessFlags := 25, nameIndex := 143, descriptorIndex := 25, attributes := #[] }, { accessFlags := 25, nameIndex := 53, descriptorIndex := 25, attributes := #[] }, { accessFlags := 25, nameIndex := 24, descriptorIndex := 25, attributes := #[] }, { accessFlags := 25, nameIndex := 162, descriptorIndex := 25, attributes := #[] }, { accessFlags := 25, nameIndex := 187, descriptorIndex := 25, attributes := #[] }, { accessFlags := 26, nameIndex := 48, descriptorIndex := 25, attributes := #[] }, { accessFlags := 25, nameIndex := 277, descriptorIndex := 25, attributes := #[] }, { accessFlags := 25, nameIndex := 280, descriptorIndex := 25, attributes := #[] }, { accessFlags := 25, nameIndex := 282, descriptorIndex := 25, attributes := #[] }, { accessFlags := 25, nameIndex := 284, descriptorIndex := 25, attributes := #[] }, { accessFlags := 25, nameIndex := 286, descriptorIndex := 25, attributes := #[] }, { accessFlags := 25, nameIndex := 288, descriptorIndex := 25, attributes := #[] }, { accessFlags := 25, nameIndex := 290, descriptorIndex := 25, attributes := #[] }, { accessFlags := 25, nameIndex := 292, descriptorIndex := 25, attributes := #[] }, { accessFlags := 26, nameIndex := 108, descriptorIndex := 109, attributes := #[] }, { accessFlags := 25, nameIndex := 294, descriptorIndex := 25, attributes := #[] }])
  fields := #[{ name := "U", type := (.object "jdk/internal/misc/Unsafe"), accessFlags := 24, slot := 0, constantValue := 0 }, { name := "BIG_ENDIAN", type := .boolean, accessFlags := 26, slot := 1, constantValue := 0 }, { name := "LOG2_ARRAY_BOOLEAN_INDEX_SCALE", type := .int, accessFlags := 25, slot := 2, constantValue := 0 }, { name := "LOG2_ARRAY_BYTE_INDEX_SCALE", type := .int, accessFlags := 25, slot := 3, constantValue := 0 }, { name := "LOG2_ARRAY_CHAR_INDEX_SCALE", type := .int, accessFlags := 25, slot := 4, constantValue := 0 }, { name := "LOG2_ARRAY_SHORT_INDEX_SCALE", type := .int, accessFlags := 25, slot := 5, constantValue := 0 }, { name := "LOG2_ARRAY_INT_INDEX_SCALE", type := .int, accessFlags := 25, slot := 6, constantValue := 0 }, { name := "LOG2_ARRAY_LONG_INDEX_SCALE", type := .int, accessFlags := 25, slot := 7, constantValue := 0 }, { name := "LOG2_ARRAY_FLOAT_INDEX_SCALE", type := .int, accessFlags := 25, slot := 8, constantValue := 0 }, { name := "LOG2_ARRAY_DOUBLE_INDEX_SCALE", type := .int, accessFlags := 25, slot := 9, constantValue := 0 }, { name := "LOG2_BYTE_BIT_SIZE", type := .int, accessFlags := 26, slot := 10, constantValue := 0 }, { name := "T_BOOLEAN", type := .int, accessFlags := 25, slot := 11, constantValue := 0 }, { name := "T_CHAR", type := .int, accessFlags := 25, slot := 12, constantValue := 0 }, { name := "T_FLOAT", type := .int, accessFlags := 25, slot := 13, constantValue := 0 }, { name := "T_DOUBLE", type := .int, accessFlags := 25, slot := 14, constantValue := 0 }, { name := "T_BYTE", type := .int, accessFlags := 25, slot := 15, constantValue := 0 }, { name := "T_SHORT", type := .int, accessFlags := 25, slot := 16, constantValue := 0 }, { name := "T_INT", type := .int, accessFlags := 25, slot := 17, constantValue := 0 }, { name := "T_LONG", type := .int, accessFlags := 25, slot := 18, constantValue := 0 }, { name := "JLA", type := (.object "jdk/internal/access/JavaLangAccess"), accessFlags := 26, slot := 19, constantValue := 0 }, { name := "SOFT_MAX_ARRAY_LENGTH", type := .int, accessFlags := 25, slot := 20, constantValue := 0 }]
  methods := #[k16m0]
  instanceTypes := #[]
  staticTypes := #[(.object "jdk/internal/misc/Unsafe"), .boolean, .int, .int, .int, .int, .int, .int, .int, .int, .int, .int, .int, .int, .int, .int, .int, .int, .int, (.object "jdk/internal/access/JavaLangAccess"), .int]
  resolved := Array.replicate 378 none
  statics := none }

/-- the primitive byte -/
def k17 : Class := { plain "byte" none with kind := .primitive 'B', accessFlags := 0x411 }
/-- [B -/
def k18 : Class := { plain "[B" (some 0) with kind := .array 17 .byte, interfaces := #[13, 2], accessFlags := 1041 }

/-- the primitive char -/
def k19 : Class := { plain "char" none with kind := .primitive 'C', accessFlags := 0x411 }
/-- [C -/
def k20 : Class := { plain "[C" (some 0) with kind := .array 19 .char, interfaces := #[13, 2], accessFlags := 1041 }

/-- the primitive int -/
def k21 : Class := { plain "int" none with kind := .primitive 'I', accessFlags := 0x411 }
/-- [I -/
def k22 : Class := { plain "[I" (some 0) with kind := .array 21 .int, interfaces := #[13, 2], accessFlags := 1041 }

/-- [Lcom/example/wardn/wardn/rules/ErrorClass; -/
def k23 : Class := { plain "[Lcom/example/wardn/wardn/rules/ErrorClass;" (some 0) with kind := .array 12 (.object "com/example/wardn/wardn/rules/ErrorClass"), interfaces := #[13, 2], accessFlags := 1041 }

def heap : Heap := #[{ cls := 7, slots := #[.long 0, .int 1, .null, .int 0, .null, .int 0, .int 0], vm := .statics 7 },
  { cls := 9, slots := #[.null, .null, .null], vm := .statics 9 },
  { cls := 12, slots := #[.ref 5, .ref 6, .ref 4], vm := .statics 12 },
  { cls := 14, slots := #[.ref 11], vm := .statics 14 },
  { cls := 23, slots := #[.ref 5, .ref 6], vm := .none },
  { cls := 12, slots := #[.null, .int 0, .int 0, .ref 7, .int 403], vm := .none },
  { cls := 12, slots := #[.null, .int 1, .int 0, .ref 8, .int 401], vm := .none },
  { cls := 7, slots := #[.ref 9, .int 0, .int 0, .int 0], vm := .none },
  { cls := 7, slots := #[.ref 10, .int 0, .int 0, .int 0], vm := .none },
  { cls := 18, slots := #[.int 102, .int 111, .int 114, .int 98, .int 105, .int 100, .int 100, .int 101, .int 110], vm := .none },
  { cls := 18, slots := #[.int 117, .int 110, .int 97, .int 117, .int 116, .int 104, .int 111, .int 114, .int 105, .int 122, .int 101, .int 100], vm := .none },
  { cls := 14, slots := #[.null], vm := .none }]
def classes : Array Class := #[k0, k1, k2, k3, k4, k5, k6, k7, k8, k9, k10, k11, k12, k13, k14, k15, k16, k17, k18, k19, k20, k21, k22, k23]
def interned : List (Array UInt16 × Addr) := []
def slotsUsed : Nat := 56
def theMethod : MethodId := ⟨1, 1⟩
def args0 : Array Value := #[.int 0, .long 5, .long 7, .int 2, .int 9]
def aboutOver (below : List Frame) : State where
  vm := { classes := classes, interned := interned.toArray }
  heap := heap
  slotsUsed := slotsUsed
  threads := #[{ frames := .invoking theMethod args0 :: below }]
def below0 : List Frame := [.native { method := ⟨0, 0⟩, args := #[] }]
def about1 : State := aboutOver below0
def p0 : Program := .bare "" "" ""
def e0 : Env := launch0.env 0 0 0
theorem w_frames : about1.frames = Frame.invoking theMethod args0 :: below0 := rfl
set_option maxRecDepth 65536 in
theorem w_args : argsFit about1.vm theMethod args0 = true := by decide +kernel
set_option maxRecDepth 65536 in
theorem w_heap : heapFits about1 = true := by decide +kernel
set_option maxRecDepth 65536 in
theorem w_runnable : about1.curStatus? = some .runnable := by decide +kernel
set_option maxRecDepth 65536 in
theorem w_alone : about1.alone = true := by decide +kernel
set_option maxRecDepth 65536 in
theorem w_named : about1.methodNamed? x = some theMethod := by decide +kernel
set_option maxRecDepth 65536 in
theorem w_hears : about1.hears theMethod below0 = true := by decide +kernel
set_option maxRecDepth 65536 in
theorem w_ripe : about1.ripe theMethod args0 below0 = true := by decide +kernel
theorem w_running : about1.status = .running := rfl
set_option maxRecDepth 65536 in
theorem w_room : about1.hasRoom e0.platform room_1 = true :=
  launch0.hasRoom_least _ room_1 (by decide +kernel) (by decide +kernel) (by decide +kernel) (by decide +kernel) (by decide +kernel) (by decide +kernel)
theorem allAtoms_all (ts : List Jvm.Cond) (a : Array Jvm.Value) (st : Jvm.State) : (allAtoms ts).before a st = ts.all (fun c => c.before a st) := by
  induction ts with
  | nil => rfl
  | cons c t ih =>
    show (Jvm.Cond.and c (allAtoms t)).before a st = _
    rw [Jvm.Cond.before_and, ih, List.all_cons]
def words1 : List Jvm.Cond := Jvm.Cond.code x code maxLocals ret :: tables_1
/-- a 'code' word, met by the world's own term for the bytes: nothing is compared byte by byte -/
theorem code_word {y : MethodName} {bytes : ByteArray} {mx : Nat} {rt : Option FieldType} {a : Array Value} {s : State} {m : MethodId} {meth : Method} {c : Code} (h1 : s.methodNamed? y = some m) (h2 : s.vm.method? m = some meth) (h3 : meth.code = some c) (h4 : c.code = bytes)
    (h5 : (c.maxLocals == mx && c.exceptionTable.isEmpty && decide (c.maxStack ≤ mostOperands) && decide (meth.sig.returnType = rt) && !meth.locks && decide (parseMethodDescriptor y.desc = some meth.sig)) = true) : (Jvm.Cond.code y bytes mx rt).before a s = true := by
  simp only [Bool.and_eq_true, beq_iff_eq, Bool.not_eq_true', decide_eq_true_eq] at h5
  obtain ⟨⟨⟨⟨⟨g1, g2⟩, g3⟩, g4⟩, g5⟩, g6⟩ := h5
  simp [Cond.before, Cond.holds, Cond.value, h1, h2, h3, h4, g1, g2, g3, g4, g5, g6]
def isCode : Jvm.Cond → Bool
  | .code _ _ _ _ => true
  | _ => false
theorem all_split {L : List Jvm.Cond} {P : Jvm.Cond → Bool} (h1 : L.all (fun c => isCode c || P c) = true) (h2 : ∀ c ∈ L.filter isCode, P c = true) : L.all P = true := by
  refine List.all_eq_true.mpr fun c hc => ?_
  have h := List.all_eq_true.mp h1 c hc
  rcases Bool.eq_false_or_eq_true (isCode c) with hi | hi
  · exact h2 c (List.mem_filter.mpr ⟨hc, hi⟩)
  · simpa [hi] using h
set_option maxRecDepth 65536 in
theorem w_c0 : (Jvm.Cond.code x code maxLocals ret).before args0 about1 = true := code_word (m := ⟨1, 1⟩) (meth := k1m1) (c := k1c1) (by decide +kernel) rfl rfl rfl (by decide +kernel)
set_option maxRecDepth 65536 in
theorem w_c1 : (Jvm.Cond.code ({ cls := "java/lang/String", name := "length", desc := "()I" } : Jvm.MethodName) jdk_42_method_54_code (1 : Nat) (Option.some Jvm.ClassFile.FieldType.int)).before args0 about1 = true := code_word (m := ⟨7, 2⟩) (meth := k7m2) (c := k7c2) (by decide +kernel) rfl rfl rfl (by decide +kernel)
set_option maxRecDepth 65536 in
theorem w_c2 : (Jvm.Cond.code ({ cls := "java/lang/String", name := "coder", desc := "()B" } : Jvm.MethodName) jdk_42_method_152_code (1 : Nat) (Option.some Jvm.ClassFile.FieldType.byte)).before args0 about1 = true := code_word (m := ⟨7, 6⟩) (meth := k7m6) (c := k7c6) (by decide +kernel) rfl rfl rfl (by decide +kernel)
set_option maxRecDepth 65536 in
theorem w_c3 : (Jvm.Cond.code ({ cls := "com/example/wardn/wardn/rules/ErrorClassNamedPinLaw", name := "pick", desc := "(Ljava/lang/String;IJJ)C" } : Jvm.MethodName) method_3_code (6 : Nat) (Option.some Jvm.ClassFile.FieldType.char)).before args0 about1 = true := code_word (m := ⟨1, 2⟩) (meth := k1m2) (c := k1c2) (by decide +kernel) rfl rfl rfl (by decide +kernel)
set_option maxRecDepth 65536 in
theorem w_c4 : (Jvm.Cond.code ({ cls := "java/lang/String", name := "charAt", desc := "(I)C" } : Jvm.MethodName) jdk_42_method_56_code (2 : Nat) (Option.some Jvm.ClassFile.FieldType.char)).before args0 about1 = true := code_word (m := ⟨7, 3⟩) (meth := k7m3) (c := k7c3) (by decide +kernel) rfl rfl rfl (by decide +kernel)
set_option maxRecDepth 65536 in
theorem w_c5 : (Jvm.Cond.code ({ cls := "java/lang/String", name := "isLatin1", desc := "()Z" } : Jvm.MethodName) jdk_42_method_154_code (1 : Nat) (Option.some Jvm.ClassFile.FieldType.boolean)).before args0 about1 = true := code_word (m := ⟨7, 7⟩) (meth := k7m7) (c := k7c7) (by decide +kernel) rfl rfl rfl (by decide +kernel)
set_option maxRecDepth 65536 in
theorem w_c6 : (Jvm.Cond.code ({ cls := "java/lang/StringLatin1", name := "charAt", desc := "([BI)C" } : Jvm.MethodName) jdk_43_method_2_code (2 : Nat) (Option.some Jvm.ClassFile.FieldType.char)).before args0 about1 = true := code_word (m := ⟨8, 1⟩) (meth := k8m1) (c := k8c1) (by decide +kernel) rfl rfl rfl (by decide +kernel)
set_option maxRecDepth 65536 in
theorem w_c7 : (Jvm.Cond.code ({ cls := "java/lang/String", name := "checkIndex", desc := "(II)V" } : Jvm.MethodName) jdk_42_method_155_code (2 : Nat) (Option.none : Option Jvm.ClassFile.FieldType)).before args0 about1 = true := code_word (m := ⟨7, 8⟩) (meth := k7m8) (c := k7c8) (by decide +kernel) rfl rfl rfl (by decide +kernel)
set_option maxRecDepth 65536 in
theorem w_c8 : (Jvm.Cond.code ({ cls := "jdk/internal/util/Preconditions", name := "checkIndex", desc := "(IILjava/util/function/BiFunction;)I" } : Jvm.MethodName) jdk_41_method_11_code (3 : Nat) (Option.some Jvm.ClassFile.FieldType.int)).before args0 about1 = true := code_word (m := ⟨9, 1⟩) (meth := k9m1) (c := k9c1) (by decide +kernel) rfl rfl rfl (by decide +kernel)
set_option maxRecDepth 65536 in
theorem w_c9 : (Jvm.Cond.code ({ cls := "com/example/wardn/wardn/rules/ErrorClassNamedPinLaw", name := "cut", desc := "([CI)[C" } : Jvm.MethodName) method_4_code (3 : Nat) (Option.some (Jvm.ClassFile.FieldType.array Jvm.ClassFile.FieldType.char))).before args0 about1 = true := code_word (m := ⟨1, 3⟩) (meth := k1m3) (c := k1c3) (by decide +kernel) rfl rfl rfl (by decide +kernel)
set_option maxRecDepth 65536 in
theorem w_c10 : (Jvm.Cond.code ({ cls := "java/lang/String", name := "<init>", desc := "([C)V" } : Jvm.MethodName) jdk_42_method_3_code (2 : Nat) (Option.none : Option Jvm.ClassFile.FieldType)).before args0 about1 = true := code_word (m := ⟨7, 1⟩) (meth := k7m1) (c := k7c1) (by decide +kernel) rfl rfl rfl (by decide +kernel)
set_option maxRecDepth 65536 in
theorem w_c11 : (Jvm.Cond.code ({ cls := "java/lang/String", name := "<init>", desc := "([CIILjava/lang/Void;)V" } : Jvm.MethodName) jdk_42_method_149_code (6 : Nat) (Option.none : Option Jvm.ClassFile.FieldType)).before args0 about1 = true := code_word (m := ⟨7, 5⟩) (meth := k7m5) (c := k7c5) (by decide +kernel) rfl rfl rfl (by decide +kernel)
set_option maxRecDepth 65536 in
theorem w_c12 : (Jvm.Cond.code ({ cls := "java/lang/Object", name := "<init>", desc := "()V" } : Jvm.MethodName) object_method_1_code (1 : Nat) (Option.none : Option Jvm.ClassFile.FieldType)).before args0 about1 = true := code_word (m := ⟨0, 0⟩) (meth := k0m0) (c := k0c0) (by decide +kernel) rfl rfl rfl (by decide +kernel)
set_option maxRecDepth 65536 in
theorem w_c13 : (Jvm.Cond.code ({ cls := "java/lang/StringUTF16", name := "compress", desc := "([CII)[B" } : Jvm.MethodName) jdk_52_method_16_code (6 : Nat) (Option.some (Jvm.ClassFile.FieldType.array Jvm.ClassFile.FieldType.byte))).before args0 about1 = true := code_word (m := ⟨10, 2⟩) (meth := k10m2) (c := k10c2) (by decide +kernel) rfl rfl rfl (by decide +kernel)
set_option maxRecDepth 65536 in
theorem w_c14 : (Jvm.Cond.code ({ cls := "java/lang/StringUTF16", name := "compress", desc := "([CI[BII)I" } : Jvm.MethodName) jdk_52_method_21_code (7 : Nat) (Option.some Jvm.ClassFile.FieldType.int)).before args0 about1 = true := code_word (m := ⟨10, 3⟩) (meth := k10m3) (c := k10c3) (by decide +kernel) rfl rfl rfl (by decide +kernel)
set_option maxRecDepth 65536 in
theorem w_c15 : (Jvm.Cond.code ({ cls := "java/lang/StringUTF16", name := "coderFromArrayLen", desc := "([BI)B" } : Jvm.MethodName) jdk_52_method_15_code (2 : Nat) (Option.some Jvm.ClassFile.FieldType.byte)).before args0 about1 = true := code_word (m := ⟨10, 1⟩) (meth := k10m1) (c := k10c1) (by decide +kernel) rfl rfl rfl (by decide +kernel)
set_option maxRecDepth 65536 in
theorem w_c16 : (Jvm.Cond.code ({ cls := "java/lang/String", name := "equals", desc := "(Ljava/lang/Object;)Z" } : Jvm.MethodName) jdk_42_method_66_code (3 : Nat) (Option.some Jvm.ClassFile.FieldType.boolean)).before args0 about1 = true := code_word (m := ⟨7, 4⟩) (meth := k7m4) (c := k7c4) (by decide +kernel) rfl rfl rfl (by decide +kernel)
set_option maxRecDepth 65536 in
theorem w_c17 : (Jvm.Cond.code ({ cls := "java/lang/StringLatin1", name := "equals", desc := "([B[B)Z" } : Jvm.MethodName) jdk_43_method_13_code (3 : Nat) (Option.some Jvm.ClassFile.FieldType.boolean)).before args0 about1 = true := code_word (m := ⟨8, 2⟩) (meth := k8m2) (c := k8c2) (by decide +kernel) rfl rfl rfl (by decide +kernel)
set_option maxRecDepth 65536 in
theorem w_c18 : (Jvm.Cond.code ({ cls := "com/example/wardn/wardn/rules/ErrorClass", name := "named", desc := "(Ljava/lang/String;)Ljava/util/Optional;" } : Jvm.MethodName) prog_6_method_6_code (5 : Nat) (Option.some (Jvm.ClassFile.FieldType.object "java/util/Optional"))).before args0 about1 = true := code_word (m := ⟨12, 1⟩) (meth := k12m1) (c := k12c1) (by decide +kernel) rfl rfl rfl (by decide +kernel)
set_option maxRecDepth 65536 in
theorem w_c19 : (Jvm.Cond.code ({ cls := "com/example/wardn/wardn/rules/ErrorClass", name := "values", desc := "()[Lcom/example/wardn/wardn/rules/ErrorClass;" } : Jvm.MethodName) prog_6_method_1_code (0 : Nat) (Option.some (Jvm.ClassFile.FieldType.array (Jvm.ClassFile.FieldType.object "com/example/wardn/wardn/rules/ErrorClass")))).before args0 about1 = true := code_word (m := ⟨12, 0⟩) (meth := k12m0) (c := k12c0) (by decide +kernel) rfl rfl rfl (by decide +kernel)
set_option maxRecDepth 65536 in
theorem w_c20 : (Jvm.Cond.code ({ cls := "java/util/Optional", name := "of", desc := "(Ljava/lang/Object;)Ljava/util/Optional;" } : Jvm.MethodName) jdk_32_method_3_code (1 : Nat) (Option.some (Jvm.ClassFile.FieldType.object "java/util/Optional"))).before args0 about1 = true := code_word (m := ⟨14, 2⟩) (meth := k14m2) (c := k14c2) (by decide +kernel) rfl rfl rfl (by decide +kernel)
set_option maxRecDepth 65536 in
theorem w_c21 : (Jvm.Cond.code ({ cls := "java/util/Objects", name := "requireNonNull", desc := "(Ljava/lang/Object;)Ljava/lang/Object;" } : Jvm.MethodName) jdk_31_method_10_code (1 : Nat) (Option.some (Jvm.ClassFile.FieldType.object "java/lang/Object"))).before args0 about1 = true := code_word (m := ⟨15, 1⟩) (meth := k15m1) (c := k15c1) (by decide +kernel) rfl rfl rfl (by decide +kernel)
set_option maxRecDepth 65536 in
theorem w_c22 : (Jvm.Cond.code ({ cls := "java/util/Optional", name := "<init>", desc := "(Ljava/lang/Object;)V" } : Jvm.MethodName) jdk_32_method_2_code (2 : Nat) (Option.none : Option Jvm.ClassFile.FieldType)).before args0 about1 = true := code_word (m := ⟨14, 1⟩) (meth := k14m1) (c := k14c1) (by decide +kernel) rfl rfl rfl (by decide +kernel)
set_option maxRecDepth 65536 in
theorem w_c23 : (Jvm.Cond.code ({ cls := "java/util/Optional", name := "orElse", desc := "(Ljava/lang/Object;)Ljava/lang/Object;" } : Jvm.MethodName) jdk_32_method_15_code (2 : Nat) (Option.some (Jvm.ClassFile.FieldType.object "java/lang/Object"))).before args0 about1 = true := code_word (m := ⟨14, 3⟩) (meth := k14m3) (c := k14c3) (by decide +kernel) rfl rfl rfl (by decide +kernel)
set_option maxRecDepth 65536 in
theorem w_c24 : (Jvm.Cond.code ({ cls := "java/util/Optional", name := "empty", desc := "()Ljava/util/Optional;" } : Jvm.MethodName) jdk_32_method_1_code (1 : Nat) (Option.some (Jvm.ClassFile.FieldType.object "java/util/Optional"))).before args0 about1 = true := code_word (m := ⟨14, 0⟩) (meth := k14m0) (c := k14c0) (by decide +kernel) rfl rfl rfl (by decide +kernel)
def codes1 : List Jvm.Cond := [Jvm.Cond.code x code maxLocals ret, Jvm.Cond.code ({ cls := "java/lang/String", name := "length", desc := "()I" } : Jvm.MethodName) jdk_42_method_54_code (1 : Nat) (Option.some Jvm.ClassFile.FieldType.int), Jvm.Cond.code ({ cls := "java/lang/String", name := "coder", desc := "()B" } : Jvm.MethodName) jdk_42_method_152_code (1 : Nat) (Option.some Jvm.ClassFile.FieldType.byte), Jvm.Cond.code ({ cls := "com/example/wardn/wardn/rules/ErrorClassNamedPinLaw", name := "pick", desc := "(Ljava/lang/String;IJJ)C" } : Jvm.MethodName) method_3_code (6 : Nat) (Option.some Jvm.ClassFile.FieldType.char), Jvm.Cond.code ({ cls := "java/lang/String", name := "charAt", desc := "(I)C" } : Jvm.MethodName) jdk_42_method_56_code (2 : Nat) (Option.some Jvm.ClassFile.FieldType.char), Jvm.Cond.code ({ cls := "java/lang/String", name := "isLatin1", desc := "()Z" } : Jvm.MethodName) jdk_42_method_154_code (1 : Nat) (Option.some Jvm.ClassFile.FieldType.boolean), Jvm.Cond.code ({ cls := "java/lang/StringLatin1", name := "charAt", desc := "([BI)C" } : Jvm.MethodName) jdk_43_method_2_code (2 : Nat) (Option.some Jvm.ClassFile.FieldType.char), Jvm.Cond.code ({ cls := "java/lang/String", name := "checkIndex", desc := "(II)V" } : Jvm.MethodName) jdk_42_method_155_code (2 : Nat) (Option.none : Option Jvm.ClassFile.FieldType), Jvm.Cond.code ({ cls := "jdk/internal/util/Preconditions", name := "checkIndex", desc := "(IILjava/util/function/BiFunction;)I" } : Jvm.MethodName) jdk_41_method_11_code (3 : Nat) (Option.some Jvm.ClassFile.FieldType.int), Jvm.Cond.code ({ cls := "com/example/wardn/wardn/rules/ErrorClassNamedPinLaw", name := "cut", desc := "([CI)[C" } : Jvm.MethodName) method_4_code (3 : Nat) (Option.some (Jvm.ClassFile.FieldType.array Jvm.ClassFile.FieldType.char)), Jvm.Cond.code ({ cls := "java/lang/String", name := "<init>", desc := "([C)V" } : Jvm.MethodName) jdk_42_method_3_code (2 : Nat) (Option.none : Option Jvm.ClassFile.FieldType), Jvm.Cond.code ({ cls := "java/lang/String", name := "<init>", desc := "([CIILjava/lang/Void;)V" } : Jvm.MethodName) jdk_42_method_149_code (6 : Nat) (Option.none : Option Jvm.ClassFile.FieldType), Jvm.Cond.code ({ cls := "java/lang/Object", name := "<init>", desc := "()V" } : Jvm.MethodName) object_method_1_code (1 : Nat) (Option.none : Option Jvm.ClassFile.FieldType), Jvm.Cond.code ({ cls := "java/lang/StringUTF16", name := "compress", desc := "([CII)[B" } : Jvm.MethodName) jdk_52_method_16_code (6 : Nat) (Option.some (Jvm.ClassFile.FieldType.array Jvm.ClassFile.FieldType.byte)), Jvm.Cond.code ({ cls := "java/lang/StringUTF16", name := "compress", desc := "([CI[BII)I" } : Jvm.MethodName) jdk_52_method_21_code (7 : Nat) (Option.some Jvm.ClassFile.FieldType.int), Jvm.Cond.code ({ cls := "java/lang/StringUTF16", name := "coderFromArrayLen", desc := "([BI)B" } : Jvm.MethodName) jdk_52_method_15_code (2 : Nat) (Option.some Jvm.ClassFile.FieldType.byte), Jvm.Cond.code ({ cls := "java/lang/String", name := "equals", desc := "(Ljava/lang/Object;)Z" } : Jvm.MethodName) jdk_42_method_66_code (3 : Nat) (Option.some Jvm.ClassFile.FieldType.boolean), Jvm.Cond.code ({ cls := "java/lang/StringLatin1", name := "equals", desc := "([B[B)Z" } : Jvm.MethodName) jdk_43_method_13_code (3 : Nat) (Option.some Jvm.ClassFile.FieldType.boolean), Jvm.Cond.code ({ cls := "com/example/wardn/wardn/rules/ErrorClass", name := "named", desc := "(Ljava/lang/String;)Ljava/util/Optional;" } : Jvm.MethodName) prog_6_method_6_code (5 : Nat) (Option.some (Jvm.ClassFile.FieldType.object "java/util/Optional")), Jvm.Cond.code ({ cls := "com/example/wardn/wardn/rules/ErrorClass", name := "values", desc := "()[Lcom/example/wardn/wardn/rules/ErrorClass;" } : Jvm.MethodName) prog_6_method_1_code (0 : Nat) (Option.some (Jvm.ClassFile.FieldType.array (Jvm.ClassFile.FieldType.object "com/example/wardn/wardn/rules/ErrorClass"))), Jvm.Cond.code ({ cls := "java/util/Optional", name := "of", desc := "(Ljava/lang/Object;)Ljava/util/Optional;" } : Jvm.MethodName) jdk_32_method_3_code (1 : Nat) (Option.some (Jvm.ClassFile.FieldType.object "java/util/Optional")), Jvm.Cond.code ({ cls := "java/util/Objects", name := "requireNonNull", desc := "(Ljava/lang/Object;)Ljava/lang/Object;" } : Jvm.MethodName) jdk_31_method_10_code (1 : Nat) (Option.some (Jvm.ClassFile.FieldType.object "java/lang/Object")), Jvm.Cond.code ({ cls := "java/util/Optional", name := "<init>", desc := "(Ljava/lang/Object;)V" } : Jvm.MethodName) jdk_32_method_2_code (2 : Nat) (Option.none : Option Jvm.ClassFile.FieldType), Jvm.Cond.code ({ cls := "java/util/Optional", name := "orElse", desc := "(Ljava/lang/Object;)Ljava/lang/Object;" } : Jvm.MethodName) jdk_32_method_15_code (2 : Nat) (Option.some (Jvm.ClassFile.FieldType.object "java/lang/Object")), Jvm.Cond.code ({ cls := "java/util/Optional", name := "empty", desc := "()Ljava/util/Optional;" } : Jvm.MethodName) jdk_32_method_1_code (1 : Nat) (Option.some (Jvm.ClassFile.FieldType.object "java/util/Optional"))]
set_option maxRecDepth 65536 in
theorem codes_eq : words1.filter isCode = codes1 := rfl
theorem w_codes : ∀ c ∈ words1.filter isCode, c.before args0 about1 = true := by
  rw [codes_eq]
  intro c hc
  simp only [codes1, List.mem_cons, List.not_mem_nil, or_false] at hc
  rcases hc with rfl | rfl | rfl | rfl | rfl | rfl | rfl | rfl | rfl | rfl | rfl | rfl | rfl | rfl | rfl | rfl | rfl | rfl | rfl | rfl | rfl | rfl | rfl | rfl | rfl
  · exact w_c0
  · exact w_c1
  · exact w_c2
  · exact w_c3
  · exact w_c4
  · exact w_c5
  · exact w_c6
  · exact w_c7
  · exact w_c8
  · exact w_c9
  · exact w_c10
  · exact w_c11
  · exact w_c12
  · exact w_c13
  · exact w_c14
  · exact w_c15
  · exact w_c16
  · exact w_c17
  · exact w_c18
  · exact w_c19
  · exact w_c20
  · exact w_c21
  · exact w_c22
  · exact w_c23
  · exact w_c24
set_option maxRecDepth 65536 in
theorem w_t1 : (words1.take 24).all (fun c => isCode c || c.before args0 about1) = true := by decide +kernel
set_option maxRecDepth 65536 in
theorem w_t2 : ((words1.drop 24).take 24).all (fun c => isCode c || c.before args0 about1) = true := by decide +kernel
set_option maxRecDepth 65536 in
theorem w_t3 : (((words1.drop 24).drop 24).take 24).all (fun c => isCode c || c.before args0 about1) = true := by decide +kernel
set_option maxRecDepth 65536 in
theorem w_t4 : ((((words1.drop 24).drop 24).drop 24).take 24).all (fun c => isCode c || c.before args0 about1) = true := by decide +kernel
set_option maxRecDepth 65536 in
theorem w_t5 : (((((words1.drop 24).drop 24).drop 24).drop 24).take 24).all (fun c => isCode c || c.before args0 about1) = true := by decide +kernel
set_option maxRecDepth 65536 in
theorem w_t6 : (((((words1.drop 24).drop 24).drop 24).drop 24).drop 24).all (fun c => isCode c || c.before args0 about1) = true := by decide +kernel
theorem w_tables : (allAtoms (Jvm.Cond.code x code maxLocals ret :: tables_1)).before args0 about1 = true := by
  rw [allAtoms_all]
  show words1.all (fun c => c.before args0 about1) = true
  refine all_split ?_ w_codes
  rw [← List.take_append_drop 24 words1, List.all_append, w_t1, ← List.take_append_drop 24 (words1.drop 24), List.all_append, w_t2, ← List.take_append_drop 24 ((words1.drop 24).drop 24), List.all_append, w_t3, ← List.take_append_drop 24 (((words1.drop 24).drop 24).drop 24), List.all_append, w_t4, ← List.take_append_drop 24 ((((words1.drop 24).drop 24).drop 24).drop 24), List.all_append, w_t5, w_t6]
  rfl
set_option maxRecDepth 65536 in
theorem w_rest : rest_1_c.before args0 about1 = true := by decide +kernel
set_option maxRecDepth 65536 in
theorem w_case : (Jvm.Cond.and given_1 narrow_1).before args0 about1 = true := by decide +kernel
set_option maxRecDepth 65536 in
theorem w_consts : constsHeld consts_1 about1 := Jvm.Lit.constsHeldB_iff.mp (by decide +kernel)
theorem w_applies : (headSpec (Jvm.Cond.code x code maxLocals ret :: tables_1) room_1).applies x e0.platform about1 = true :=
  (Spec.applies_iff w_frames).mpr ⟨w_running, w_runnable, w_alone, w_named, w_hears, w_ripe, w_room, w_tables⟩
theorem atStart : AtStart classFile x code maxLocals ret World_1 tables_1 room_1 Calls_1 rest_1 Pre_1 launch0 p0 e0 about1 theMethod args0 below0 :=
  ⟨lists_1, trivial, launch0.admits_env _ _ _, launch0.least_env, fairChoices_fair.cas, fairChoices_fair.clock, w_frames, w_args, w_heap, w_applies, ⟨w_consts, trivial⟩, w_rest, w_case⟩
end start1
theorem witness_1 : WitnessClaimed_1 := ⟨start1.p0, start1.e0, start1.about1, start1.theMethod, start1.args0, start1.below0, start1.atStart⟩
end Jvm.Pilot.@@N@@
