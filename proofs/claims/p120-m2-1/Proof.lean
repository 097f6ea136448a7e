import JvmDerived
import JvmDerived.Pilot.@@N@@Statement
import JvmDerived.Pilot.@@N@@Code
set_option linter.unusedVariables false
set_option linter.unusedSimpArgs false
namespace Jvm.OwnK
open Jvm Jvm.ClassFile Sem Op Lib Jvm.Free Jvm.Stand Jvm.LawKit Jvm.RoadKit Bundle
/-! own kit, part 1: a walk as a triple on (heap, pc, locals, stack): Seg; contracts: Ct; who pays a call: Pays -/
def SfOk (Z : State) (EL : List (String × Nat)) (vm : Vm) (h : Heap) (sf : List Addr) : Prop := ∀ x ∈ sf, Z.heap.size ≤ x ∧ x < h.size ∧ Safe Z EL vm h x
def Wk (p : Program) (l : Launch) (e : Env) (R : Room) (s : State) (m : MethodId) (args : Array Value) (below : List Frame) (meth : Method) (c : Code) (Z : State) (a0 : Array Value) (EL : List (String × Nat)) (own : String) (sf : List Addr) (k n : Nat) (T : State) (h : Heap) : Prop :=
  ∃ (vm0 : Vm) (locs : List Loc) (k0 : Nat), Stand p l e R (s.setVm vm0) m args below meth c T locs k n ∧ T.heap = h ∧ s.Since vm0 k0 ∧ k0 ≤ h.size ∧ Z.Warmed39 vm0 ∧ vm0.findClass own = some m.cls ∧ CHr Z EL s.vm s.heap vm0 h ∧ Fr Z.heap.size locs ∧ Ext Z.heap h ∧ EW Z a0 EL ∧ SfOk Z EL vm0 h sf
def Cx (p : Program) (meth : Method) (c : Code) (y : MethodName) (bytes : ByteArray) (maxL : Nat) (ret : Option FieldType) : Prop :=
  p.tables.exec = Jvm.exec ∧ c.code = bytes ∧ c.maxLocals = maxL ∧ meth.sig.returnType = ret ∧ meth.locks = false ∧ meth.name = y.name
def Gl (p : Program) (e : Env) (below : List Frame) (s Z : State) (EL : List (String × Nat)) (Q : Option Value → Heap → Prop) (rc rs : Nat) (u : State) : Prop :=
  ∃ (s₂ : State) (o : Outcome), Steps p.tables e below u s₂ ∧ s₂.status = .running ∧ Ended s₂ below o ∧ ∃ v L, o = .returned v ∧ (Fr Z.heap.size L ∧ Ext Z.heap s₂.heap ∧ Q v s₂.heap) ∧ CHr Z EL s.vm s.heap s₂.vm s₂.heap ∧ ReturnedEndW s o s₂ L rc rs
def Seg (l : Launch) (Z : State) (a0 : Array Value) (EL : List (String × Nat)) (y : MethodName) (bytes : ByteArray) (maxL : Nat) (ret : Option FieldType) (rm : Room) (Q : Option Value → Heap → Prop) (h : Heap) (k n : Nat) (sf : List Addr) (pc : Nat) (L : Array Slot) (S : List Value) : Prop :=
  ∀ (p : Program) (e : Env) (s : State) (m : MethodId) (args : Array Value) (below : List Frame) (meth : Method) (c : Code) (T : State), Cx p meth c y bytes maxL ret → Wk p l e rm s m args below meth c Z a0 EL y.cls sf k n T h → Gl p e below s Z EL Q rm.cells rm.slots (T.setTop (mkF m pc L S))
/-- a contract -/
def Ct (l : Launch) (Z : State) (EL : List (String × Nat)) (sf : List Addr) (ws : List Jvm.Cond) (y : MethodName) (bytes : ByteArray) (maxL : Nat) (ret : Option FieldType) (rm : Room) (as' : Array Value) (h : Heap) (Q : Option Value → Heap → Prop) : Prop :=
  MetFree l y (head1 (Jvm.Cond.code y bytes maxL ret :: ws) rm) (fun a U => a = as' ∧ Z.Warmed39 U.vm ∧ U.heap = h ∧ CHv Z EL U.vm h ∧ SfOk Z EL U.vm h sf ∧ Ext Z.heap h) (fun _ _ _ _ _ => True)
    (fun _ U o U' => ∃ v L, o = .returned v ∧ (Fr Z.heap.size L ∧ Ext Z.heap U'.heap ∧ Q v U'.heap) ∧ CHr Z EL U.vm U.heap U'.vm U'.heap ∧ ReturnedEndW U o U' L rm.cells rm.slots)
section Facts
variable {Z : State} {EL : List (String × Nat)} {vm vm1 : Vm} {h h1 h2 h' : Heap} {sf sf' : List Addr} {ws : List Addr} {a x : Addr} {sl : Nat} {v : Value}
theorem ext_rfl (h : Heap) : Ext h h := ⟨Nat.le_refl _, fun _ _ q => q⟩
theorem ext_tr (A : Ext h h1) (B : Ext h1 h2) : Ext h h2 := ⟨Nat.le_trans A.1 B.1, fun x c q => B.2 x c (A.2 x c q)⟩
theorem ext_kp (A : Ext h h1) (K : Keep h1 h2 ws) (q : ∀ x ∈ ws, h.size ≤ x) : Ext h h2 := ⟨Nat.le_trans A.1 K.1, fun x c r => K.2.1 x c (A.2 x c r) fun z => absurd (Array.getElem?_eq_some_iff.mp r).1 (Nat.not_lt.mpr (q x z))⟩
theorem ext_wr (A : Ext h h1) (W : Wr h1 h2 a sl v) (q : h.size ≤ a) : Ext h h2 := ext_kp A (Keep.of_wr W) (allS q all0)
theorem keep_ext (E : Ext h h1) : Keep h h1 [] := (Keep.refl h []).ext E
theorem ext_keep (K : Keep h h1 []) : Ext h h1 := ⟨K.1, fun x c q => K.2.1 x c q (fun z => nomatch z)⟩
theorem keep_mono {ws' : List Addr} (K : Keep h h1 ws) (q : ∀ x ∈ ws, x ∈ ws' ∨ h.size ≤ x) : Keep h h1 ws' := (Keep.refl h ws').trans K q
theorem SfOk.sub (S : SfOk Z EL vm h sf) (q : ∀ x ∈ sf', x ∈ sf) : SfOk Z EL vm h sf' := fun x hx => S x (q x hx)
theorem SfOk.chr (S : SfOk Z EL vm h sf) (A : CHr Z EL vm h vm1 h') : SfOk Z EL vm1 h' sf := fun x hx => by
  obtain ⟨q1, q2, q3⟩ := S x hx
  exact ⟨q1, Nat.lt_of_lt_of_le q2 A.2.1, A.safe q2 q3⟩
theorem SfOk.cons (S : SfOk Z EL vm h sf) (q1 : Z.heap.size ≤ x) (q2 : x < h.size) (q3 : Safe Z EL vm h x) : SfOk Z EL vm h (x :: sf) := fun y hy => by
  rcases List.mem_cons.mp hy with rfl | hy
  · exact ⟨q1, q2, q3⟩
  · exact S y hy
theorem SfOk.safes (S : SfOk Z EL vm h sf) (q : ∀ x ∈ ws, x ∈ sf) : ∀ x ∈ ws, Safe Z EL vm h x := fun x hx => (S x (q x hx)).2.2
end Facts
section Core
variable {l : Launch} {Z : State} {a0 : Array Value} {EL : List (String × Nat)} {y : MethodName} {bytes : ByteArray} {maxL : Nat} {ret : Option FieldType} {rm : Room} {Q : Option Value → Heap → Prop} {h : Heap} {k n k' n' : Nat} {sf sf' : List Addr} {pc pc' : Nat} {L : Array Slot} {S : List Value}
variable {p : Program} {e : Env} {R : Room} {s : State} {m : MethodId} {args : Array Value} {below : List Frame} {meth : Method} {c : Code} {T : State} {own : String}
theorem Wk.here (w : Wk p l e R s m args below meth c Z a0 EL own sf k n T h) : At T m c below := by obtain ⟨_, _, _, X, -⟩ := w; exact X.here
theorem Wk.mono (w : Wk p l e R s m args below meth c Z a0 EL own sf k n T h) (hk : k ≤ k') (hn : n ≤ n') (q : ∀ x ∈ sf', x ∈ sf) : Wk p l e R s m args below meth c Z a0 EL own sf' k' n' T h := by
  obtain ⟨vm0, locs, k0, X, r1, r2, r3, r4, r5, r6, r7, r8, r9, r10⟩ := w
  exact ⟨vm0, locs, k0, X.mono hk hn, r1, r2, r3, r4, r5, r6, r7, r8, r9, r10.sub q⟩
theorem Seg.mono (hk : k ≤ k') (hn : n ≤ n') (q : ∀ x ∈ sf', x ∈ sf) (g : Seg l Z a0 EL y bytes maxL ret rm Q h k' n' sf' pc L S) : Seg l Z a0 EL y bytes maxL ret rm Q h k n sf pc L S :=
  fun p e s m args below meth c T C w => g p e s m args below meth c T C (w.mono hk hn q)
theorem Seg.post {Q' : Option Value → Heap → Prop} (q : ∀ v h, Q' v h → Q v h) (g : Seg l Z a0 EL y bytes maxL ret rm Q' h k n sf pc L S) : Seg l Z a0 EL y bytes maxL ret rm Q h k n sf pc L S :=
  fun p e s m args below meth c T C w => by
    obtain ⟨s₂, o, h1, h2, h3, v, Ls, h4, ⟨h5, h6, h7⟩, h8⟩ := g p e s m args below meth c T C w
    exact ⟨s₂, o, h1, h2, h3, v, Ls, h4, ⟨h5, h6, q _ _ h7⟩, h8⟩
theorem Gl.st {u u' : State} (hs : ∀ t, Steps p.tables e below u' t → Steps p.tables e below u t) (g : Gl p e below s Z EL Q k n u') : Gl p e below s Z EL Q k n u := by
  obtain ⟨s₂, o, h1, r⟩ := g
  exact ⟨s₂, o, hs _ h1, r⟩
theorem Seg.start (g : Ext Z.heap h → Seg l Z a0 EL y bytes maxL ret rm Q h k n sf pc L S) : Seg l Z a0 EL y bytes maxL ret rm Q h k n sf pc L S :=
  fun p e s m args below meth c T C w => by
    obtain ⟨vm0, locs, k0, X, r1, r2, r3, r4, r5, r6, r7, r8, r9, r10⟩ := w
    exact g r8 p e s m args below meth c T C ⟨vm0, locs, k0, X, r1, r2, r3, r4, r5, r6, r7, r8, r9, r10⟩
/-- a plain step -/
theorem Seg.plain {L' : Array Slot} {S' : List Value} (hs : ∀ (p : Program) (e : Env) (m : MethodId) (below : List Frame) (c : Code) (T : State) (t : State), p.tables.exec = Jvm.exec → c.code = bytes → At T m c below → Steps p.tables e below (T.setTop (mkF m pc' L' S')) t → Steps p.tables e below (T.setTop (mkF m pc L S)) t)
    (g : Seg l Z a0 EL y bytes maxL ret rm Q h k n sf pc' L' S') : Seg l Z a0 EL y bytes maxL ret rm Q h k n sf pc L S :=
  fun p e s m args below meth c T C w => Gl.st (fun t => hs p e m below c T t C.1 C.2.1 w.here) (g p e s m args below meth c T C w)
theorem Ct.of_seg {as' : Array Value} {ws : List Jvm.Cond} (hpn : plainFor y = true) (hEL : EW Z a0 EL) (hent : ∀ m, entryFrame m as' maxL = mkF m 0 L []) (g : Seg l Z a0 EL y bytes maxL ret rm Q h 0 0 sf 0 L []) :
    Ct l Z EL sf ws y bytes maxL ret rm as' h Q := by
  refine MetFree.of_bodySF hpn hisR ?_
  intro p e s m args below meth c s₁ Bd hml0 hP hK
  obtain ⟨rfl, hZ, hh, hC, hSf, hZ0⟩ := hP
  subst hh
  have X0 : Stand p l e rm (s.setVm s.vm) m _ below meth c s₁ [] 0 0 := Stand.of_body Bd
  have e0 : s₁.heap = s.heap := by rw [Bd.state]; rfl
  have hown : s.vm.findClass y.cls = some m.cls := findClass_of_methodNamed Bd.named
  rw [hent m]
  exact g p e s m _ below meth c s₁ ⟨Bd.exec, Bd.bytes, hml0, Bd.returns, Bd.notSynchronized, (name_of_methodNamed Bd.named Bd.method).1⟩ ⟨s.vm, [], 0, X0, e0, (State.WarmedH.refl s).since 0, Nat.zero_le _, hZ, hown, CHr.refl hC, Fr.nil _, hZ0, hEL, hSf⟩
theorem Wk.out (w : Wk p l e R s m args below meth c Z a0 EL own sf k n T h) (C : Cx p meth c y bytes maxL ret) {v : Option Value} (hv : ret = none → v = none) (hQ : Q v h) (hk : k ≤ R.cells) (hn : n ≤ R.slots) {u : State}
    (hs : ∀ (vm0 : Vm) (locs : List Loc), Stand p l e R (s.setVm vm0) m args below meth c T locs k n → ∀ fs, (∀ (f : JFrame) (acts : List Action), f.method = m → f.locked = none → f.entered = [] → (doReturn e (T.setTop f) acts v).1 = T.setFrames fs) → Steps p.tables e below u (T.setFrames fs)) : Gl p e below s Z EL Q R.cells R.slots u := by
  obtain ⟨vm0, locs, k0, X, rfl, r2, r3, r4, r5, r6, r7, r8, r9, r10⟩ := w
  obtain ⟨C1, C2, C3, C4, C5, C6⟩ := C
  obtain ⟨fs, h1, h2, h3, ⟨-, e1, e2, e3⟩⟩ := X.leaveW r2 r3 (v := v) (fun q => hv (C4 ▸ q)) C5
  refine ⟨_, _, hs vm0 locs X fs h1, h2, h3, v, locs, rfl, ⟨r7, r8, hQ⟩, ?_, ⟨v, rfl⟩, e1, e2, e3.mono hk hn⟩
  have A := CHv.at X r4 r9 r6.1
  exact r6.trans A
/-- returns -/
theorem Seg.retI {v : Int32} (hret : ret = some .int) (hd : decode bytes pc = .ok (.ireturn, 1)) (hk : k ≤ rm.cells) (hn : n ≤ rm.slots) (hQ : Q (some (.int v)) h) : Seg l Z a0 EL y bytes maxL ret rm Q h k n sf pc L [.int v] :=
  fun p e s m args below meth c T C w => w.out C (fun q => by rw [hret] at q; cases q) hQ hk hn fun vm0 locs X fs hl => X.ireturnOut C.1 (t := .int) (C.2.2.2.1.trans hret) rfl (Or.inl rfl) (hb C.2.1 hd) hl
theorem Seg.retN {v w : Int32} {t : FieldType} (hret : ret = some t) (ht : t = .boolean ∨ t = .byte ∨ t = .char ∨ t = .short) (hv : nar t v = w) (hd : decode bytes pc = .ok (.ireturn, 1)) (hk : k ≤ rm.cells) (hn : n ≤ rm.slots) (hQ : Q (some (.int w)) h) : Seg l Z a0 EL y bytes maxL ret rm Q h k n sf pc L [.int v] :=
  fun p e s m args below meth c T C w' => by
    subst hv
    exact w'.out C (fun q => by rw [hret] at q; cases q) hQ hk hn fun vm0 locs X fs hl => RoadKit.retN X C.1 (t := t) (C.2.2.2.1.trans hret) ht (hb C.2.1 hd) hl
theorem Seg.retA {v : Value} {t : FieldType} (hret : ret = some t) (ht : t.isReference = true) (hv : v.isRef = true) (hd : decode bytes pc = .ok (.areturn, 1)) (hk : k ≤ rm.cells) (hn : n ≤ rm.slots) (hQ : Q (some v) h) : Seg l Z a0 EL y bytes maxL ret rm Q h k n sf pc L [v] :=
  fun p e s m args below meth c T C w => w.out C (fun q => by rw [hret] at q; cases q) hQ hk hn fun vm0 locs X fs hl => X.areturnOut C.1 hv (C.2.2.2.1.trans hret) ht (hb C.2.1 hd) hl
theorem Seg.retL {v : Int64} (hret : ret = some .long) (hd : decode bytes pc = .ok (.lreturn, 1)) (hk : k ≤ rm.cells) (hn : n ≤ rm.slots) (hQ : Q (some (.long v)) h) : Seg l Z a0 EL y bytes maxL ret rm Q h k n sf pc L [.long v] :=
  fun p e s m args below meth c T C w => w.out C (fun q => by rw [hret] at q; cases q) hQ hk hn fun vm0 locs X fs hl => X.lreturnOut C.1 (C.2.2.2.1.trans hret) (hb C.2.1 hd) hl
theorem Seg.ret0 (hret : ret = none) (hd : decode bytes pc = .ok (.return_, 1)) (hk : k ≤ rm.cells) (hn : n ≤ rm.slots) (hQ : Q none h) : Seg l Z a0 EL y bytes maxL ret rm Q h k n sf pc L [] :=
  fun p e s m args below meth c T C w => w.out C (fun _ => rfl) hQ hk hn fun vm0 locs X fs hl => X.returnOut C.1 (C.2.2.2.1.trans hret) (hb C.2.1 hd) hl
end Core
section Plain
variable {l : Launch} {Z : State} {a0 : Array Value} {EL : List (String × Nat)} {y : MethodName} {bytes : ByteArray} {maxL : Nat} {ret : Option FieldType} {rm : Room} {Q : Option Value → Heap → Prop} {h : Heap} {k n : Nat} {sf : List Addr} {pc pc' : Nat} {L : Array Slot} {S : List Value}
theorem Seg.iloadN {i : Fin 4} {v : Int32} (hd : decode bytes pc = .ok (.iload_n i, 1)) (hl : L[i.val]? = some (.val (.int v))) (hp : pc + 1 = pc') (g : Seg l Z a0 EL y bytes maxL ret rm Q h k n sf pc' L (.int v :: S)) : Seg l Z a0 EL y bytes maxL ret rm Q h k n sf pc L S := by
  subst hp
  exact Seg.plain (fun p e m below c T t hx hc ha hr => XS.iloadN ha hx rfl (hb hc hd) hl hr) g
theorem Seg.iload {i : Nat} {v : Int32} (hd : decode bytes pc = .ok (.iload i, 2)) (hl : L[i]? = some (.val (.int v))) (hp : pc + 2 = pc') (g : Seg l Z a0 EL y bytes maxL ret rm Q h k n sf pc' L (.int v :: S)) : Seg l Z a0 EL y bytes maxL ret rm Q h k n sf pc L S := by
  subst hp
  exact Seg.plain (fun p e m below c T t hx hc ha hr => XS.iload ha hx rfl (hb hc hd) hl hr) g
theorem Seg.lloadN {i : Fin 4} {v : Int64} (hd : decode bytes pc = .ok (.lload_n i, 1)) (hl : L[i.val]? = some (.val (.long v))) (hp : pc + 1 = pc') (g : Seg l Z a0 EL y bytes maxL ret rm Q h k n sf pc' L (.long v :: S)) : Seg l Z a0 EL y bytes maxL ret rm Q h k n sf pc L S := by
  subst hp
  exact Seg.plain (fun p e m below c T t hx hc ha hr => XT.lloadN ha hx rfl (hb hc hd) hl hr) g
theorem Seg.lload {i : Nat} {v : Int64} (hd : decode bytes pc = .ok (.lload i, 2)) (hl : L[i]? = some (.val (.long v))) (hp : pc + 2 = pc') (g : Seg l Z a0 EL y bytes maxL ret rm Q h k n sf pc' L (.long v :: S)) : Seg l Z a0 EL y bytes maxL ret rm Q h k n sf pc L S := by
  subst hp
  exact Seg.plain (fun p e m below c T t hx hc ha hr => XT.lload ha hx rfl (hb hc hd) hl hr) g
theorem Seg.aloadN {i : Fin 4} {v : Value} (hd : decode bytes pc = .ok (.aload_n i, 1)) (hl : L[i.val]? = some (.val v)) (hv : v.isRef = true) (hp : pc + 1 = pc') (g : Seg l Z a0 EL y bytes maxL ret rm Q h k n sf pc' L (v :: S)) : Seg l Z a0 EL y bytes maxL ret rm Q h k n sf pc L S := by
  subst hp
  exact Seg.plain (fun p e m below c T t hx hc ha hr => XS.aloadN ha hx rfl (hb hc hd) hl hv hr) g
theorem Seg.aload {i : Nat} {v : Value} (hd : decode bytes pc = .ok (.aload i, 2)) (hl : L[i]? = some (.val v)) (hv : v.isRef = true) (hp : pc + 2 = pc') (g : Seg l Z a0 EL y bytes maxL ret rm Q h k n sf pc' L (v :: S)) : Seg l Z a0 EL y bytes maxL ret rm Q h k n sf pc L S := by
  subst hp
  exact Seg.plain (fun p e m below c T t hx hc ha hr => XS.aload ha hx rfl (hb hc hd) hl hv hr) g
theorem Seg.istoreN {i : Fin 4} {v : Int32} {L' : Array Slot} (hd : decode bytes pc = .ok (.istore_n i, 1)) (hl : storeLocals L i.val (.int v) = some L') (hp : pc + 1 = pc') (g : Seg l Z a0 EL y bytes maxL ret rm Q h k n sf pc' L' S) : Seg l Z a0 EL y bytes maxL ret rm Q h k n sf pc L (.int v :: S) := by
  subst hp
  exact Seg.plain (fun p e m below c T t hx hc ha hr => XS.istoreN ha hx rfl (hb hc hd) rfl hl hr) g
theorem Seg.istore {i : Nat} {v : Int32} {L' : Array Slot} (hd : decode bytes pc = .ok (.istore i, 2)) (hl : storeLocals L i (.int v) = some L') (hp : pc + 2 = pc') (g : Seg l Z a0 EL y bytes maxL ret rm Q h k n sf pc' L' S) : Seg l Z a0 EL y bytes maxL ret rm Q h k n sf pc L (.int v :: S) := by
  subst hp
  exact Seg.plain (fun p e m below c T t hx hc ha hr => XS.istore ha hx rfl (hb hc hd) rfl hl hr) g
theorem Seg.lstoreN {i : Fin 4} {v : Int64} {L' : Array Slot} (hd : decode bytes pc = .ok (.lstore_n i, 1)) (hl : storeLocals L i.val (.long v) = some L') (hp : pc + 1 = pc') (g : Seg l Z a0 EL y bytes maxL ret rm Q h k n sf pc' L' S) : Seg l Z a0 EL y bytes maxL ret rm Q h k n sf pc L (.long v :: S) := by
  subst hp
  exact Seg.plain (fun p e m below c T t hx hc ha hr => XT.lstoreN ha hx rfl (hb hc hd) rfl hl hr) g
theorem Seg.lstore {i : Nat} {v : Int64} {L' : Array Slot} (hd : decode bytes pc = .ok (.lstore i, 2)) (hl : storeLocals L i (.long v) = some L') (hp : pc + 2 = pc') (g : Seg l Z a0 EL y bytes maxL ret rm Q h k n sf pc' L' S) : Seg l Z a0 EL y bytes maxL ret rm Q h k n sf pc L (.long v :: S) := by
  subst hp
  exact Seg.plain (fun p e m below c T t hx hc ha hr => XT.lstore ha hx rfl (hb hc hd) rfl hl hr) g
theorem Seg.astoreN {i : Fin 4} {v : Value} {L' : Array Slot} (hd : decode bytes pc = .ok (.astore_n i, 1)) (hv : v.isRef = true) (hl : storeLocals L i.val v = some L') (hp : pc + 1 = pc') (g : Seg l Z a0 EL y bytes maxL ret rm Q h k n sf pc' L' S) : Seg l Z a0 EL y bytes maxL ret rm Q h k n sf pc L (v :: S) := by
  subst hp
  exact Seg.plain (fun p e m below c T t hx hc ha hr => XS.astoreN ha hx rfl (hb hc hd) rfl hv hl hr) g
theorem Seg.astore {i : Nat} {v : Value} {L' : Array Slot} (hd : decode bytes pc = .ok (.astore i, 2)) (hv : v.isRef = true) (hl : storeLocals L i v = some L') (hp : pc + 2 = pc') (g : Seg l Z a0 EL y bytes maxL ret rm Q h k n sf pc' L' S) : Seg l Z a0 EL y bytes maxL ret rm Q h k n sf pc L (v :: S) := by
  subst hp
  exact Seg.plain (fun p e m below c T t hx hc ha hr => XS.astore ha hx rfl (hb hc hd) rfl hv hl hr) g
theorem Seg.iconst {i : Int} {v : Int32} (hd : decode bytes pc = .ok (.iconst i, 1)) (hv : Int32.ofInt i = v) (hp : pc + 1 = pc') (g : Seg l Z a0 EL y bytes maxL ret rm Q h k n sf pc' L (.int v :: S)) : Seg l Z a0 EL y bytes maxL ret rm Q h k n sf pc L S := by
  subst hp
  exact Seg.plain (fun p e m below c T t hx hc ha hr => XT.iconstV ha hx rfl v (hb hc hd) hv hr) g
theorem Seg.bipush {i : Int} {v : Int32} (hd : decode bytes pc = .ok (.bipush i, 2)) (hv : (Int8.ofInt i).toInt32 = v) (hp : pc + 2 = pc') (g : Seg l Z a0 EL y bytes maxL ret rm Q h k n sf pc' L (.int v :: S)) : Seg l Z a0 EL y bytes maxL ret rm Q h k n sf pc L S := by
  subst hp
  exact Seg.plain (fun p e m below c T t hx hc ha hr => XT.bipushV ha hx rfl v (hb hc hd) hv hr) g
theorem Seg.sipush {i : Int} {v : Int32} (hd : decode bytes pc = .ok (.sipush i, 3)) (hv : (Int16.ofInt i).toInt32 = v) (hp : pc + 3 = pc') (g : Seg l Z a0 EL y bytes maxL ret rm Q h k n sf pc' L (.int v :: S)) : Seg l Z a0 EL y bytes maxL ret rm Q h k n sf pc L S := by
  subst hp
  exact Seg.plain (fun p e m below c T t hx hc ha hr => XT.sipushV ha hx rfl v (hb hc hd) hv hr) g
theorem Seg.lconst {i : Fin 2} {v : Int64} (hd : decode bytes pc = .ok (.lconst i, 1)) (hv : Int64.ofNat i = v) (hp : pc + 1 = pc') (g : Seg l Z a0 EL y bytes maxL ret rm Q h k n sf pc' L (.long v :: S)) : Seg l Z a0 EL y bytes maxL ret rm Q h k n sf pc L S := by
  subst hp
  exact Seg.plain (fun p e m below c T t hx hc ha hr => XT.lconstV ha hx rfl v (hb hc hd) hv hr) g
theorem Seg.anull  (hd : decode bytes pc = .ok (.aconst_null, 1))  (hp : pc + 1 = pc') (g : Seg l Z a0 EL y bytes maxL ret rm Q h k n sf pc' L (.null :: S)) : Seg l Z a0 EL y bytes maxL ret rm Q h k n sf pc L S := by
  subst hp
  exact Seg.plain (fun p e m below c T t hx hc ha hr => XS.aconstNull ha hx rfl (hb hc hd) hr) g
theorem Seg.iadd {x z v : Int32} (hd : decode bytes pc = .ok (.iadd, 1)) (hv : x + z = v) (hp : pc + 1 = pc') (g : Seg l Z a0 EL y bytes maxL ret rm Q h k n sf pc' L (.int v :: S)) : Seg l Z a0 EL y bytes maxL ret rm Q h k n sf pc L (.int z :: .int x :: S) := by
  subst hp
  exact Seg.plain (fun p e m below c T t hx hc ha hr => XS.iadd ha hx rfl (hb hc hd) rfl (by subst hv; exact hr)) g
theorem Seg.isub {x z v : Int32} (hd : decode bytes pc = .ok (.isub, 1)) (hv : x - z = v) (hp : pc + 1 = pc') (g : Seg l Z a0 EL y bytes maxL ret rm Q h k n sf pc' L (.int v :: S)) : Seg l Z a0 EL y bytes maxL ret rm Q h k n sf pc L (.int z :: .int x :: S) := by
  subst hp
  exact Seg.plain (fun p e m below c T t hx hc ha hr => XS.isub ha hx rfl (hb hc hd) rfl (by subst hv; exact hr)) g
theorem Seg.imul {x z v : Int32} (hd : decode bytes pc = .ok (.imul, 1)) (hv : x * z = v) (hp : pc + 1 = pc') (g : Seg l Z a0 EL y bytes maxL ret rm Q h k n sf pc' L (.int v :: S)) : Seg l Z a0 EL y bytes maxL ret rm Q h k n sf pc L (.int z :: .int x :: S) := by
  subst hp
  exact Seg.plain (fun p e m below c T t hx hc ha hr => XS.imul ha hx rfl (hb hc hd) rfl (by subst hv; exact hr)) g
theorem Seg.iand {x z v : Int32} (hd : decode bytes pc = .ok (.iand, 1)) (hv : x &&& z = v) (hp : pc + 1 = pc') (g : Seg l Z a0 EL y bytes maxL ret rm Q h k n sf pc' L (.int v :: S)) : Seg l Z a0 EL y bytes maxL ret rm Q h k n sf pc L (.int z :: .int x :: S) := by
  subst hp
  exact Seg.plain (fun p e m below c T t hx hc ha hr => XS.iand ha hx rfl (hb hc hd) rfl (by subst hv; exact hr)) g
theorem Seg.ior {x z v : Int32} (hd : decode bytes pc = .ok (.ior, 1)) (hv : x ||| z = v) (hp : pc + 1 = pc') (g : Seg l Z a0 EL y bytes maxL ret rm Q h k n sf pc' L (.int v :: S)) : Seg l Z a0 EL y bytes maxL ret rm Q h k n sf pc L (.int z :: .int x :: S) := by
  subst hp
  exact Seg.plain (fun p e m below c T t hx hc ha hr => XT.ior ha hx rfl (hb hc hd) rfl (by subst hv; exact hr)) g
theorem Seg.ixor {x z v : Int32} (hd : decode bytes pc = .ok (.ixor, 1)) (hv : x ^^^ z = v) (hp : pc + 1 = pc') (g : Seg l Z a0 EL y bytes maxL ret rm Q h k n sf pc' L (.int v :: S)) : Seg l Z a0 EL y bytes maxL ret rm Q h k n sf pc L (.int z :: .int x :: S) := by
  subst hp
  exact Seg.plain (fun p e m below c T t hx hc ha hr => XT.ixor ha hx rfl (hb hc hd) rfl (by subst hv; exact hr)) g
theorem Seg.ishl {x z v : Int32} (hd : decode bytes pc = .ok (.ishl, 1)) (hv : x <<< (z &&& 31) = v) (hp : pc + 1 = pc') (g : Seg l Z a0 EL y bytes maxL ret rm Q h k n sf pc' L (.int v :: S)) : Seg l Z a0 EL y bytes maxL ret rm Q h k n sf pc L (.int z :: .int x :: S) := by
  subst hp
  exact Seg.plain (fun p e m below c T t hx hc ha hr => XT.ishl ha hx rfl (hb hc hd) rfl (by subst hv; exact hr)) g
theorem Seg.ishr {x z v : Int32} (hd : decode bytes pc = .ok (.ishr, 1)) (hv : x >>> (z &&& 31) = v) (hp : pc + 1 = pc') (g : Seg l Z a0 EL y bytes maxL ret rm Q h k n sf pc' L (.int v :: S)) : Seg l Z a0 EL y bytes maxL ret rm Q h k n sf pc L (.int z :: .int x :: S) := by
  subst hp
  exact Seg.plain (fun p e m below c T t hx hc ha hr => XT.ishr ha hx rfl (hb hc hd) rfl (by subst hv; exact hr)) g
theorem Seg.iushr {x z v : Int32} (hd : decode bytes pc = .ok (.iushr, 1)) (hv : (x.toUInt32 >>> (z &&& 31).toUInt32).toInt32 = v) (hp : pc + 1 = pc') (g : Seg l Z a0 EL y bytes maxL ret rm Q h k n sf pc' L (.int v :: S)) : Seg l Z a0 EL y bytes maxL ret rm Q h k n sf pc L (.int z :: .int x :: S) := by
  subst hp
  exact Seg.plain (fun p e m below c T t hx hc ha hr => XT.iushr ha hx rfl (hb hc hd) rfl (by subst hv; exact hr)) g
theorem Seg.ladd {x z v : Int64} (hd : decode bytes pc = .ok (.ladd, 1)) (hv : x + z = v) (hp : pc + 1 = pc') (g : Seg l Z a0 EL y bytes maxL ret rm Q h k n sf pc' L (.long v :: S)) : Seg l Z a0 EL y bytes maxL ret rm Q h k n sf pc L (.long z :: .long x :: S) := by
  subst hp
  exact Seg.plain (fun p e m below c T t hx hc ha hr => XT.ladd ha hx rfl (hb hc hd) rfl (by subst hv; exact hr)) g
theorem Seg.lsub {x z v : Int64} (hd : decode bytes pc = .ok (.lsub, 1)) (hv : x - z = v) (hp : pc + 1 = pc') (g : Seg l Z a0 EL y bytes maxL ret rm Q h k n sf pc' L (.long v :: S)) : Seg l Z a0 EL y bytes maxL ret rm Q h k n sf pc L (.long z :: .long x :: S) := by
  subst hp
  exact Seg.plain (fun p e m below c T t hx hc ha hr => XT.lsub ha hx rfl (hb hc hd) rfl (by subst hv; exact hr)) g
theorem Seg.lmul {x z v : Int64} (hd : decode bytes pc = .ok (.lmul, 1)) (hv : x * z = v) (hp : pc + 1 = pc') (g : Seg l Z a0 EL y bytes maxL ret rm Q h k n sf pc' L (.long v :: S)) : Seg l Z a0 EL y bytes maxL ret rm Q h k n sf pc L (.long z :: .long x :: S) := by
  subst hp
  exact Seg.plain (fun p e m below c T t hx hc ha hr => XT.lmul ha hx rfl (hb hc hd) rfl (by subst hv; exact hr)) g
theorem Seg.land {x z v : Int64} (hd : decode bytes pc = .ok (.land, 1)) (hv : x &&& z = v) (hp : pc + 1 = pc') (g : Seg l Z a0 EL y bytes maxL ret rm Q h k n sf pc' L (.long v :: S)) : Seg l Z a0 EL y bytes maxL ret rm Q h k n sf pc L (.long z :: .long x :: S) := by
  subst hp
  exact Seg.plain (fun p e m below c T t hx hc ha hr => XT.land ha hx rfl (hb hc hd) rfl (by subst hv; exact hr)) g
theorem Seg.lushr {x v : Int64} {z : Int32} (hd : decode bytes pc = .ok (.lushr, 1)) (hv : XT.ushrL x z = v) (hp : pc + 1 = pc') (g : Seg l Z a0 EL y bytes maxL ret rm Q h k n sf pc' L (.long v :: S)) : Seg l Z a0 EL y bytes maxL ret rm Q h k n sf pc L (.int z :: .long x :: S) := by
  subst hp
  exact Seg.plain (fun p e m below c T t hx hc ha hr => XT.lushr ha hx rfl (hb hc hd) rfl (by subst hv; exact hr)) g
theorem Seg.lrem {x z v : Int64} (hd : decode bytes pc = .ok (.lrem, 1)) (hz : z ≠ 0) (hv : x - (x / z) * z = v) (hp : pc + 1 = pc') (g : Seg l Z a0 EL y bytes maxL ret rm Q h k n sf pc' L (.long v :: S)) : Seg l Z a0 EL y bytes maxL ret rm Q h k n sf pc L (.long z :: .long x :: S) := by
  subst hp
  exact Seg.plain (fun p e m below c T t hx hc ha hr => XT.lrem ha hx rfl (hb hc hd) rfl hz (by subst hv; exact hr)) g
theorem Seg.i2l {x : Int32} {v : Int64} (hd : decode bytes pc = .ok (.i2l, 1)) (hv : x.toInt64 = v) (hp : pc + 1 = pc') (g : Seg l Z a0 EL y bytes maxL ret rm Q h k n sf pc' L (.long v :: S)) : Seg l Z a0 EL y bytes maxL ret rm Q h k n sf pc L (.int x :: S) := by
  subst hp
  exact Seg.plain (fun p e m below c T t hx hc ha hr => XT.i2l ha hx rfl (hb hc hd) rfl (by subst hv; exact hr)) g
theorem Seg.l2i {x : Int64} {v : Int32} (hd : decode bytes pc = .ok (.l2i, 1)) (hv : x.toInt32 = v) (hp : pc + 1 = pc') (g : Seg l Z a0 EL y bytes maxL ret rm Q h k n sf pc' L (.int v :: S)) : Seg l Z a0 EL y bytes maxL ret rm Q h k n sf pc L (.long x :: S) := by
  subst hp
  exact Seg.plain (fun p e m below c T t hx hc ha hr => XT.l2i ha hx rfl (hb hc hd) rfl (by subst hv; exact hr)) g
theorem Seg.i2b {x : Int32} {v : Int32} (hd : decode bytes pc = .ok (.i2b, 1)) (hv : x.toInt8.toInt32 = v) (hp : pc + 1 = pc') (g : Seg l Z a0 EL y bytes maxL ret rm Q h k n sf pc' L (.int v :: S)) : Seg l Z a0 EL y bytes maxL ret rm Q h k n sf pc L (.int x :: S) := by
  subst hp
  exact Seg.plain (fun p e m below c T t hx hc ha hr => XT.i2b ha hx rfl (hb hc hd) rfl (by subst hv; exact hr)) g
theorem Seg.i2c {x : Int32} {v : Int32} (hd : decode bytes pc = .ok (.i2c, 1)) (hv : x.toUInt32.toUInt16.toUInt32.toInt32 = v) (hp : pc + 1 = pc') (g : Seg l Z a0 EL y bytes maxL ret rm Q h k n sf pc' L (.int v :: S)) : Seg l Z a0 EL y bytes maxL ret rm Q h k n sf pc L (.int x :: S) := by
  subst hp
  exact Seg.plain (fun p e m below c T t hx hc ha hr => XT.i2c ha hx rfl (hb hc hd) rfl (by subst hv; exact hr)) g
theorem Seg.irem {x z v : Int32} (hd : decode bytes pc = .ok (.irem, 1)) (hz : z ≠ 0) (hv : x % z = v) (hp : pc + 1 = pc') (g : Seg l Z a0 EL y bytes maxL ret rm Q h k n sf pc' L (.int v :: S)) : Seg l Z a0 EL y bytes maxL ret rm Q h k n sf pc L (.int z :: .int x :: S) := by
  subst hp
  exact Seg.plain (fun p e m below c T t hx hc ha hr => XS.irem ha hx rfl (hb hc hd) rfl hz (by subst hv; rw [irem_eq_mod]; exact hr)) g
theorem Seg.lcmp {x z : Int64} {v : Int32} (hd : decode bytes pc = .ok (.lcmp, 1)) (hv : lcmpW x z = v) (hp : pc + 1 = pc') (g : Seg l Z a0 EL y bytes maxL ret rm Q h k n sf pc' L (.int v :: S)) : Seg l Z a0 EL y bytes maxL ret rm Q h k n sf pc L (.long z :: .long x :: S) := by
  subst hp
  exact Seg.plain (fun p e m below c T t hx hc ha hr => XT.lcmp ha hx rfl (hb hc hd) rfl (by subst hv; exact hr)) g
theorem Seg.dup {v : Value} (hd : decode bytes pc = .ok (.dup, 1)) (hv : v.category = 1) (hp : pc + 1 = pc') (g : Seg l Z a0 EL y bytes maxL ret rm Q h k n sf pc' L (v :: v :: S)) : Seg l Z a0 EL y bytes maxL ret rm Q h k n sf pc L (v :: S) := by
  subst hp
  exact Seg.plain (fun p e m below c T t hx hc ha hr => XS.dup ha hx rfl (hb hc hd) rfl hv hr) g
theorem Seg.dupX1 {v w : Value} (hd : decode bytes pc = .ok (.dup_x1, 1)) (hv : v.category = 1) (hw : w.category = 1) (hp : pc + 1 = pc') (g : Seg l Z a0 EL y bytes maxL ret rm Q h k n sf pc' L (v :: w :: v :: S)) : Seg l Z a0 EL y bytes maxL ret rm Q h k n sf pc L (v :: w :: S) := by
  subst hp
  exact Seg.plain (fun p e m below c T t hx hc ha hr => XT.dupX1 ha hx rfl (hb hc hd) rfl hv hw hr) g
theorem Seg.pop {v : Value} (hd : decode bytes pc = .ok (.pop, 1)) (hv : v.category = 1) (hp : pc + 1 = pc') (g : Seg l Z a0 EL y bytes maxL ret rm Q h k n sf pc' L S) : Seg l Z a0 EL y bytes maxL ret rm Q h k n sf pc L (v :: S) := by
  subst hp
  exact Seg.plain (fun p e m below c T t hx hc ha hr => XT.pop ha hx rfl (hb hc hd) rfl hv hr) g
theorem Seg.iinc {i : Nat} {d : Int} {x v : Int32} {L' : Array Slot} (hd : decode bytes pc = .ok (.iinc i d, 3)) (hv : Int32.ofInt d = v) (hl : L[i]? = some (.val (.int x))) {z : Int32} (hz : x + v = z) (hl' : storeLocals L i (.int z) = some L') (hp : pc + 3 = pc') (g : Seg l Z a0 EL y bytes maxL ret rm Q h k n sf pc' L' S) : Seg l Z a0 EL y bytes maxL ret rm Q h k n sf pc L S := by
  subst hp
  exact Seg.plain (fun p e m below c T t hx hc ha hr => XT.iincV ha hx rfl v (hb hc hd) hv hl (by rw [hz]; exact hl') hr) g
theorem Seg.goto {o : Int} (hd : decode bytes pc = .ok (.goto o, 3))  (ho : 0 ≤ (pc : Int) + o) (hp : ((pc : Int) + o).toNat = pc') (g : Seg l Z a0 EL y bytes maxL ret rm Q h k n sf pc' L S) : Seg l Z a0 EL y bytes maxL ret rm Q h k n sf pc L S := by
  subst hp
  exact Seg.plain (fun p e m below c T t hx hc ha hr => XS.goto ha hx rfl rfl (hb hc hd) ho rfl hr) g
theorem Seg.ifY {cd : ClassFile.Cond} {o : Int} {x : Int32} (hd : decode bytes pc = .ok (.ifCond cd o, 3)) (hc' : ifCond.holds cd x = true) (ho : 0 ≤ (pc : Int) + o) (hp : ((pc : Int) + o).toNat = pc') (g : Seg l Z a0 EL y bytes maxL ret rm Q h k n sf pc' L S) : Seg l Z a0 EL y bytes maxL ret rm Q h k n sf pc L (.int x :: S) := by
  subst hp
  exact Seg.plain (fun p e m below c T t hx hc ha hr => XS.ifYes ha hx rfl rfl (hb hc hd) rfl hc' ho rfl hr) g
theorem Seg.ifN {cd : ClassFile.Cond} {o : Int} {x : Int32} (hd : decode bytes pc = .ok (.ifCond cd o, 3)) (hc' : ifCond.holds cd x = false) (hp : pc + 3 = pc') (g : Seg l Z a0 EL y bytes maxL ret rm Q h k n sf pc' L S) : Seg l Z a0 EL y bytes maxL ret rm Q h k n sf pc L (.int x :: S) := by
  subst hp
  exact Seg.plain (fun p e m below c T t hx hc ha hr => XS.ifNo ha hx rfl (hb hc hd) rfl hc' hr) g
theorem Seg.icY {cd : ClassFile.Cond} {o : Int} {x z : Int32} (hd : decode bytes pc = .ok (.if_icmp cd o, 3)) (hc' : if_icmp.holds cd x z = true) (ho : 0 ≤ (pc : Int) + o) (hp : ((pc : Int) + o).toNat = pc') (g : Seg l Z a0 EL y bytes maxL ret rm Q h k n sf pc' L S) : Seg l Z a0 EL y bytes maxL ret rm Q h k n sf pc L (.int z :: .int x :: S) := by
  subst hp
  exact Seg.plain (fun p e m below c T t hx hc ha hr => XS.icmpYes ha hx rfl rfl (hb hc hd) rfl hc' ho rfl hr) g
theorem Seg.icN {cd : ClassFile.Cond} {o : Int} {x z : Int32} (hd : decode bytes pc = .ok (.if_icmp cd o, 3)) (hc' : if_icmp.holds cd x z = false) (hp : pc + 3 = pc') (g : Seg l Z a0 EL y bytes maxL ret rm Q h k n sf pc' L S) : Seg l Z a0 EL y bytes maxL ret rm Q h k n sf pc L (.int z :: .int x :: S) := by
  subst hp
  exact Seg.plain (fun p e m below c T t hx hc ha hr => XS.icmpNo ha hx rfl (hb hc hd) rfl hc' hr) g
theorem Seg.nullY {o : Int} (hd : decode bytes pc = .ok (.ifnull o, 3))  (ho : 0 ≤ (pc : Int) + o) (hp : ((pc : Int) + o).toNat = pc') (g : Seg l Z a0 EL y bytes maxL ret rm Q h k n sf pc' L S) : Seg l Z a0 EL y bytes maxL ret rm Q h k n sf pc L (.null :: S) := by
  subst hp
  exact Seg.plain (fun p e m below c T t hx hc ha hr => XS.ifnullYes ha hx rfl rfl (hb hc hd) rfl ho rfl hr) g
theorem Seg.nullN {o : Int} {a : Addr} (hd : decode bytes pc = .ok (.ifnull o, 3))  (hp : pc + 3 = pc') (g : Seg l Z a0 EL y bytes maxL ret rm Q h k n sf pc' L S) : Seg l Z a0 EL y bytes maxL ret rm Q h k n sf pc L (.ref a :: S) := by
  subst hp
  exact Seg.plain (fun p e m below c T t hx hc ha hr => XS.ifnullNo ha hx rfl (hb hc hd) rfl hr) g
theorem Seg.nonnY {o : Int} {a : Addr} (hd : decode bytes pc = .ok (.ifnonnull o, 3))  (ho : 0 ≤ (pc : Int) + o) (hp : ((pc : Int) + o).toNat = pc') (g : Seg l Z a0 EL y bytes maxL ret rm Q h k n sf pc' L S) : Seg l Z a0 EL y bytes maxL ret rm Q h k n sf pc L (.ref a :: S) := by
  subst hp
  exact Seg.plain (fun p e m below c T t hx hc ha hr => XT.ifnonnullYes ha hx rfl rfl (hb hc hd) rfl ho rfl hr) g
theorem Seg.nonnN {o : Int} (hd : decode bytes pc = .ok (.ifnonnull o, 3))  (hp : pc + 3 = pc') (g : Seg l Z a0 EL y bytes maxL ret rm Q h k n sf pc' L S) : Seg l Z a0 EL y bytes maxL ret rm Q h k n sf pc L (.null :: S) := by
  subst hp
  exact Seg.plain (fun p e m below c T t hx hc ha hr => XT.ifnonnullNo ha hx rfl (hb hc hd) rfl hr) g
theorem Seg.acY {cd : ClassFile.ACond} {o : Int} {x z : Value} (hd : decode bytes pc = .ok (.if_acmp cd o, 3)) (hx' : x.isRef = true) (hz' : z.isRef = true) (hc' : XT.acmp cd x z = true) (ho : 0 ≤ (pc : Int) + o) (hp : ((pc : Int) + o).toNat = pc') (g : Seg l Z a0 EL y bytes maxL ret rm Q h k n sf pc' L S) : Seg l Z a0 EL y bytes maxL ret rm Q h k n sf pc L (z :: x :: S) := by
  subst hp
  exact Seg.plain (fun p e m below c T t hx hc ha hr => XT.acmpYes ha hx rfl rfl (hb hc hd) rfl hx' hz' hc' ho rfl hr) g
theorem Seg.acN {cd : ClassFile.ACond} {o : Int} {x z : Value} (hd : decode bytes pc = .ok (.if_acmp cd o, 3)) (hx' : x.isRef = true) (hz' : z.isRef = true) (hc' : XT.acmp cd x z = false) (hp : pc + 3 = pc') (g : Seg l Z a0 EL y bytes maxL ret rm Q h k n sf pc' L S) : Seg l Z a0 EL y bytes maxL ret rm Q h k n sf pc L (z :: x :: S) := by
  subst hp
  exact Seg.plain (fun p e m below c T t hx hc ha hr => XT.acmpNo ha hx rfl (hb hc hd) rfl hx' hz' hc' hr) g
end Plain
section Heap
variable {l : Launch} {Z : State} {a0 : Array Value} {EL : List (String × Nat)} {y : MethodName} {bytes : ByteArray} {maxL : Nat} {ret : Option FieldType} {rm : Room} {Q : Option Value → Heap → Prop} {h : Heap} {k n : Nat} {sf : List Addr} {pc pc' : Nat} {L : Array Slot} {S : List Value}
variable {p : Program} {e : Env} {R : Room} {s : State} {m : MethodId} {args : Array Value} {below : List Frame} {meth : Method} {c : Code} {T : State} {own : String}
theorem Seg.newO {C : String} {idx sz : Nat} (w : (Cond.classLink y.cls idx C).before a0 Z = true) (wi : (Cond.instantiable C sz).before a0 Z = true) (wz : (Cond.initialized C).before a0 Z = true) (hd : decode bytes pc = .ok (.new idx, 3)) (hp : pc + 3 = pc') {k' n' : Nat} (hk : k + 1 = k') (hn : n + sz = n') (hk2 : k' ≤ rm.cells) (hn2 : n' ≤ rm.slots)
    (g : ∀ (x : Addr) (h' : Heap), Ext h h' → h.size = x → x < h'.size → Exa Z h' x C → (∀ {O nm d : String} {ty : FieldType}, Laid Z a0 C O nm d → parseFieldDescriptor d = some ty → Fld Z h' x O nm d (defaultValue ty)) → Seg l Z a0 EL y bytes maxL ret rm Q h' k' n' (x :: sf) pc' L (.ref x :: S)) :
    Seg l Z a0 EL y bytes maxL ret rm Q h k n sf pc L S := by
  subst hp hk hn
  intro p e s m args below meth c T C' w'
  obtain ⟨vm0, locs, k0, X, r1, r2, r3, r4, r5, r6, r7, r8, r9, r10⟩ := w'
  obtain ⟨T', h', X', e', E, A, D, -, st⟩ := RoadKit.newO X C'.1 r4 r5 w wi wz r1 (g := mkF m pc L S) rfl (hb C'.2.1 hd) hk2 hn2
  refine Gl.st st (g _ h' E rfl A.lt A D p e s m args below meth c T' C' ⟨vm0, locs, k0, X', e', r2, Nat.le_trans r3 E.1, r4, r5, r6.trans (CHr.ext E r6.1), r7, ext_tr r8 E, r9, ?_⟩)
  exact (r10.chr (CHr.ext E r6.1)).cons r8.1 A.lt ((Safe.new (Nat.le_refl _)).ext E r6.1)
theorem Seg.newP {aty : ArrayType} {ty : FieldType} {dv : Value} {z : Int32} (hty : newarray.typeOf aty = ty) (hdv : defaultValue ty = dv) (w : (Cond.arrayClass ty).before a0 Z = true) (hd : decode bytes pc = .ok (.newarray aty, 2)) (hp : pc + 2 = pc') (hz : ¬ z < 0) {cap : Nat} (hcap : z.toNatClampNeg ≤ cap) (hb8 : cap * 8 ≤ 536870912) {k' n' : Nat} (hk : k + 1 = k') (hn : n + cap = n') (hk2 : k' ≤ rm.cells) (hn2 : n' ≤ rm.slots)
    (g : ∀ (x : Addr) (h' : Heap) (kc : ClassId), Ext h h' → h.size = x → x < h'.size → Arv Z h' x kc ty z [] dv → Seg l Z a0 EL y bytes maxL ret rm Q h' k' n' (x :: sf) pc' L (.ref x :: S)) :
    Seg l Z a0 EL y bytes maxL ret rm Q h k n sf pc L (.int z :: S) := by
  subst hp hk hn hty hdv
  intro p e s m args below meth c T C' w'
  obtain ⟨vm0, locs, k0, X, r1, r2, r3, r4, r5, r6, r7, r8, r9, r10⟩ := w'
  obtain ⟨T', h', cA, X', e', E, A, st⟩ := RoadKit.newP X C'.1 r4 w r1 (g := mkF m pc L (.int z :: S)) rfl (hb C'.2.1 hd) rfl hz hcap hb8 hk2 hn2
  have V := Arv.new A hz
  refine Gl.st st (g _ h' cA E rfl A.lt V p e s m args below meth c T' C' ⟨vm0, locs, k0, X', e', r2, Nat.le_trans r3 E.1, r4, r5, r6.trans (CHr.ext E r6.1), r7, ext_tr r8 E, r9, ?_⟩)
  exact (r10.chr (CHr.ext E r6.1)).cons r8.1 A.lt ((Safe.new (Nat.le_refl _)).ext E r6.1)
theorem Seg.getF {R0 O nm d host : String} {idx : Nat} {a : Addr} {v : Value} (w : (Cond.fieldLink y.cls idx R0 nm d).before a0 Z = true ∨ (Cond.fieldLinkNest y.cls idx R0 nm d host).before a0 Z = true) (via : Via Z R0 O nm d) (F : Fld Z h a O nm d v) (hd : decode bytes pc = .ok (.getfield idx, 3)) (hp : pc + 3 = pc')
    (g : Seg l Z a0 EL y bytes maxL ret rm Q h k n sf pc' L (v :: S)) : Seg l Z a0 EL y bytes maxL ret rm Q h k n sf pc L (.ref a :: S) := by
  subst hp
  intro p e s m args below meth c T C' w'
  obtain ⟨vm0, locs, k0, X, r1, r2, r3, r4, r5, r⟩ := w'
  obtain ⟨T', X', e', st⟩ := RoadKit.getF X C'.1 r4 r5 w via r1 F (g := mkF m pc L (.ref a :: S)) rfl rfl (hb C'.2.1 hd)
  exact Gl.st st (g p e s m args below meth c T' C' ⟨vm0, locs, k0, X', e', r2, r3, r4, r5, r⟩)
theorem Seg.getS {R0 O nm d : String} {idx : Nat} {v : Value} (w : (Cond.fieldLink y.cls idx R0 nm d).before a0 Z = true) (via : Via Z R0 O nm d) (F : Sta Z Z.heap O nm d v) (hd : decode bytes pc = .ok (.getstatic idx, 3)) (hp : pc + 3 = pc')
    (g : Seg l Z a0 EL y bytes maxL ret rm Q h k n sf pc' L (v :: S)) : Seg l Z a0 EL y bytes maxL ret rm Q h k n sf pc L S := by
  subst hp
  intro p e s m args below meth c T C' w'
  obtain ⟨vm0, locs, k0, X, r1, r2, r3, r4, r5, r6, r7, r8, r⟩ := w'
  obtain ⟨T', X', e', st⟩ := RoadKit.getS X C'.1 r4 (host := "") r5 w via r1 (F.ext r8) (g := mkF m pc L S) rfl (hb C'.2.1 hd)
  exact Gl.st st (g p e s m args below meth c T' C' ⟨vm0, locs, k0, X', e', r2, r3, r4, r5, r6, r7, r8, r⟩)
theorem Seg.castY {K : String} {idx : Nat} {a : Addr} (w : (Cond.classLink y.cls idx K).before a0 Z = true) (F : Ins Z h a K true) (hd : decode bytes pc = .ok (.checkcast idx, 3)) (hp : pc + 3 = pc')
    (g : Seg l Z a0 EL y bytes maxL ret rm Q h k n sf pc' L (.ref a :: S)) : Seg l Z a0 EL y bytes maxL ret rm Q h k n sf pc L (.ref a :: S) := by
  subst hp
  intro p e s m args below meth c T C' w'
  obtain ⟨vm0, locs, k0, X, r1, r2, r3, r4, r5, r⟩ := w'
  obtain ⟨T', X', e', st⟩ := RoadKit.castY X C'.1 r4 r5 w r1 F (g := mkF m pc L (.ref a :: S)) rfl rfl (hb C'.2.1 hd)
  exact Gl.st st (g p e s m args below meth c T' C' ⟨vm0, locs, k0, X', e', r2, r3, r4, r5, r⟩)
theorem Seg.castNull {idx : Nat} (hd : decode bytes pc = .ok (.checkcast idx, 3)) (hp : pc + 3 = pc')
    (g : Seg l Z a0 EL y bytes maxL ret rm Q h k n sf pc' L (.null :: S)) : Seg l Z a0 EL y bytes maxL ret rm Q h k n sf pc L (.null :: S) := by
  subst hp
  intro p e s m args below meth c T C' w'
  obtain ⟨vm0, locs, k0, X, r⟩ := w'
  exact Gl.st (X.checkcastNull C'.1 (g := mkF m pc L (.null :: S)) rfl rfl (hb C'.2.1 hd)) (g p e s m args below meth c T C' ⟨vm0, locs, k0, X, r⟩)
theorem Seg.instNull {idx : Nat} (hd : decode bytes pc = .ok (.instanceof idx, 3)) (hp : pc + 3 = pc')
    (g : Seg l Z a0 EL y bytes maxL ret rm Q h k n sf pc' L (.int 0 :: S)) : Seg l Z a0 EL y bytes maxL ret rm Q h k n sf pc L (.null :: S) := by
  subst hp
  intro p e s m args below meth c T C' w'
  obtain ⟨vm0, locs, k0, X, r⟩ := w'
  exact Gl.st (X.instanceofNull C'.1 (g := mkF m pc L (.null :: S)) rfl rfl (hb C'.2.1 hd)) (g p e s m args below meth c T C' ⟨vm0, locs, k0, X, r⟩)
theorem Seg.instY {K : String} {idx : Nat} {a : Addr} (w : (Cond.classLink y.cls idx K).before a0 Z = true) (F : Ins Z h a K true) (hd : decode bytes pc = .ok (.instanceof idx, 3)) (hp : pc + 3 = pc')
    (g : Seg l Z a0 EL y bytes maxL ret rm Q h k n sf pc' L (.int 1 :: S)) : Seg l Z a0 EL y bytes maxL ret rm Q h k n sf pc L (.ref a :: S) := by
  subst hp
  intro p e s m args below meth c T C' w'
  obtain ⟨vm0, locs, k0, X, r1, r2, r3, r4, r5, r⟩ := w'
  obtain ⟨T', X', e', st⟩ := RoadKit.instY X C'.1 r4 r5 w r1 F (g := mkF m pc L (.ref a :: S)) rfl rfl (hb C'.2.1 hd)
  exact Gl.st st (g p e s m args below meth c T' C' ⟨vm0, locs, k0, X', e', r2, r3, r4, r5, r⟩)
theorem Seg.instNo {K C : String} {idx : Nat} {a : Addr} (w : (Cond.classLink y.cls idx K).before a0 Z = true) (E : Exa Z h a C) (F : ∃ c t, Z.vm.findClass C = some c ∧ Z.vm.findClass K = some t ∧ Z.vm.assignable c t = false) (hd : decode bytes pc = .ok (.instanceof idx, 3)) (hp : pc + 3 = pc')
    (g : Seg l Z a0 EL y bytes maxL ret rm Q h k n sf pc' L (.int 0 :: S)) : Seg l Z a0 EL y bytes maxL ret rm Q h k n sf pc L (.ref a :: S) := by
  subst hp
  intro p e s m args below meth c T C' w'
  obtain ⟨vm0, locs, k0, X, r1, r2, r3, r4, r5, r⟩ := w'
  obtain ⟨T', X', e', st⟩ := RoadKit.instNo X C'.1 r4 r5 w r1 E F (g := mkF m pc L (.ref a :: S)) rfl rfl (hb C'.2.1 hd)
  exact Gl.st st (g p e s m args below meth c T' C' ⟨vm0, locs, k0, X', e', r2, r3, r4, r5, r⟩)
theorem Seg.initO {idx : Nat} {a : Addr} (w1 : (Cond.methodLink y.cls idx Lib.objectInit).before a0 Z = true) (w2 : (Cond.instanceMethod Lib.objectInit).before a0 Z = true) (w3 : (Cond.code Lib.objectInit ⟨#[0xb1]⟩ 1 none).before a0 Z = true) (hsz : L.size = maxL) (hd : decode bytes pc = .ok (.invokespecial idx, 3)) (hp : pc + 3 = pc') (hf : 1 ≤ rm.frames) {W : Nat} (hW : (S.map fun v => v.category).sum ≤ W) (hl : W + 12 ≤ rm.locals)
    (g : Seg l Z a0 EL y bytes maxL ret rm Q h k n sf pc' L S) : Seg l Z a0 EL y bytes maxL ret rm Q h k n sf pc L (.ref a :: S) := by
  subst hp
  intro p e s m args below meth c T C' w'
  obtain ⟨vm0, locs, k0, X, r1, r2, r3, r4, r5, r⟩ := w'
  obtain ⟨T', X', e', st⟩ := RoadKit.initO X C'.1 r4 r5 w1 w2 w3 r1 (g := mkF m pc L (.ref a :: S)) rfl (hsz.trans C'.2.2.1.symm) rfl (hb C'.2.1 hd) hf (W := W) (by show 2 * 0 + _ ≤ _; omega) hl
  exact Gl.st st (g p e s m args below meth c T' C' ⟨vm0, locs, k0, X', e', r2, r3, r4, r5, r⟩)
theorem wkWr {h' : Heap} {a : Addr} {sl : Nat} {v : Value} {T' : State} {vm0 : Vm} {locs : List Loc} {k0 : Nat} (W : Wr h h' a sl v) (hsf : a ∈ sf) (X' : Stand p l e R (s.setVm vm0) m args below meth c T' (locs ++ [⟨a, sl⟩]) k n) (e' : T'.heap = h')
    (r : s.Since vm0 k0 ∧ k0 ≤ h.size ∧ Z.Warmed39 vm0 ∧ vm0.findClass own = some m.cls ∧ CHr Z EL s.vm s.heap vm0 h ∧ Fr Z.heap.size locs ∧ Ext Z.heap h ∧ EW Z a0 EL ∧ SfOk Z EL vm0 h sf) : Wk p l e R s m args below meth c Z a0 EL own sf k n T' h' := by
  obtain ⟨r2, r3, r4, r5, r6, r7, r8, r9, r10⟩ := r
  obtain ⟨q1, q2, q3⟩ := r10 a hsf
  have A := CHr.wr W q3 r6.1
  exact ⟨vm0, _, k0, X', e', r2, Nat.le_trans r3 A.2.1, r4, r5, r6.trans A, Fr.snoc X' r7 q1, ext_wr r8 W q1, r9, r10.chr A⟩
theorem Seg.putF {R0 O nm d host C : String} {idx kk : Nat} {ty : FieldType} {a : Addr} {v v' old : Value} (w : (Cond.fieldLink y.cls idx R0 nm d).before a0 Z = true) (via : Via Z R0 O nm d) (F : Fld Z h a O nm d old) (E : Exa Z h a C) (Lw : (Cond.lays C O nm d).before a0 Z = true ∨ ((Cond.laysFinal C O nm d).before a0 Z = true ∧ y.cls = O ∧ y.name = "<init>")) (wi : (Cond.instantiable C kk).before a0 Z = true)
    (hty : parseFieldDescriptor d = some ty) (hnw : narrow ty v = v') (hf : fits ty v' = true) (hsf : a ∈ sf) (hd : decode bytes pc = .ok (.putfield idx, 3)) (hp : pc + 3 = pc')
    (g : ∀ h', Wr h h' a (RoadKit.slotOf Z O nm d) v' → Fld Z h' a O nm d v' → Seg l Z a0 EL y bytes maxL ret rm Q h' k n sf pc' L S) : Seg l Z a0 EL y bytes maxL ret rm Q h k n sf pc L (v :: .ref a :: S) := by
  subst hp
  intro p e s m args below meth c T C' w'
  obtain ⟨vm0, locs, k0, X, r1, r2, r3, r4, r5, r⟩ := w'
  obtain ⟨T', h', X', e', W, st⟩ := RoadKit.putFN X C'.1 r4 r5 w via r1 F E (Lw.imp id fun q => ⟨q.1, q.2.1, C'.2.2.2.2.2.trans q.2.2⟩) wi hty hnw hf (g := mkF m pc L (v :: .ref a :: S)) rfl rfl (hb C'.2.1 hd)
  exact Gl.st st (g h' W (F.same W) p e s m args below meth c T' C' (wkWr W hsf X' e' ⟨r2, r3, r4, r5, r⟩))
theorem Seg.castore {a : Addr} {kc : ClassId} {z j v v' : Int32} {vs : List Value} {dv : Value} {i : Nat} (F : Arv Z h a kc .char z vs dv) (hj : ¬ j < 0 ∧ j < z) (hi : j.toNatClampNeg = i) (hil : i < vs.length) (hv : nar .char v = v') (hsf : a ∈ sf) (hd : decode bytes pc = .ok (.castore, 1)) (hp : pc + 1 = pc')
    (g : ∀ h', Wr h h' a i (.int v') → Arv Z h' a kc .char z (vs.set i (.int v')) dv → Seg l Z a0 EL y bytes maxL ret rm Q h' k n sf pc' L S) : Seg l Z a0 EL y bytes maxL ret rm Q h k n sf pc L (.int v :: .int j :: .ref a :: S) := by
  subst hp hv hi
  intro p e s m args below meth c T C' w'
  obtain ⟨vm0, locs, k0, X, r1, r2, r3, r4, r5, r⟩ := w'
  obtain ⟨cl, A, q, Sz, N, H, G⟩ := F
  obtain ⟨T', h', X', e', W, st⟩ := RoadKit.stC X C'.1 r4 r1 A (inb_of Sz hj) (g := mkF m pc L (.int v :: .int j :: .ref a :: S)) rfl rfl (hb C'.2.1 hd)
  exact Gl.st st (g h' W (Arv.set A q Sz N H G (fits_nar_char _) W _ rfl hil) p e s m args below meth c T' C' (wkWr W hsf X' e' ⟨r2, r3, r4, r5, r⟩))
theorem Seg.bastore {a : Addr} {kc : ClassId} {z j v v' : Int32} {vs : List Value} {dv : Value} {i : Nat} (F : Arv Z h a kc .byte z vs dv) (hj : ¬ j < 0 ∧ j < z) (hi : j.toNatClampNeg = i) (hil : i < vs.length) (hv : nar .byte v = v') (hsf : a ∈ sf) (hd : decode bytes pc = .ok (.bastore, 1)) (hp : pc + 1 = pc')
    (g : ∀ h', Wr h h' a i (.int v') → Arv Z h' a kc .byte z (vs.set i (.int v')) dv → Seg l Z a0 EL y bytes maxL ret rm Q h' k n sf pc' L S) : Seg l Z a0 EL y bytes maxL ret rm Q h k n sf pc L (.int v :: .int j :: .ref a :: S) := by
  subst hp hv hi
  intro p e s m args below meth c T C' w'
  obtain ⟨vm0, locs, k0, X, r1, r2, r3, r4, r5, r⟩ := w'
  obtain ⟨cl, A, q, Sz, N, H, G⟩ := F
  obtain ⟨T', h', X', e', W, st⟩ := RoadKit.stB X C'.1 r4 r1 A (inb_of Sz hj) (g := mkF m pc L (.int v :: .int j :: .ref a :: S)) rfl rfl (hb C'.2.1 hd)
  exact Gl.st st (g h' W (Arv.set A q Sz N H G (fits_nar_byte _) W _ rfl hil) p e s m args below meth c T' C' (wkWr W hsf X' e' ⟨r2, r3, r4, r5, r⟩))
theorem Seg.iastore {a : Addr} {kc : ClassId} {z j v : Int32} {vs : List Value} {dv : Value} {i : Nat} (F : Arv Z h a kc .int z vs dv) (hj : ¬ j < 0 ∧ j < z) (hi : j.toNatClampNeg = i) (hil : i < vs.length) (hsf : a ∈ sf) (hd : decode bytes pc = .ok (.iastore, 1)) (hp : pc + 1 = pc')
    (g : ∀ h', Wr h h' a i (.int v) → Arv Z h' a kc .int z (vs.set i (.int v)) dv → Seg l Z a0 EL y bytes maxL ret rm Q h' k n sf pc' L S) : Seg l Z a0 EL y bytes maxL ret rm Q h k n sf pc L (.int v :: .int j :: .ref a :: S) := by
  subst hp hi
  intro p e s m args below meth c T C' w'
  obtain ⟨vm0, locs, k0, X, r1, r2, r3, r4, r5, r⟩ := w'
  obtain ⟨cl, A, q, Sz, N, H, G⟩ := F
  obtain ⟨T', h', X', e', W, st⟩ := RoadKit.stI X C'.1 r4 r1 A (inb_of Sz hj) (g := mkF m pc L (.int v :: .int j :: .ref a :: S)) rfl rfl (hb C'.2.1 hd)
  exact Gl.st st (g h' W (Arv.set A q Sz N H G rfl W _ rfl hil) p e s m args below meth c T' C' (wkWr W hsf X' e' ⟨r2, r3, r4, r5, r⟩))
theorem Seg.caload {a : Addr} {kc : ClassId} {z j : Int32} {vs : List Value} {dv v : Value} (F : Arv Z h a kc .char z vs dv) (hj : ¬ j < 0 ∧ j < z) (hv : vs.getD j.toNatClampNeg dv = v) (hd : decode bytes pc = .ok (.caload, 1)) (hp : pc + 1 = pc')
    (g : Seg l Z a0 EL y bytes maxL ret rm Q h k n sf pc' L (v :: S)) : Seg l Z a0 EL y bytes maxL ret rm Q h k n sf pc L (.int j :: .ref a :: S) := by
  subst hp
  intro p e s m args below meth c T C' w'
  obtain ⟨vm0, locs, k0, X, r1, r2, r3, r4, r⟩ := w'
  obtain ⟨cl, A, q, Sz, N, H, G⟩ := F
  exact Gl.st (X.caload C'.1 (by rw [r1]; exact A.1) (State.isArrayOf_alike r4.alike A.2.1) A.2.2 (inb_of Sz hj) (H.at (inb_of Sz hj) hv) (g := mkF m pc L (.int j :: .ref a :: S)) rfl rfl (hb C'.2.1 hd)) (g p e s m args below meth c T C' ⟨vm0, locs, k0, X, r1, r2, r3, r4, r⟩)
theorem Seg.baload {a : Addr} {kc : ClassId} {z j : Int32} {vs : List Value} {dv v : Value} (F : Arv Z h a kc .byte z vs dv) (hj : ¬ j < 0 ∧ j < z) (hv : vs.getD j.toNatClampNeg dv = v) (hd : decode bytes pc = .ok (.baload, 1)) (hp : pc + 1 = pc')
    (g : Seg l Z a0 EL y bytes maxL ret rm Q h k n sf pc' L (v :: S)) : Seg l Z a0 EL y bytes maxL ret rm Q h k n sf pc L (.int j :: .ref a :: S) := by
  subst hp
  intro p e s m args below meth c T C' w'
  obtain ⟨vm0, locs, k0, X, r1, r2, r3, r4, r⟩ := w'
  obtain ⟨cl, A, q, Sz, N, H, G⟩ := F
  exact Gl.st (X.baloadBytes C'.1 (by rw [r1]; exact A.1) (State.isArrayOf_alike r4.alike A.2.1) A.2.2 (inb_of Sz hj) (H.at (inb_of Sz hj) hv) (g := mkF m pc L (.int j :: .ref a :: S)) rfl rfl (hb C'.2.1 hd)) (g p e s m args below meth c T C' ⟨vm0, locs, k0, X, r1, r2, r3, r4, r⟩)
theorem Seg.iaload {a : Addr} {kc : ClassId} {z j : Int32} {vs : List Value} {dv v : Value} (F : Arv Z h a kc .int z vs dv) (hj : ¬ j < 0 ∧ j < z) (hv : vs.getD j.toNatClampNeg dv = v) (hd : decode bytes pc = .ok (.iaload, 1)) (hp : pc + 1 = pc')
    (g : Seg l Z a0 EL y bytes maxL ret rm Q h k n sf pc' L (v :: S)) : Seg l Z a0 EL y bytes maxL ret rm Q h k n sf pc L (.int j :: .ref a :: S) := by
  subst hp
  intro p e s m args below meth c T C' w'
  obtain ⟨vm0, locs, k0, X, r1, r2, r3, r4, r⟩ := w'
  obtain ⟨cl, A, q, Sz, N, H, G⟩ := F
  exact Gl.st (X.iaload C'.1 (by rw [r1]; exact A.1) (State.isArrayOf_alike r4.alike A.2.1) A.2.2 (inb_of Sz hj) (H.at (inb_of Sz hj) hv) (g := mkF m pc L (.int j :: .ref a :: S)) rfl rfl (hb C'.2.1 hd)) (g p e s m args below meth c T C' ⟨vm0, locs, k0, X, r1, r2, r3, r4, r⟩)
theorem Seg.aaload {a : Addr} {kc : ClassId} {z j : Int32} {ty : FieldType} {vs : List Value} {dv v : Value} (hty : ty.isReference = true) (F : Arv Z h a kc ty z vs dv) (hj : ¬ j < 0 ∧ j < z) (hv : vs.getD j.toNatClampNeg dv = v) (hd : decode bytes pc = .ok (.aaload, 1)) (hp : pc + 1 = pc')
    (g : Seg l Z a0 EL y bytes maxL ret rm Q h k n sf pc' L (v :: S)) : Seg l Z a0 EL y bytes maxL ret rm Q h k n sf pc L (.int j :: .ref a :: S) := by
  subst hp
  intro p e s m args below meth c T C' w'
  obtain ⟨vm0, locs, k0, X, r1, r2, r3, r4, r⟩ := w'
  obtain ⟨cl, A, q, Sz, N, H, G⟩ := F
  exact Gl.st (X.aaload C'.1 (by rw [r1]; exact A.1) (State.isArrayOf_alike r4.alike A.2.1) hty A.2.2 (inb_of Sz hj) (H.at (inb_of Sz hj) hv) (g := mkF m pc L (.int j :: .ref a :: S)) rfl rfl (hb C'.2.1 hd)) (g p e s m args below meth c T C' ⟨vm0, locs, k0, X, r1, r2, r3, r4, r⟩)
theorem Seg.alen {a : Addr} {kc : ClassId} {z : Int32} {ty : FieldType} {vs : List Value} {dv : Value} (F : Arv Z h a kc ty z vs dv) (hd : decode bytes pc = .ok (.arraylength, 1)) (hp : pc + 1 = pc')
    (g : Seg l Z a0 EL y bytes maxL ret rm Q h k n sf pc' L (.int z :: S)) : Seg l Z a0 EL y bytes maxL ret rm Q h k n sf pc L (.ref a :: S) := by
  subst hp
  intro p e s m args below meth c T C' w'
  obtain ⟨vm0, locs, k0, X, r1, r2, r3, r4, r⟩ := w'
  obtain ⟨cl, A, q, Sz, N, H, G⟩ := F
  refine Gl.st (fun t hr => X.arraylength C'.1 (by rw [r1]; exact A.1) (State.isArrayOf_alike r4.alike A.2.1) (g := mkF m pc L (.ref a :: S)) rfl rfl (hb C'.2.1 hd) t ?_) (g p e s m args below meth c T C' ⟨vm0, locs, k0, X, r1, r2, r3, r4, r⟩)
  rw [len_of Sz N]; exact hr
theorem Seg.ldcI {idx : Nat} {v : Int32} (w : (Cond.constant y.cls idx v).before a0 Z = true) (hd : decode bytes pc = .ok (.ldc idx, 2)) (hp : pc + 2 = pc')
    (g : Seg l Z a0 EL y bytes maxL ret rm Q h k n sf pc' L (.int v :: S)) : Seg l Z a0 EL y bytes maxL ret rm Q h k n sf pc L S := by
  subst hp
  intro p e s m args below meth c T C' w'
  obtain ⟨vm0, locs, k0, X, r1, r2, r3, r4, r5, r⟩ := w'
  exact Gl.st (fun t hr => X.ldcI C'.1 r5 (mv r4 w) (g := mkF m pc L S) rfl (hb C'.2.1 hd) hr) (g p e s m args below meth c T C' ⟨vm0, locs, k0, X, r1, r2, r3, r4, r5, r⟩)
theorem Seg.ldcWI {idx : Nat} {v : Int32} (w : (Cond.constant y.cls idx v).before a0 Z = true) (hd : decode bytes pc = .ok (.ldc_w idx, 3)) (hp : pc + 3 = pc')
    (g : Seg l Z a0 EL y bytes maxL ret rm Q h k n sf pc' L (.int v :: S)) : Seg l Z a0 EL y bytes maxL ret rm Q h k n sf pc L S := by
  subst hp
  intro p e s m args below meth c T C' w'
  obtain ⟨vm0, locs, k0, X, r1, r2, r3, r4, r5, r⟩ := w'
  exact Gl.st (fun t hr => X.ldcWI C'.1 r5 (mv r4 w) (g := mkF m pc L S) rfl (hb C'.2.1 hd) hr) (g p e s m args below meth c T C' ⟨vm0, locs, k0, X, r1, r2, r3, r4, r5, r⟩)
theorem Seg.ldc2J {idx : Nat} {v : Int64} (w : (Cond.constantLong y.cls idx v).before a0 Z = true) (hd : decode bytes pc = .ok (.ldc2_w idx, 3)) (hp : pc + 3 = pc')
    (g : Seg l Z a0 EL y bytes maxL ret rm Q h k n sf pc' L (.long v :: S)) : Seg l Z a0 EL y bytes maxL ret rm Q h k n sf pc L S := by
  subst hp
  intro p e s m args below meth c T C' w'
  obtain ⟨vm0, locs, k0, X, r1, r2, r3, r4, r5, r⟩ := w'
  exact Gl.st (fun t hr => X.ldc2J C'.1 r5 (mv r4 w) (g := mkF m pc L S) rfl (hb C'.2.1 hd) hr) (g p e s m args below meth c T C' ⟨vm0, locs, k0, X, r1, r2, r3, r4, r5, r⟩)
/-- ldc of a String constant whose text the sheet assumes held -/
theorem Seg.ldcS {idx nn : Nat} {text : String} {vs : List Value} {z : Int32} (w : (Cond.stringLink y.cls idx text).before a0 Z = true) (wS : ∀ a ∈ Bundle.stringAtoms, a.before a0 Z = true) (hmem : (y.cls, idx) ∈ EL)
    (ht : (∀ c ∈ text.toList, c.toNat < 256) ∧ text.toList.map (fun c => Value.int (Jvm.Lit.byteI c.toNat.toUInt16)) = vs) (hz : ¬ z < 0) (hl : z.toNatClampNeg = vs.length)
    (hd : decode bytes pc = .ok (.ldc idx, 2)) (hp : pc + 2 = pc') (hnn : 4 * text.toList.length ≤ nn) (hbig : nn ≤ 536870912) {k' n' : Nat} (hk : k + 2 = k') (hn : n + (nn + 4) = n') (hk2 : k' ≤ rm.cells) (hn2 : n' ≤ rm.slots)
    (g : ∀ (a : Addr) (h' : Heap) (b : Addr) (kb : ClassId), Ext h h' → Exa Z h' a "java/lang/String" → Fld Z h' a "java/lang/String" "coder" "B" (.int 0) → Fld Z h' a "java/lang/String" "value" "[B" (.ref b) → Arv Z h' b kb .byte z vs (.int 0) → (∀ x ∈ sf, x ≠ a ∧ x ≠ b) → Seg l Z a0 EL y bytes maxL ret rm Q h' k' n' sf pc' L (.ref a :: S)) :
    Seg l Z a0 EL y bytes maxL ret rm Q h k n sf pc L S := by
  subst hp hk hn
  intro p e s m args below meth c T C' w'
  obtain ⟨vm0, locs, k0, X, r1, r2, r3, r4, r5, r6, r7, r8, r9, r10⟩ := w'
  obtain ⟨a, T', h', k1, b, kb, X', e', E, q1, q2, q3, q4, f1, f2, f3, f4, -, -, f5, -, f6, st⟩ := RoadKit.ldcCH X C'.1 r4 r5 w wS r1 r2 r3 r9 hmem r6.1 ht hz hl (g := mkF m pc L S) rfl (hb C'.2.1 hd) hnn hbig hk2 hn2
  have r10' := r10.chr f5
  exact Gl.st st (g a h' b kb E f1 f2 f3 f4 (fun x hx => f6 x (r10' x hx).2.2) p e s m args below meth c T' C' ⟨T'.vm, locs, k1, X', e', q1, q2, q3, q4, r6.trans f5, r7, ext_tr r8 E, r9, r10'⟩)
/-- ldc of a String constant, its text unread -/
theorem Seg.ldcO {idx nn : Nat} {text : String} (w : (Cond.stringLink y.cls idx text).before a0 Z = true) (wS : ∀ a ∈ Bundle.stringAtoms, a.before a0 Z = true)
    (hd : decode bytes pc = .ok (.ldc idx, 2)) (hp : pc + 2 = pc') (hnn : 4 * text.toList.length ≤ nn) (hbig : nn ≤ 536870912) {k' n' : Nat} (hk : k + 2 = k') (hn : n + (nn + 4) = n') (hk2 : k' ≤ rm.cells) (hn2 : n' ≤ rm.slots)
    (g : ∀ (a : Addr) (h' : Heap), Ext h h' → Seg l Z a0 EL y bytes maxL ret rm Q h' k' n' sf pc' L (.ref a :: S)) :
    Seg l Z a0 EL y bytes maxL ret rm Q h k n sf pc L S := by
  subst hp hk hn
  intro p e s m args below meth c T C' w'
  obtain ⟨vm0, locs, k0, X, r1, r2, r3, r4, r5, r6, r7, r8, r9, r10⟩ := w'
  obtain ⟨a, T', h', k1, X', e', E, q1, q2, q3, q4, f5, -, st⟩ := RoadKit.ldcOH X C'.1 r4 r5 w wS r1 r2 r3 r9 r6.1 (g := mkF m pc L S) rfl (hb C'.2.1 hd) hnn hbig hk2 hn2
  exact Gl.st st (g a h' E p e s m args below meth c T' C' ⟨T'.vm, locs, k1, X', e', q1, q2, q3, q4, r6.trans f5, r7, ext_tr r8 E, r9, r10.chr f5⟩)
end Heap
section Calls
variable {l : Launch} {Z : State} {a0 : Array Value} {EL : List (String × Nat)} {y : MethodName} {bytes : ByteArray} {maxL : Nat} {ret : Option FieldType} {rm : Room} {Q : Option Value → Heap → Prop} {h : Heap} {k n : Nat} {sf : List Addr} {pc pc' : Nat} {L : Array Slot} {S : List Value}
/-- WHO PAYS a call of y with the arguments as' at the heap h -/
def Pays (l : Launch) (R : Room) (Z : State) (a0 : Array Value) (EL : List (String × Nat)) (sf : List Addr) (y : MethodName) (len W : Nat) (as' : Array Value) (h : Heap) (rc rs : Nat) (Q : Option Value → Heap → Prop) : Prop :=
  ∀ (p : Program) (e : Env) (below : List Frame) (s : State) (args : Array Value) (vm0 : Vm), Z.Warmed39 vm0 → CHv Z EL vm0 h → SfOk Z EL vm0 h sf → Ext Z.heap h → EW Z a0 EL →
    BackS l R p e below (s.setVm vm0) args y len W (fun A a => a = as' ∧ A.U.heap = h ∧ A.cells + rc ≤ R.cells ∧ A.slots + rs ≤ R.slots)
      (fun A _ v B => ∃ L, (Fr Z.heap.size L ∧ Ext Z.heap B.U.heap ∧ Q v B.U.heap) ∧ B.locs = A.locs ++ L ∧ B.cells = A.cells + rc ∧ B.slots = A.slots + rs ∧ CHr Z EL vm0 h B.U.vm B.U.heap)
theorem Pays.of_ct {R : Room} {as' : Array Value} {rc rs len W : Nat} {sf' : List Addr} (hM : Ct l Z EL sf' [] y bytes maxL ret rm as' h Q) (hsf : ∀ x ∈ sf', x ∈ sf) (wc : (Jvm.Cond.code y bytes maxL ret).before a0 Z = true) (wz : (Jvm.Cond.initialized y.cls).before a0 Z = true) (hf : rm.frames + 1 ≤ R.frames) (hl : W + (maxL + 11) + rm.locals ≤ R.locals) (hrc : rm.cells = rc) (hrs : rm.slots = rs) :
    Pays l R Z a0 EL sf y len W as' h rc rs Q := by
  subst hrc hrs
  intro p e below s args vm0 hZ H hS hE hEL
  refine BackS.of_freeW (bytes := bytes) (maxL := maxL) (ret := ret) (E := fun _ first o t L k n => k = rm.cells ∧ n = rm.slots ∧ (∃ v, o = .returned v ∧ (Fr Z.heap.size L ∧ Ext Z.heap t.heap ∧ Q v t.heap)) ∧ CHr Z EL first.vm first.heap t.vm t.heap) hM hf hl
    (fun m meth c A a Y hp => have hU : Z.Warmed39 A.U.vm := wtrans (s := s.setVm vm0) hZ Y.warmed
      ⟨by show (Cond.and _ .tt).before a A.U = true; rw [Cond.before_and, mv hU wc]; rfl, mv hU wc, mv hU wz, hp.2.2.1, hp.2.2.2⟩)
    (fun m meth c A a g mk Y hp => have q := CHv.at Y hZ hEL H; ⟨hp.1, wtrans (s := s.setVm vm0) hZ Y.warmed, hp.2.1, q.1, (hS.sub hsf).chr q, hE⟩) (fun _ _ _ _ _ _ _ _ _ => trivial)
    (fun _ _ _ _ ⟨v, L, h1, h2, h3, h4⟩ => ⟨L, _, _, h4, rfl, rfl, ⟨v, h1, h2⟩, h3⟩)
    (fun m meth c A a g mk v t L k n Y hp _ _ ⟨e1, e2, ⟨v', e3, e4⟩, e5⟩ => ?_)
  cases e3; subst e1 e2
  refine ⟨L, e4, rfl, rfl, rfl, (CHv.at Y hZ hEL H).trans ?_⟩
  rw [← hp.2.1]; exact e5
theorem Pays.of_back {R : Room} {as' : Array Value} {rc rs len W : Nat} {ws : List Addr} {QL : Option Value → Heap → List Loc → Prop}
    (hK : ∀ (p : Program) (e : Env) (below : List Frame) (s : State) (args : Array Value), Z.Warmed39 s.vm → Ext Z.heap h → (∀ x ∈ sf, Z.heap.size ≤ x) → Back l R p e below s args y len W (fun A a => a = as' ∧ A.U.heap = h ∧ A.cells + rc ≤ R.cells ∧ A.slots + rs ≤ R.slots) (fun A _ v B => ∃ L, QL v B.U.heap L ∧ B.locs = A.locs ++ L ∧ B.cells = A.cells + rc ∧ B.slots = A.slots + rs))
    (hws : ∀ x ∈ ws, x ∈ sf) (hQ : ∀ v h' L, Ext Z.heap h → QL v h' L → Fr Z.heap.size L ∧ Keep h h' ws ∧ Q v h') :
    Pays l R Z a0 EL sf y len W as' h rc rs Q := by
  intro p e below s args vm0 hZ H hS hE hEL m meth c A g ig mk a X hg hsize hdg hW hn hp
  obtain ⟨v, B, X', ⟨L, q, hl, hc, hs⟩, hsteps⟩ := hK p e below (s.setVm vm0) args hZ hE (fun x hx => (hS x hx).1) m meth c A g ig mk a X hg hsize hdg hW hn hp
  obtain ⟨q1, q2, q3⟩ := hQ _ _ _ hE q
  have A1 := CHr.keep q2 (hS.safes hws) H
  have A2 := CHv.at X' hZ hEL A1.1
  refine ⟨v, B, X'.retabled X'.warmed.wide, X'.warmed.since _, by rw [hp.2.1]; exact q2.1, ⟨L, ⟨q1, ext_kp hE q2 (fun x hx => (hS x (hws x hx)).1), q3⟩, hl, hc, hs, A1.trans A2⟩, hsteps⟩
theorem Pays.post {R : Room} {as' : Array Value} {rc rs len W : Nat} {Q' : Option Value → Heap → Prop} (hP : Pays l R Z a0 EL sf y len W as' h rc rs Q) (q : ∀ v h', Q v h' → Q' v h') : Pays l R Z a0 EL sf y len W as' h rc rs Q' := by
  intro p e below s args vm0 hZ H hS hE hEL m meth c A g ig mk a X hg hsize hdg hW hn hp
  obtain ⟨v, B, X', hS', hgr, ⟨L, ⟨q1, q2, q3⟩, hl, hc, hs, hr⟩, hsteps⟩ := hP p e below s args vm0 hZ H hS hE hEL m meth c A g ig mk a X hg hsize hdg hW hn hp
  exact ⟨v, B, X', hS', hgr, ⟨L, ⟨q1, q2, q _ _ q3⟩, hl, hc, hs, hr⟩, hsteps⟩
section Use
variable {y' : MethodName} {as' : Array Value} {rc rs W : Nat} {Q' : Option Value → Heap → Prop} {idx : Nat} {argsL rest : List Value} {k' n' : Nat}
theorem wkBack {p : Program} {e : Env} {R : Room} {s : State} {m : MethodId} {args : Array Value} {below : List Frame} {meth : Method} {c : Code} {own : String} {vm0 : Vm} {locs L0 : List Loc} {k0 : Nat} {B : Pt}
    (r : s.Since vm0 k0 ∧ k0 ≤ h.size ∧ Z.Warmed39 vm0 ∧ vm0.findClass own = some m.cls ∧ CHr Z EL s.vm s.heap vm0 h ∧ Fr Z.heap.size locs ∧ Ext Z.heap h ∧ EW Z a0 EL ∧ SfOk Z EL vm0 h sf)
    (X' : Stand p l e R ((s.setVm vm0).setVm B.U.vm) m args below meth c B.U B.locs B.cells B.slots) (hS : (s.setVm vm0).Since B.U.vm B.U.heap.size) (hg : h.size ≤ B.U.heap.size) (q1 : Fr Z.heap.size L0 ∧ Ext Z.heap B.U.heap) (hl : B.locs = locs ++ L0) (hc : B.cells = k') (hs : B.slots = n') (q : CHr Z EL vm0 h B.U.vm B.U.heap) :
    Wk p l e R s m args below meth c Z a0 EL own sf k' n' B.U B.U.heap := by
  obtain ⟨r2, r3, r4, r5, r6, r7, r8, r9, r10⟩ := r
  obtain ⟨X1, S1, Z1, o1⟩ := rebS r2 r3 X' hS hg r4 r5
  rw [hl, hc, hs] at X1
  exact ⟨B.U.vm, _, _, X1, rfl, S1, Nat.le_refl _, Z1, o1, r6.trans q, r7.app q1.1, q1.2, r9, r10.chr q⟩
theorem Seg.callS {bytes' : ByteArray} {maxL' : Nat} {ret' : Option FieldType} (w1 : (Cond.methodLink y.cls idx y').before a0 Z = true) (w2 : (Cond.static y').before a0 Z = true) (w3 : (Cond.initialized y'.cls).before a0 Z = true) (w4 : (Cond.code y' bytes' maxL' ret').before a0 Z = true) (hy : y'.cls ≠ "java/lang/invoke/MethodHandle" ∧ y'.cls ≠ "java/lang/invoke/VarHandle")
    (hP : Pays l rm Z a0 EL sf y' 3 W as' h rc rs Q') (has : argsL.toArray = as') (hlen : ∀ sig, parseMethodDescriptor y'.desc = some sig → argsL.length = sig.parameters.length) (hst : S = argsL.reverse ++ rest) (hW : (rest.map fun v => v.category).sum ≤ W) (hsz : L.size = maxL) (hd : decode bytes pc = .ok (.invokestatic idx, 3)) (hp : pc + 3 = pc')
    (hk : k + rc = k') (hn : n + rs = n') (hk2 : k' ≤ rm.cells) (hn2 : n' ≤ rm.slots)
    (g : ∀ (v : Option Value) (h' : Heap), h.size ≤ h'.size → Q' v h' → Seg l Z a0 EL y bytes maxL ret rm Q h' k' n' sf pc' L (v.toList ++ rest)) : Seg l Z a0 EL y bytes maxL ret rm Q h k n sf pc L S := by
  subst hp hk hn hst has
  intro p e s m args below meth c T C' w'
  obtain ⟨vm0, locs, k0, X, r1, r2, r3, r4, r5, r6, r7, r8, r9, r10⟩ := w'
  obtain ⟨v, vm1, B, -, X', hS, hg, ⟨L0, ⟨q1, q2, q3⟩, hl, hc, hs, q4⟩, st⟩ := callSS X C'.1 r5 (mvT r4 w1) (mvT r4 w2) (mvT r4 w3) (mvT r4 w4) hy (hP p e below s args vm0 r4 r6.1 r10 r8 r9) (g := mkF m pc L (argsL.reverse ++ rest)) rfl (hsz.trans C'.2.2.1.symm) (argsL := argsL) (rest := rest) hlen rfl (by show 2 * 0 + _ ≤ _; omega) (hb C'.2.1 hd) (fun _ _ => ⟨rfl, r1, hk2, hn2⟩)
  rw [r1] at hg
  exact Gl.st (fun t hr => st.trans hr) (g v B.U.heap hg q3 p e s m args below meth c B.U C' (wkBack ⟨r2, r3, r4, r5, r6, r7, r8, r9, r10⟩ X' hS hg ⟨q1, q2⟩ hl hc hs q4))
theorem Seg.callN {bytes' : ByteArray} {maxL' : Nat} {a : Addr} (hy1 : y'.name = "<init>") (w1 : (Cond.methodLink y.cls idx y').before a0 Z = true) (w2 : (Cond.instanceMethod y').before a0 Z = true) (w4 : (Cond.code y' bytes' maxL' none).before a0 Z = true) (hy : y'.cls ≠ "java/lang/invoke/MethodHandle" ∧ y'.cls ≠ "java/lang/invoke/VarHandle")
    (hP : Pays l rm Z a0 EL sf y' 3 W as' h rc rs Q') (has : (.ref a :: argsL).toArray = as') (hlen : ∀ sig, parseMethodDescriptor y'.desc = some sig → argsL.length = sig.parameters.length) (hst : S = argsL.reverse ++ .ref a :: rest) (hW : (rest.map fun v => v.category).sum ≤ W) (hsz : L.size = maxL) (hd : decode bytes pc = .ok (.invokespecial idx, 3)) (hp : pc + 3 = pc')
    (hk : k + rc = k') (hn : n + rs = n') (hk2 : k' ≤ rm.cells) (hn2 : n' ≤ rm.slots)
    (g : ∀ (v : Option Value) (h' : Heap), h.size ≤ h'.size → Q' v h' → Seg l Z a0 EL y bytes maxL ret rm Q h' k' n' sf pc' L (v.toList ++ rest)) : Seg l Z a0 EL y bytes maxL ret rm Q h k n sf pc L S := by
  subst hp hk hn hst has
  intro p e s m args below meth c T C' w'
  obtain ⟨vm0, locs, k0, X, r1, r2, r3, r4, r5, r6, r7, r8, r9, r10⟩ := w'
  obtain ⟨v, vm1, B, -, X', hS, hg, ⟨L0, ⟨q1, q2, q3⟩, hl, hc, hs, q4⟩, st⟩ := X.specialBackS C'.1 hy1 r5 (mvT r4 w1) (mvT r4 w2) (mvT r4 w4) hy (hP p e below s args vm0 r4 r6.1 r10 r8 r9) (g := mkF m pc L (argsL.reverse ++ .ref a :: rest)) rfl (hsz.trans C'.2.2.1.symm) (Steps.refl _) (a := a) (argsL := argsL) (rest := rest) hlen rfl (by show 2 * 0 + _ ≤ _; omega) (hb C'.2.1 hd) (fun _ _ => ⟨rfl, r1, hk2, hn2⟩)
  rw [r1] at hg
  exact Gl.st (fun t hr => st.trans hr) (g v B.U.heap hg q3 p e s m args below meth c B.U C' (wkBack ⟨r2, r3, r4, r5, r6, r7, r8, r9, r10⟩ X' hS hg ⟨q1, q2⟩ hl hc hs q4))
theorem Seg.callV {z : MethodName} {C : String} {a : Addr} (w1 : (Cond.methodLink y.cls idx y').before a0 Z = true) (w2 : (Cond.declares y').before a0 Z = true) (hnf : ∀ (s : State) (vm0 : Vm), Z.Warmed39 vm0 → Free.NotFace (s.setVm vm0) y') (w3 : (Cond.selects C y' z).before a0 Z = true) (w4 : (Cond.instanceMethod z).before a0 Z = true) (hy : y'.cls ≠ "java/lang/invoke/MethodHandle" ∧ y'.cls ≠ "java/lang/invoke/VarHandle") (E : Exa Z h a C)
    (hP : Pays l rm Z a0 EL sf z 3 W as' h rc rs Q') (has : (.ref a :: argsL).toArray = as') (hlen : ∀ sig, parseMethodDescriptor y'.desc = some sig → argsL.length = sig.parameters.length) (hst : S = argsL.reverse ++ .ref a :: rest) (hW : (rest.map fun v => v.category).sum ≤ W) (hsz : L.size = maxL) (hd : decode bytes pc = .ok (.invokevirtual idx, 3)) (hp : pc + 3 = pc')
    (hk : k + rc = k') (hn : n + rs = n') (hk2 : k' ≤ rm.cells) (hn2 : n' ≤ rm.slots)
    (g : ∀ (v : Option Value) (h' : Heap), h.size ≤ h'.size → Q' v h' → Seg l Z a0 EL y bytes maxL ret rm Q h' k' n' sf pc' L (v.toList ++ rest)) : Seg l Z a0 EL y bytes maxL ret rm Q h k n sf pc L S := by
  subst hp hk hn hst has
  intro p e s m args below meth c T C' w'
  obtain ⟨vm0, locs, k0, X, r1, r2, r3, r4, r5, r6, r7, r8, r9, r10⟩ := w'
  obtain ⟨cq, kq, qa, qb, qc⟩ := isOf (s := s.setVm vm0) r4 r1 E
  obtain ⟨v, vm1, B, -, X', hS, hg, ⟨L0, ⟨q1, q2, q3⟩, hl, hc, hs, q4⟩, st⟩ := X.virtualBackS C'.1 r5 (mvT r4 w1) (mvT r4 w2) (hnf s vm0 r4) (mvT r4 w3) (mvT r4 w4) hy (hP p e below s args vm0 r4 r6.1 r10 r8 r9) qa qc (g := mkF m pc L (argsL.reverse ++ .ref a :: rest)) rfl (hsz.trans C'.2.2.1.symm) (Steps.refl _) (argsL := argsL) (rest := rest) hlen rfl (by show 2 * 0 + _ ≤ _; omega) (hb C'.2.1 hd) (fun _ _ => ⟨rfl, r1, hk2, hn2⟩)
  rw [r1] at hg
  exact Gl.st (fun t hr => st.trans hr) (g v B.U.heap hg q3 p e s m args below meth c B.U C' (wkBack ⟨r2, r3, r4, r5, r6, r7, r8, r9, r10⟩ X' hS hg ⟨q1, q2⟩ hl hc hs q4))
theorem Seg.callI {z : MethodName} {C : String} {a : Addr} {count : Nat} (w1 : (Cond.methodLink y.cls idx y').before a0 Z = true) (w2 : (Cond.declares y').before a0 Z = true) (w5 : (Cond.interfaceMethod y'.cls y'.cls y'.name y'.desc).before a0 Z = true) (hw5 : ((Cond.interfaceMethod y'.cls y'.cls y'.name y'.desc).onTables && (Cond.interfaceMethod y'.cls y'.cls y'.name y'.desc).keepsFace) = true) (w3 : (Cond.selects C y' z).before a0 Z = true) (w4 : (Cond.instanceMethod z).before a0 Z = true) (w6 : (Cond.publicMethod z).before a0 Z = true) (w7 : (Cond.unhidden C y'.name y'.desc).before a0 Z = true) (w8 : (Cond.castable C y'.cls).before a0 Z = true) (hy : y'.cls ≠ "java/lang/invoke/MethodHandle" ∧ y'.cls ≠ "java/lang/invoke/VarHandle") (E : Exa Z h a C)
    (hP : Pays l rm Z a0 EL sf z 5 W as' h rc rs Q') (has : (.ref a :: argsL).toArray = as') (hlen : ∀ sig, parseMethodDescriptor y'.desc = some sig → argsL.length = sig.parameters.length) (hst : S = argsL.reverse ++ .ref a :: rest) (hW : (rest.map fun v => v.category).sum ≤ W) (hsz : L.size = maxL) (hd : decode bytes pc = .ok (.invokeinterface idx count, 5)) (hp : pc + 5 = pc')
    (hk : k + rc = k') (hn : n + rs = n') (hk2 : k' ≤ rm.cells) (hn2 : n' ≤ rm.slots)
    (g : ∀ (v : Option Value) (h' : Heap), h.size ≤ h'.size → Q' v h' → Seg l Z a0 EL y bytes maxL ret rm Q h' k' n' sf pc' L (v.toList ++ rest)) : Seg l Z a0 EL y bytes maxL ret rm Q h k n sf pc L S := by
  subst hp hk hn hst has
  intro p e s m args below meth c T C' w'
  obtain ⟨vm0, locs, k0, X, r1, r2, r3, r4, r5, r6, r7, r8, r9, r10⟩ := w'
  obtain ⟨cq, kq, qa, qb, qc⟩ := isOf (s := s.setVm vm0) r4 r1 E
  obtain ⟨v, vm1, B, -, X', hS, hg, ⟨L0, ⟨q1, q2, q3⟩, hl, hc, hs, q4⟩, st⟩ := X.interfaceBackS C'.1 r5 (mvT r4 w1) (mvT r4 w2) (mvT r4 w5 hw5) (mvT r4 w3) (mvT r4 w4) (mvT r4 w6) (mvT r4 w7) (mvT r4 w8) hy (hP p e below s args vm0 r4 r6.1 r10 r8 r9) qa qb qc (g := mkF m pc L (argsL.reverse ++ .ref a :: rest)) rfl (hsz.trans C'.2.2.1.symm) (Steps.refl _) (argsL := argsL) (rest := rest) hlen rfl (by show 2 * 0 + _ ≤ _; omega) (hb C'.2.1 hd) (fun _ _ => ⟨rfl, r1, hk2, hn2⟩)
  rw [r1] at hg
  exact Gl.st (fun t hr => st.trans hr) (g v B.U.heap hg q3 p e s m args below meth c B.U C' (wkBack ⟨r2, r3, r4, r5, r6, r7, r8, r9, r10⟩ X' hS hg ⟨q1, q2⟩ hl hc hs q4))
theorem nf_sel {C : String} (w3 : (Cond.selects C y' y').before a0 Z = true) (s : State) (vm0 : Vm) (hZ : Z.Warmed39 vm0) : Free.NotFace (s.setVm vm0) y' :=
  notFace_of_selects (args := #[]) (mvT (s := s.setVm vm0) hZ w3)
theorem nf_topS (w : (Cond.noSuperclass y'.cls).before a0 Z = true) (s : State) (vm0 : Vm) (hZ : Z.Warmed39 vm0) : Free.NotFace (s.setVm vm0) y' := nf_top (args := #[]) (mvT (s := s.setVm vm0) hZ w)
theorem nf_supS {C : String} (w : (Cond.superclass y'.cls C).before a0 Z = true) (s : State) (vm0 : Vm) (hZ : Z.Warmed39 vm0) : Free.NotFace (s.setVm vm0) y' := nf_super (args := #[]) (mvT (s := s.setVm vm0) hZ w)
end Use
end Calls
end Jvm.OwnK
namespace Jvm.OwnK
open Jvm Jvm.ClassFile Sem Op Lib Jvm.Free Jvm.Stand Jvm.LawKit Jvm.RoadKit Bundle
/-! own kit, part 4: small numbers as Int32 -/
theorem n32i {i : Nat} (h : i ≤ 100000) : (Int32.ofNat i).toInt = i := Int32.toInt_ofNat_of_lt (by omega)
theorem n32c {i : Nat} (h : i ≤ 100000) : (Int32.ofNat i).toNatClampNeg = i := by
  show (Int32.ofNat i).toInt.toNat = i
  rw [n32i h]; rfl
theorem n32lt {i n : Nat} (h : i < n) (hn : n ≤ 100000) : Int32.ofNat i < Int32.ofNat n := by
  rw [Int32.lt_iff_toInt_lt, n32i (by omega), n32i hn]; omega
theorem n32nlt {i n : Nat} (h : n ≤ i) (hn : i ≤ 100000) : ¬ Int32.ofNat i < Int32.ofNat n := by
  rw [Int32.lt_iff_toInt_lt, n32i (by omega), n32i (by omega)]; omega
theorem n32nn {i : Nat} (h : i ≤ 100000) : ¬ Int32.ofNat i < 0 := by
  rw [Int32.lt_iff_toInt_lt, n32i h]; show ¬ (i : Int) < 0; omega
theorem n32in {i n : Nat} (h : i < n) (hn : n ≤ 100000) : ¬ Int32.ofNat i < 0 ∧ Int32.ofNat i < Int32.ofNat n := ⟨n32nn (by omega), n32lt h hn⟩
theorem n32add (i j : Nat) : Int32.ofNat i + Int32.ofNat j = Int32.ofNat (i + j) := (Int32.ofNat_add i j).symm
theorem n32s (i : Nat) : Int32.ofNat i + 1 = Int32.ofNat (i + 1) := n32add i 1
theorem n32eq {i j : Nat} (hi : i ≤ 100000) (hj : j ≤ 100000) (h : Int32.ofNat i = Int32.ofNat j) : i = j := by
  have := congrArg Int32.toInt h
  rw [n32i hi, n32i hj] at this; omega
theorem getDmap {α : Type} (f : α → Value) (cs : List α) (i : Nat) (d : α) (dv : Value) (h : i < cs.length) : (cs.map f).getD i dv = f (cs.getD i d) := by
  simp [List.getD_eq_getElem?_getD, h]
theorem toInt_cases {x : Int32} {n : Nat} (h0 : 0 ≤ x.toInt) (h1 : x.toInt < n) (hn : n ≤ 1000) : ∃ i : Nat, i < n ∧ x = Int32.ofNat i := by
  refine ⟨x.toInt.toNat, by omega, Int32.toInt_inj.mp ?_⟩
  rw [Int32.toInt_ofNat_of_lt (by omega)]; omega
end Jvm.OwnK
namespace Jvm.OwnK
open Jvm Jvm.ClassFile Sem Op Lib Jvm.Free Jvm.Stand Jvm.LawKit Jvm.RoadKit Bundle
/-! own kit, part 5: arraycopy and clone -/
section Copies
variable {l : Launch} {Z : State} {a0 : Array Value} {EL : List (String × Nat)} {y : MethodName} {bytes : ByteArray} {maxL : Nat} {ret : Option FieldType} {rm : Room} {Q : Option Value → Heap → Prop} {h : Heap} {k n : Nat} {sf : List Addr} {pc pc' : Nat} {L : Array Slot} {S : List Value}
theorem Seg.cpA {idx : Nat} {a b : Addr} {kc kc' : ClassId} {ty ty' : FieldType} {z z' sp dp nn : Int32} {vs vd us vr : List Value} {dv dd : Value} (w1 : (Cond.methodLink y.cls idx Jvm.Stand.acN).before a0 Z = true) (w2 : (Cond.native Jvm.Stand.acN).before a0 Z = true) (w3 : (Cond.static Jvm.Stand.acN).before a0 Z = true) (w4 : (Cond.initialized "java/lang/System").before a0 Z = true)
    (A : Arv Z h a kc ty z vs dv) (B : Arv Z h b kc' ty' z' vd dd) (hty : (ty = ty' ∧ refKind ty = false) ∨ (refKind ty = true ∧ refKind ty' = true ∧ StoL Z h b us))
    (h1 : ¬ sp < 0) (h2 : ¬ dp < 0) (h3 : ¬ nn < 0) (h4 : sp.toNatClampNeg + nn.toNatClampNeg ≤ z.toNatClampNeg) (h5 : dp.toNatClampNeg + nn.toNatClampNeg ≤ z'.toNatClampNeg)
    (hus : us = (List.range nn.toNatClampNeg).map fun i => vs.getD (sp.toNatClampNeg + i) dv) (hl : dp.toNatClampNeg + nn.toNatClampNeg ≤ vd.length) (hvr : vd.take dp.toNatClampNeg ++ us ++ vd.drop (dp.toNatClampNeg + nn.toNatClampNeg) = vr) (hsf : b ∈ sf) (hsz : L.size = maxL) (hd : decode bytes pc = .ok (.invokestatic idx, 3)) (hp : pc + 3 = pc') (hf : 1 ≤ rm.frames) {W : Nat} (hW : (S.map fun v => v.category).sum ≤ W) (hlo : W + (nativeFrameWords "java/lang/System" "arraycopy" 5 + 11) ≤ rm.locals)
    (g : ∀ h', Keep h h' [b] → Arv Z h' b kc' ty' z' vr dd → Seg l Z a0 EL y bytes maxL ret rm Q h' k n sf pc' L S) : Seg l Z a0 EL y bytes maxL ret rm Q h k n sf pc L (.int nn :: .int dp :: .ref b :: .int sp :: .ref a :: S) := by
  subst hp hvr
  intro p e s m args below meth c T C' w'
  obtain ⟨vm0, locs, k0, X, r1, r2, r3, r4, r5, r6, r7, r8, r9, r10⟩ := w'
  obtain ⟨T', h', L', X', e', FL, K, A', st⟩ := RoadKit.cpA X C'.1 r4 r5 w1 w2 w3 w4 r1 A B hty h1 h2 h3 h4 h5 hus hl r7 (r10 b hsf).1 (g := mkF m pc L (.int nn :: .int dp :: .ref b :: .int sp :: .ref a :: S)) rfl (hsz.trans C'.2.2.1.symm) rfl (hb C'.2.1 hd) hf (W := W) (by show 2 * 0 + _ ≤ _; omega) hlo
  have A1 := CHr.keep K (r10.safes (allS hsf all0)) r6.1
  exact Gl.st st (g h' K A' p e s m args below meth c T' C' ⟨vm0, L', k0, X', e', r2, Nat.le_trans r3 K.1, r4, r5, r6.trans A1, FL, ext_kp r8 K (allS (r10 b hsf).1 all0), r9, r10.chr A1⟩)
theorem Seg.cloneH {idx : Nat} {ad : String} {a : Addr} {kc : ClassId} {ty : FieldType} {z : Int32} {vs : List Value} {dv : Value} (w1 : (Cond.methodLink y.cls idx ⟨ad, "clone", "()Ljava/lang/Object;"⟩).before a0 Z = true) (w2 : (Cond.sameMethod ad "java/lang/Object" "clone" "()Ljava/lang/Object;").before a0 Z = true) (w3 : (Cond.native ⟨"java/lang/Object", "clone", "()Ljava/lang/Object;"⟩).before a0 Z = true)
    (w4 : (Cond.instanceMethod ⟨"java/lang/Object", "clone", "()Ljava/lang/Object;"⟩).before a0 Z = true) (w5 : (Cond.selects ad ⟨ad, "clone", "()Ljava/lang/Object;"⟩ ⟨"java/lang/Object", "clone", "()Ljava/lang/Object;"⟩).before a0 Z = true) (w6 : (Cond.castable ad "java/lang/Cloneable").before a0 Z = true)
    (F : Arv Z h a kc ty z vs dv) (E : Exa Z h a ad) (hsz : L.size = maxL) (hd : decode bytes pc = .ok (.invokevirtual idx, 3)) (hp : pc + 3 = pc') (hf : 1 ≤ rm.frames) {W cap : Nat} (hW : (S.map fun v => v.category).sum ≤ W) (hlo : W + 14 ≤ rm.locals) (hcap : z.toNatClampNeg ≤ cap) {k' n' : Nat} (hk : k + 1 = k') (hn : n + cap = n') (hk2 : k' ≤ rm.cells) (hn2 : n' ≤ rm.slots)
    (g : ∀ (x : Addr) (h' : Heap), Ext h h' → h.size = x → x < h'.size → Arv Z h' x kc ty z vs dv → Exa Z h' x ad → Seg l Z a0 EL y bytes maxL ret rm Q h' k' n' (x :: sf) pc' L (.ref x :: S)) : Seg l Z a0 EL y bytes maxL ret rm Q h k n sf pc L (.ref a :: S) := by
  subst hp hk hn
  intro p e s m args below meth c T C' w'
  obtain ⟨vm0, locs, k0, X, r1, r2, r3, r4, r5, r6, r7, r8, r9, r10⟩ := w'
  obtain ⟨T', h', X', e', Ex, A, E', st⟩ := RoadKit.cloneH X C'.1 r4 r5 w1 w2 w3 w4 w5 w6 r1 F.arh E (g := mkF m pc L (.ref a :: S)) rfl (hsz.trans C'.2.2.1.symm) rfl (hb C'.2.1 hd) hf (W := W) (by show 2 * 0 + _ ≤ _; omega) hlo hcap hk2 hn2
  refine Gl.st st (g _ h' Ex rfl E'.lt A E' p e s m args below meth c T' C' ⟨vm0, locs, k0, X', e', r2, Nat.le_trans r3 Ex.1, r4, r5, r6.trans (CHr.ext Ex r6.1), r7, ext_tr r8 Ex, r9, ?_⟩)
  exact (r10.chr (CHr.ext Ex r6.1)).cons r8.1 E'.lt ((Safe.new (Nat.le_refl _)).ext Ex r6.1)
end Copies
theorem n32p (i : Nat) : Int32.ofNat (i + 1) - 1 = Int32.ofNat i := by rw [← n32s, Int32.add_sub_cancel]
theorem n32m (i : Nat) : Int32.ofNat (i + 1) + (-1) = Int32.ofNat i := by rw [← Int32.sub_eq_add_neg, n32p]
theorem n32z (x : Int32) : x - 0 = x := Int32.sub_zero x
theorem n32zp (x : Int32) : 0 + x = x := Int32.zero_add x
theorem range_take (f : Int32 → Value) (cs : List Int32) (e : Nat) (dv : Value) (he : e ≤ cs.length) (h' : e ≤ 100000) : (cs.take e).map f = (List.range (Int32.ofNat e).toNatClampNeg).map fun i => (cs.map f).getD ((0 : Int32).toNatClampNeg + i) dv := by
  rw [n32c h']
  refine List.ext_getElem? fun i => ?_
  by_cases hi : i < e
  · have : i < cs.length := by omega
    simp [hi, this, List.getElem?_take]
  · simp [hi, List.getElem?_take]
theorem take_all (xs : List Value) (vd : List Value) (e : Nat) (h : vd.length = e) (h' : e ≤ 100000) : vd.take (0 : Int32).toNatClampNeg ++ xs ++ vd.drop ((0 : Int32).toNatClampNeg + (Int32.ofNat e).toNatClampNeg) = xs := by
  rw [n32c h']
  have : (0 : Int32).toNatClampNeg = 0 := rfl
  rw [this, Nat.zero_add, ← h]; simp
end Jvm.OwnK
/- laws to paste: Road.backV, Road.codOf, Road.lenW, Road.chN (cut by pick.py; bodies as the Statement names them) -/
namespace Jvm.Pilot.@@N@@
namespace StrChars
open Jvm Sem ClassFile Op Lib Jvm.Stand Jvm.Free.XT Jvm.Free.ALB Jvm.Free.JM Jvm.Free
open Jvm.Lib.Cold (StaticIs)
/-- a char array whose places are chars -/
def Ch (a : Addr) (A : Cell) (U : State) : Prop := Arr .char a A U ∧ Typed .char A
theorem Ch.mv {a : Addr} {A : Cell} {U U' : State} (h : Ch a A U) (hal : U.vm.Alike U'.vm) (hh : U'.heap = U.heap) : Ch a A U' := ⟨h.1.mv hal hh, h.2⟩
theorem Ch.keep {a : Addr} {A : Cell} {U U' : State} (h : Ch a A U) (hal : U.vm.Alike U'.vm) (hk : U'.heap[a]? = some A) : Ch a A U' := ⟨h.1.keep hal hk, h.2⟩
/-- what place i of a char[]'s cell holds -/
def cv (A : Cell) (i : Nat) : Int32 := match A.slots[i]? with | some (.int x) => x | _ => 0
theorem Ch.get {a : Addr} {A : Cell} {U : State} (h : Ch a A U) {i : Nat} (hi : i < A.slots.size) : A.slots[i]? = some (.int (cv A i)) := by
  have e := Array.getElem?_eq_getElem hi
  have f := h.2 i _ e
  unfold cv; rw [e]
  generalize A.slots[i] = v at f
  cases v <;> simp [fits] at f ⊢
/-- the byte that i2b leaves of a char -/
def lo8 (x : Int32) : Int32 := x.toInt8.toInt32
theorem fits_lo8 (y : Int32) : fits .byte (.int (lo8 y)) = true := by
  have h1 := y.toInt8.le_toInt
  have h2 := y.toInt8.toInt_lt
  simp only [lo8, fits, Bool.and_eq_true, decide_eq_true_eq, Int32.le_iff_toInt_le, Int8.toInt_toInt32, show (-128 : Int32).toInt = -128 from by decide, show (127 : Int32).toInt = 127 from by decide]
  omega
/-- A' is A but that each place j of lo .. hi - 1 holds f j -/
def Laid (A A' : Cell) (lo hi : Nat) (f : Nat → Value) : Prop := A'.cls = A.cls ∧ A'.vm = A.vm ∧ A'.slots.size = A.slots.size ∧ ∀ i, A'.slots[i]? = if lo ≤ i ∧ i < hi then some (f i) else A.slots[i]?
theorem Laid.zero (A : Cell) (lo : Nat) (f : Nat → Value) : Laid A A lo (lo + 0) f := ⟨rfl, rfl, rfl, fun i => by rw [if_neg (by omega)]⟩
theorem Laid.step {A Ak : Cell} {lo k : Nat} {f : Nat → Value} {v : Value} (h : Laid A Ak lo k f) (hlo : lo ≤ k) (hk : k < Ak.slots.size) (hv : v = f k) : Laid A (Ak.setSlot k v) lo (k + 1) f := by
  refine ⟨h.1, h.2.1, by simpa [Cell.setSlot] using h.2.2.1, fun i => ?_⟩
  by_cases e : k = i
  · subst e; rw [Cell.slots_setSlot_self v hk, if_pos (by omega), hv]
  · rw [Cell.slots_setSlot_ne v e, h.2.2.2 i]
    by_cases q : lo ≤ i ∧ i < k
    · rw [if_pos q, if_pos (by omega)]
    · rw [if_neg q, if_neg (by omega)]
def U16 : String := "java/lang/StringUTF16"
namespace Cmp5
def yN : MethodName := ⟨"java/lang/StringUTF16", "compress", "([CI[BII)I"⟩
abbrev yB : ByteArray := jdk_52_method_21_code
theorem d0 : decode yB 0 = .ok (.iconst 0, 1) := by decide +kernel
theorem d1 : decode yB 1 = .ok (.istore 5, 2) := by decide +kernel
theorem d3 : decode yB 3 = .ok (.iload 5, 2) := by decide +kernel
theorem d5 : decode yB 5 = .ok (.iload 4, 2) := by decide +kernel
theorem d7 : decode yB 7 = .ok (.if_icmp (.ge) 37, 3) := by decide +kernel
theorem d10 : decode yB 10 = .ok (.aload_n 0, 1) := by decide +kernel
theorem d11 : decode yB 11 = .ok (.iload_n 1, 1) := by decide +kernel
theorem d12 : decode yB 12 = .ok (.caload, 1) := by decide +kernel
theorem d13 : decode yB 13 = .ok (.istore 6, 2) := by decide +kernel
theorem d15 : decode yB 15 = .ok (.iload 6, 2) := by decide +kernel
theorem d17 : decode yB 17 = .ok (.sipush 255, 3) := by decide +kernel
theorem d20 : decode yB 20 = .ok (.if_icmp (.le) 6, 3) := by decide +kernel
theorem d26 : decode yB 26 = .ok (.aload_n 2, 1) := by decide +kernel
theorem d27 : decode yB 27 = .ok (.iload_n 3, 1) := by decide +kernel
theorem d28 : decode yB 28 = .ok (.iload 6, 2) := by decide +kernel
theorem d30 : decode yB 30 = .ok (.i2b, 1) := by decide +kernel
theorem d31 : decode yB 31 = .ok (.bastore, 1) := by decide +kernel
theorem d32 : decode yB 32 = .ok (.iinc 1 1, 3) := by decide +kernel
theorem d35 : decode yB 35 = .ok (.iinc 3 1, 3) := by decide +kernel
theorem d38 : decode yB 38 = .ok (.iinc 5 1, 3) := by decide +kernel
theorem d41 : decode yB 41 = .ok (.goto (-38), 3) := by decide +kernel
theorem d44 : decode yB 44 = .ok (.iload 4, 2) := by decide +kernel
theorem d46 : decode yB 46 = .ok (.ireturn, 1) := by decide +kernel
def site : List Cond := []
def tab : Cond := tabOf yN yB 7 (some .int) site
def P (b : Addr) (A : Cell) (d : Addr) (B : Cell) (o q len : Nat) (args : Array Value) (s : State) : Prop := args = #[.ref b, .int (Int32.ofNat o), .ref d, .int (Int32.ofNat q), .int (Int32.ofNat len)] ∧ Ch b A s ∧ Arr .byte d B s ∧ b ≠ d ∧ o + len ≤ A.slots.size ∧ q + len ≤ B.slots.size ∧ ∀ i, i < len → ¬ 255 < cv A (o + i)
def E (b : Addr) (A : Cell) (d : Addr) (B : Cell) (o q len : Nat) (r : Option Value) (s u : State) : Prop := r = some (.int (Int32.ofNat len)) ∧ ∃ B', Put d B' s u ∧ Laid B B' q (q + len) (fun j => Value.int (lo8 (cv A (o + (j - q)))))
/-- no char of the range above 255: len; the places written hold each char's low byte -/
theorem law (l : Launch) (b : Addr) (A : Cell) (d : Addr) (B : Cell) (o q len : Nat) : Law l yN 5 5 0 0 yB 7 (some .int) site (P b A d B o q len) (E b A d B o q len) (copyLocs d q len) 0 0 := by
  refine Law.of_walk (plainFor_of_name (by decide +kernel)) (by decide +kernel) (by decide +kernel) (by decide) (fun _ _ h => by rw [h.1]; rfl) (fun _ U U' hal hh h => ⟨h.1, h.2.1.mv hal hh, h.2.2.1.mv hal hh, h.2.2.2⟩) (fun r U U' V V' h1 hal h2 h => ⟨h.1, h.2.elim fun B' q => ⟨B', q.1.mv h1 h2, q.2⟩⟩) ?_
  intro p e s m args below meth c s₁ X0 hexec hbytes hml hret hlk hnm hown hh0 W hP
  obtain ⟨rfl, hA, hB, hne, l1, l2, hp⟩ := hP
  have c1 : Steps p.tables e below (s₁.setTop (entryFrame m #[.ref b, .int (Int32.ofNat o), .ref d, .int (Int32.ofNat q), .int (Int32.ofNat len)] 7)) (s₁.setTop (mkF m 0 #[.val (.ref b), .val (.int (Int32.ofNat o)), .val (.ref d), .val (.int (Int32.ofNat q)), .val (.int (Int32.ofNat len)), .unset, .unset] [])) := entry rfl
  have hA0 := hA.1.mv X0.warmed.alike hh0
  have hB0 := hB.mv X0.warmed.alike hh0
  have a31 := hA.1.2.2.2
  have c2 : Steps p.tables e below (s₁.setTop (entryFrame m #[.ref b, .int (Int32.ofNat o), .ref d, .int (Int32.ofNat q), .int (Int32.ofNat len)] 7)) (s₁.setTop (mkF m 3 #[.val (.ref b), .val (.int (Int32.ofNat o)), .val (.ref d), .val (.int (Int32.ofNat q)), .val (.int (Int32.ofNat len)), .val (.int 0), .unset] [])) := c1.trans (by
    refine iconstV X0.here hexec rfl 0 (hb hbytes d0) (by decide) ?_
    refine XS.istore X0.here hexec rfl (hb hbytes d1) rfl rfl ?_
    exact Steps.refl _)
  have loop : ∀ (r i : Nat), i + r = len → ∀ (z : Slot), (z = .unset ∨ ∃ w, z = .val w ∧ w.category = 1) → ∀ (Tl : State) (Bk : Cell), Stand p l e { frames := 0, locals := 0, cells := 0, slots := 0 } s m #[.ref b, .int (Int32.ofNat o), .ref d, .int (Int32.ofNat q), .int (Int32.ofNat len)] below meth c Tl ([] ++ copyLocs d q i) 0 0 → Put d Bk s₁ Tl → Laid B Bk q (q + i) (fun j => Value.int (lo8 (cv A (o + (j - q))))) →
      Steps p.tables e below (s₁.setTop (entryFrame m #[.ref b, .int (Int32.ofNat o), .ref d, .int (Int32.ofNat q), .int (Int32.ofNat len)] 7)) (Tl.setTop (mkF m 3 #[.val (.ref b), .val (.int (Int32.ofNat (o + i))), .val (.ref d), .val (.int (Int32.ofNat (q + i))), .val (.int (Int32.ofNat len)), .val (.int (Int32.ofNat i)), z] [])) → ∃ (T' : State) (B' : Cell) (z' : Slot), Stand p l e { frames := 0, locals := 0, cells := 0, slots := 0 } s m #[.ref b, .int (Int32.ofNat o), .ref d, .int (Int32.ofNat q), .int (Int32.ofNat len)] below meth c T' ([] ++ copyLocs d q len) 0 0 ∧ Put d B' s₁ T' ∧ Laid B B' q (q + len) (fun j => Value.int (lo8 (cv A (o + (j - q))))) ∧
      Steps p.tables e below (s₁.setTop (entryFrame m #[.ref b, .int (Int32.ofNat o), .ref d, .int (Int32.ofNat q), .int (Int32.ofNat len)] 7)) (T'.setTop (mkF m 3 #[.val (.ref b), .val (.int (Int32.ofNat (o + len))), .val (.ref d), .val (.int (Int32.ofNat (q + len))), .val (.int (Int32.ofNat len)), .val (.int (Int32.ofNat len)), z'] [])) := by
    intro r
    induction r with
    | zero =>
      intro i hi z hz Tl Bk Xl pl fl cl
      have hil : i = len := by omega
      rw [hil] at Xl fl cl
      exact ⟨Tl, Bk, z, Xl, pl, fl, cl⟩
    | succ r ih =>
      intro i hi z hz Tl Bk Xl pl fl cl
      have all := X0.warmed.alike.symm.trans Xl.warmed.alike
      have hAl := hA0.keep all (pl.other hne hA0.1)
      have hBk := hB0.like all pl.1 fl.1 fl.2.1 fl.2.2.1
      have hlt : q + i < Bk.slots.size := by rw [fl.2.2.1]; omega
      have c3 : Steps p.tables e below (s₁.setTop (entryFrame m #[.ref b, .int (Int32.ofNat o), .ref d, .int (Int32.ofNat q), .int (Int32.ofNat len)] 7)) (Tl.setTop (mkF m 12 #[.val (.ref b), .val (.int (Int32.ofNat (o + i))), .val (.ref d), .val (.int (Int32.ofNat (q + i))), .val (.int (Int32.ofNat len)), .val (.int (Int32.ofNat i)), z] [.int (Int32.ofNat (o + i)), .ref b])) := cl.trans (by
        refine XS.iload Xl.here hexec rfl (hb hbytes d3) rfl ?_
        refine XS.iload Xl.here hexec rfl (hb hbytes d5) rfl ?_
        refine XS.icmpNo Xl.here hexec rfl (hb hbytes d7) rfl (ii_ge_f (lt32 (by omega) (by omega))) ?_
        refine XS.aloadN Xl.here hexec rfl (hb hbytes d10) rfl rfl ?_
        refine XS.iloadN Xl.here hexec rfl (hb hbytes d11) rfl ?_
        exact Steps.refl _)
      have c4 : Steps p.tables e below (s₁.setTop (entryFrame m #[.ref b, .int (Int32.ofNat o), .ref d, .int (Int32.ofNat q), .int (Int32.ofNat len)] 7)) (Tl.setTop (mkF m 13 #[.val (.ref b), .val (.int (Int32.ofNat (o + i))), .val (.ref d), .val (.int (Int32.ofNat (q + i))), .val (.int (Int32.ofNat len)), .val (.int (Int32.ofNat i)), z] [.int (cv A (o + i))])) := c3.trans (by
        refine Xl.aget hexec hAl rfl (hA.get (i := o + i) (by omega)) rfl rfl (hb hbytes d12) ?_
        exact Steps.refl _)
      have c5 : Steps p.tables e below (s₁.setTop (entryFrame m #[.ref b, .int (Int32.ofNat o), .ref d, .int (Int32.ofNat q), .int (Int32.ofNat len)] 7)) (Tl.setTop (mkF m 15 #[.val (.ref b), .val (.int (Int32.ofNat (o + i))), .val (.ref d), .val (.int (Int32.ofNat (q + i))), .val (.int (Int32.ofNat len)), .val (.int (Int32.ofNat i)), .val (.int (cv A (o + i)))] [])) := c4.trans (by
        refine XS.istoreS Xl.here hexec rfl (hb hbytes d13) rfl rfl hz ?_
        exact Steps.refl _)
      have c6 : Steps p.tables e below (s₁.setTop (entryFrame m #[.ref b, .int (Int32.ofNat o), .ref d, .int (Int32.ofNat q), .int (Int32.ofNat len)] 7)) (Tl.setTop (mkF m 31 #[.val (.ref b), .val (.int (Int32.ofNat (o + i))), .val (.ref d), .val (.int (Int32.ofNat (q + i))), .val (.int (Int32.ofNat len)), .val (.int (Int32.ofNat i)), .val (.int (cv A (o + i)))] [.int (lo8 (cv A (o + i))), .int (Int32.ofNat (q + i)), .ref d])) := c5.trans (by
        refine XS.iload Xl.here hexec rfl (hb hbytes d15) rfl ?_
        refine sipushV Xl.here hexec rfl 255 (hb hbytes d17) (by decide) ?_
        refine XS.icmpYes Xl.here hexec rfl (pc0 := 20) rfl (hb hbytes d20) rfl (ii_le_t (hp i (by omega))) (by decide) rfl ?_
        refine XS.aloadN Xl.here hexec rfl (hb hbytes d26) rfl rfl ?_
        refine XS.iloadN Xl.here hexec rfl (hb hbytes d27) rfl ?_
        refine XS.iload Xl.here hexec rfl (hb hbytes d28) rfl ?_
        refine i2b Xl.here hexec rfl (hb hbytes d30) rfl ?_
        exact Steps.refl _)
      obtain ⟨T7, X7, p7, st7⟩ := Xl.aput hexec hBk rfl hlt rfl (fits_lo8 (cv A (o + i))) (g := (mkF m 31 #[.val (.ref b), .val (.int (Int32.ofNat (o + i))), .val (.ref d), .val (.int (Int32.ofNat (q + i))), .val (.int (Int32.ofNat len)), .val (.int (Int32.ofNat i)), .val (.int (cv A (o + i)))] [.int (lo8 (cv A (o + i))), .int (Int32.ofNat (q + i)), .ref d])) rfl (rest := []) rfl (hb hbytes d31)
      have c8 : Steps p.tables e below (s₁.setTop (entryFrame m #[.ref b, .int (Int32.ofNat o), .ref d, .int (Int32.ofNat q), .int (Int32.ofNat len)] 7)) (T7.setTop (mkF m 32 #[.val (.ref b), .val (.int (Int32.ofNat (o + i))), .val (.ref d), .val (.int (Int32.ofNat (q + i))), .val (.int (Int32.ofNat len)), .val (.int (Int32.ofNat i)), .val (.int (cv A (o + i)))] [])) := c6.trans (st7 _ (Steps.refl _))
      have c9 : Steps p.tables e below (s₁.setTop (entryFrame m #[.ref b, .int (Int32.ofNat o), .ref d, .int (Int32.ofNat q), .int (Int32.ofNat len)] 7)) (T7.setTop (mkF m 3 #[.val (.ref b), .val (.int (Int32.ofNat (o + i) + 1)), .val (.ref d), .val (.int (Int32.ofNat (q + i) + 1)), .val (.int (Int32.ofNat len)), .val (.int (Int32.ofNat i + 1)), .val (.int (cv A (o + i)))] [])) := c8.trans (by
        refine iincV X7.here hexec rfl 1 (hb hbytes d32) (by decide) rfl rfl ?_
        refine iincV X7.here hexec rfl 1 (hb hbytes d35) (by decide) rfl rfl ?_
        refine iincV X7.here hexec rfl 1 (hb hbytes d38) (by decide) rfl rfl ?_
        refine XS.goto X7.here hexec rfl (pc0 := 41) rfl (hb hbytes d41) (by decide) rfl ?_
        exact Steps.refl _)
      have c10 : Steps p.tables e below (s₁.setTop (entryFrame m #[.ref b, .int (Int32.ofNat o), .ref d, .int (Int32.ofNat q), .int (Int32.ofNat len)] 7)) (T7.setTop (mkF m 3 #[.val (.ref b), .val (.int (Int32.ofNat (o + (i + 1)))), .val (.ref d), .val (.int (Int32.ofNat (q + (i + 1)))), .val (.int (Int32.ofNat len)), .val (.int (Int32.ofNat (i + 1))), .val (.int (cv A (o + i)))] [])) := by
        have := c9
        rw [succ32, succ32, succ32] at this
        exact this
      exact ih (i + 1) (by omega) _ (Or.inr ⟨_, rfl, rfl⟩) T7 _ (by rw [copyLocs_step, ← List.append_assoc]; exact X7) (pl.trans p7) (fl.step (by omega) hlt (by simp)) c10
  obtain ⟨T9, B9, z9, X9, p9, f9, g9⟩ := loop len 0 (by omega) .unset (Or.inl rfl) s₁ B (by simpa [copyLocs] using X0) ⟨hB0.1, fun _ _ => rfl, rfl⟩ (Laid.zero _ _ _) c2
  have c11 : Steps p.tables e below (s₁.setTop (entryFrame m #[.ref b, .int (Int32.ofNat o), .ref d, .int (Int32.ofNat q), .int (Int32.ofNat len)] 7)) (T9.setTop (mkF m 46 #[.val (.ref b), .val (.int (Int32.ofNat (o + len))), .val (.ref d), .val (.int (Int32.ofNat (q + len))), .val (.int (Int32.ofNat len)), .val (.int (Int32.ofNat len)), z9] [.int (Int32.ofNat len)])) := g9.trans (by
    refine XS.iload X9.here hexec rfl (hb hbytes d3) rfl ?_
    refine XS.iload X9.here hexec rfl (hb hbytes d5) rfl ?_
    refine XS.icmpYes X9.here hexec rfl (pc0 := 7) rfl (hb hbytes d7) rfl (ii_ge_t (nlt32 (by omega) (Nat.le_refl _))) (by decide) rfl ?_
    refine XS.iload X9.here hexec rfl (hb hbytes d44) rfl ?_
    exact Steps.refl _)
  exact ⟨T9, some (.int (Int32.ofNat len)), _, _, _, X9, by simp, rfl, rfl, (fun h => by cases h), ⟨rfl, B9, p9.from hh0, f9⟩, fun fs hl => c11.trans (X9.ireturnOut hexec hret rfl (Or.inl rfl) (hb hbytes d46) hl)⟩
end Cmp5
namespace Cmp3
def yN : MethodName := ⟨"java/lang/StringUTF16", "compress", "([CII)[B"⟩
abbrev yB : ByteArray := jdk_52_method_16_code
theorem d0 : decode yB 0 = .ok (.iload_n 2, 1) := by decide +kernel
theorem d1 : decode yB 1 = .ok (.newarray .byte, 2) := by decide +kernel
theorem d3 : decode yB 3 = .ok (.astore_n 3, 1) := by decide +kernel
theorem d4 : decode yB 4 = .ok (.aload_n 0, 1) := by decide +kernel
theorem d5 : decode yB 5 = .ok (.iload_n 1, 1) := by decide +kernel
theorem d6 : decode yB 6 = .ok (.aload_n 3, 1) := by decide +kernel
theorem d7 : decode yB 7 = .ok (.iconst 0, 1) := by decide +kernel
theorem d8 : decode yB 8 = .ok (.iload_n 2, 1) := by decide +kernel
theorem d9 : decode yB 9 = .ok (.invokestatic 115, 3) := by decide +kernel
theorem d12 : decode yB 12 = .ok (.istore 4, 2) := by decide +kernel
theorem d14 : decode yB 14 = .ok (.iload 4, 2) := by decide +kernel
theorem d16 : decode yB 16 = .ok (.iload_n 2, 1) := by decide +kernel
theorem d17 : decode yB 17 = .ok (.if_icmp (.eq) 40, 3) := by decide +kernel
theorem d57 : decode yB 57 = .ok (.aload_n 3, 1) := by decide +kernel
theorem d58 : decode yB 58 = .ok (.areturn, 1) := by decide +kernel
def site : List Cond := [.arrayClass .byte, Cmp5.tab] ++ staticW U16 115 Cmp5.yN
def tab : Cond := tabOf yN yB 6 (some (.array .byte)) site
def P (b : Addr) (A : Cell) (o len : Nat) (args : Array Value) (s : State) : Prop := args = #[.ref b, .int (Int32.ofNat o), .int (Int32.ofNat len)] ∧ Ch b A s ∧ o + len ≤ A.slots.size ∧ len ≤ 536870912 ∧ ∀ i, i < len → ¬ 255 < cv A (o + i)
def E (b : Addr) (A : Cell) (o len : Nat) (r : Option Value) (s u : State) : Prop := NewArr .byte "[B" len (fun j => .int (lo8 (cv A (o + j)))) r s u ∧ u.heap.size = s.heap.size + 1
/-- no char of the range above 255: a new byte[] of their low bytes -/
theorem law (l : Launch) (b : Addr) (A : Cell) (o len : Nat) : Law l yN 3 3 1 18 yB 6 (some (.array .byte)) site (P b A o len) (E b A o len) [] 1 len := by
  refine Law.of_walk (plainFor_of_name (by decide +kernel)) (by decide +kernel) (by decide +kernel) (by decide) (fun _ _ h => by rw [h.1]; rfl) (fun _ U U' hal hh h => ⟨h.1, h.2.1.mv hal hh, h.2.2⟩) (fun r U U' V V' h1 hal h2 h => ⟨NewArr.mv r U U' V V' h1 hal h2 h.1, by rw [h1, h2]; exact h.2⟩) ?_
  intro p e s m args below meth c s₁ X0 hexec hbytes hml hret hlk hnm hown hh0 W hP
  obtain ⟨rfl, hA, l1, l2, hp⟩ := hP
  have a31 := hA.1.2.2.2
  have c1 : Steps p.tables e below (s₁.setTop (entryFrame m #[.ref b, .int (Int32.ofNat o), .int (Int32.ofNat len)] 6)) (s₁.setTop (mkF m 0 #[.val (.ref b), .val (.int (Int32.ofNat o)), .val (.int (Int32.ofNat len)), .unset, .unset, .unset] [])) := entry rfl
  have c2 : Steps p.tables e below (s₁.setTop (entryFrame m #[.ref b, .int (Int32.ofNat o), .int (Int32.ofNat len)] 6)) (s₁.setTop (mkF m 1 #[.val (.ref b), .val (.int (Int32.ofNat o)), .val (.int (Int32.ofNat len)), .unset, .unset, .unset] [.int (Int32.ofNat len)])) := c1.trans (by
    refine XS.iloadN X0.here hexec rfl (hb hbytes d0) rfl ?_
    exact Steps.refl _)
  obtain ⟨T3, B3, X3, ba3, bs3, bv3, bh3, bf3, st3⟩ := X0.anew hexec (atype := .byte) (wk W (.arrayClass .byte)) rfl (by show len * 1 ≤ _; omega) (by omega) (g := (mkF m 1 #[.val (.ref b), .val (.int (Int32.ofNat o)), .val (.int (Int32.ofNat len)), .unset, .unset, .unset] [.int (Int32.ofNat len)])) rfl (hb hbytes d1) (rest := []) rfl (Nat.le_refl _) (by show 0 + len ≤ len; omega)
  rw [hh0] at ba3 st3
  have kp3 : XT.Kept s T3 := (XT.Kept.of_eq hh0).push bh3
  have hA3 := hA.keep X3.warmed.alike (kp3 _ _ hA.1.1)
  have hne : b ≠ s.heap.size := hA.1.ne
  have c4 : Steps p.tables e below (s₁.setTop (entryFrame m #[.ref b, .int (Int32.ofNat o), .int (Int32.ofNat len)] 6)) (T3.setTop (mkF m 3 #[.val (.ref b), .val (.int (Int32.ofNat o)), .val (.int (Int32.ofNat len)), .unset, .unset, .unset] [.ref s.heap.size])) := c2.trans (st3 _ (Steps.refl _))
  have c5 : Steps p.tables e below (s₁.setTop (entryFrame m #[.ref b, .int (Int32.ofNat o), .int (Int32.ofNat len)] 6)) (T3.setTop (mkF m 9 #[.val (.ref b), .val (.int (Int32.ofNat o)), .val (.int (Int32.ofNat len)), .val (.ref s.heap.size), .unset, .unset] [.int (Int32.ofNat len), .int 0, .ref s.heap.size, .int (Int32.ofNat o), .ref b])) := c4.trans (by
    refine XS.astoreN X3.here hexec rfl (hb hbytes d3) rfl rfl rfl ?_
    refine XS.aloadN X3.here hexec rfl (hb hbytes d4) rfl rfl ?_
    refine XS.iloadN X3.here hexec rfl (hb hbytes d5) rfl ?_
    refine XS.aloadN X3.here hexec rfl (hb hbytes d6) rfl rfl ?_
    refine iconstV X3.here hexec rfl 0 (hb hbytes d7) (by decide) ?_
    refine XS.iloadN X3.here hexec rfl (hb hbytes d8) rfl ?_
    exact Steps.refl _)
  obtain ⟨v6, T6, X6, E6, g6⟩ := X3.callS hexec (Cmp5.law l b A s.heap.size B3 o 0 len) hown (wks W (staticW U16 115 Cmp5.yN)) (wk W Cmp5.tab) (W := 0) (Nat.le_of_ble_eq_true rfl) (Nat.le_of_ble_eq_true rfl) (Nat.le_refl _) (by show 0 + len + 0 ≤ len; omega) (g := (mkF m 9 #[.val (.ref b), .val (.int (Int32.ofNat o)), .val (.int (Int32.ofNat len)), .val (.ref s.heap.size), .unset, .unset] [.int (Int32.ofNat len), .int (Int32.ofNat 0), .ref s.heap.size, .int (Int32.ofNat o), .ref b])) rfl (by rw [hml]; rfl) c5 (argsL := [.ref b, .int (Int32.ofNat o), .ref s.heap.size, .int (Int32.ofNat 0), .int (Int32.ofNat len)]) (rest := []) rfl rfl (by show 2 * 0 + 0 ≤ _; decide) (hb hbytes d9) (⟨rfl, hA3, ba3, hne, l1, by rw [bs3]; simp, hp⟩)
  obtain ⟨rfl, B6, p6, f6⟩ := E6
  have c7 : Steps p.tables e below (s₁.setTop (entryFrame m #[.ref b, .int (Int32.ofNat o), .int (Int32.ofNat len)] 6)) (T6.setTop (mkF m 12 #[.val (.ref b), .val (.int (Int32.ofNat o)), .val (.int (Int32.ofNat len)), .val (.ref s.heap.size), .unset, .unset] [.int (Int32.ofNat len)])) := g6
  have c8 : Steps p.tables e below (s₁.setTop (entryFrame m #[.ref b, .int (Int32.ofNat o), .int (Int32.ofNat len)] 6)) (T6.setTop (mkF m 58 #[.val (.ref b), .val (.int (Int32.ofNat o)), .val (.int (Int32.ofNat len)), .val (.ref s.heap.size), .val (.int (Int32.ofNat len)), .unset] [.ref s.heap.size])) := c7.trans (by
    refine XS.istore X6.here hexec rfl (hb hbytes d12) rfl rfl ?_
    refine XS.iload X6.here hexec rfl (hb hbytes d14) rfl ?_
    refine XS.iloadN X6.here hexec rfl (hb hbytes d16) rfl ?_
    refine XS.icmpYes X6.here hexec rfl (pc0 := 17) rfl (hb hbytes d17) rfl (ii_eq_t rfl) (by decide) rfl ?_
    refine XS.aloadN X6.here hexec rfl (hb hbytes d57) rfl rfl ?_
    exact Steps.refl _)
  have X8 := X6.wide (L' := []) (cells' := 1) (slots' := len) (fun x hx hlt => by
    simp only [List.nil_append, copyLocs, List.mem_map, List.mem_range] at hx
    obtain ⟨i, -, rfl⟩ := hx
    exact absurd hlt (Nat.lt_irrefl _)) (Nat.le_refl _) (by omega)
  exact ⟨T6, some (.ref s.heap.size), _, _, _, X8, rfl, rfl, rfl, (fun h => by cases h), ⟨⟨rfl, B6, ba3.like (X3.warmed.alike.symm.trans X6.warmed.alike) p6.1 f6.1 f6.2.1 f6.2.2.1, f6.2.1.trans bv3, by rw [X6.warmed.alike.findClass, f6.1]; exact bf3, by rw [f6.2.2.1, bs3]; simp, fun j hj => by rw [f6.2.2.2 j, if_pos (by omega)]; rfl, kp3.put p6 (Nat.le_refl _)⟩, by rw [p6.2.2, bh3, hh0]; simp⟩, fun fs hl => c8.trans (X8.areturnOut hexec rfl hret rfl (hb hbytes d58) hl)⟩
end Cmp3
namespace CodL
def yN : MethodName := ⟨"java/lang/StringUTF16", "coderFromArrayLen", "([BI)B"⟩
abbrev yB : ByteArray := jdk_52_method_15_code
theorem d0 : decode yB 0 = .ok (.iload_n 1, 1) := by decide +kernel
theorem d1 : decode yB 1 = .ok (.aload_n 0, 1) := by decide +kernel
theorem d2 : decode yB 2 = .ok (.arraylength, 1) := by decide +kernel
theorem d3 : decode yB 3 = .ok (.isub, 1) := by decide +kernel
theorem d4 : decode yB 4 = .ok (.bipush 31, 2) := by decide +kernel
theorem d6 : decode yB 6 = .ok (.iushr, 1) := by decide +kernel
theorem d7 : decode yB 7 = .ok (.i2b, 1) := by decide +kernel
theorem d8 : decode yB 8 = .ok (.ireturn, 1) := by decide +kernel
def site : List Cond := []
def tab : Cond := tabOf yN yB 2 (some .byte) site
def P (d : Addr) (B : Cell) (args : Array Value) (s : State) : Prop := args = #[.ref d, .int (Int32.ofNat B.slots.size)] ∧ Arr .byte d B s
def E (r : Option Value) (s u : State) : Prop := XT.PureE (some (.int 0)) r s u
/-- an array as long as the number of chars: LATIN1 -/
theorem law (l : Launch) (d : Addr) (B : Cell) : Law l yN 2 2 0 0 yB 2 (some .byte) site (P d B) E [] 0 0 := by
  refine Law.of_walk (plainFor_of_name (by decide +kernel)) (by decide +kernel) (by decide +kernel) (by decide) (fun _ _ h => by rw [h.1]; rfl) (fun _ U U' hal hh h => ⟨h.1, h.2.mv hal hh⟩) (fun r U U' V V' h1 hal h2 h => XT.PureE.mv r U U' V V' h1 hal h2 h) ?_
  intro p e s m args below meth c s₁ X0 hexec hbytes hml hret hlk hnm hown hh0 W hP
  obtain ⟨rfl, hB⟩ := hP
  have hB0 := hB.mv X0.warmed.alike hh0
  have c1 : Steps p.tables e below (s₁.setTop (entryFrame m #[.ref d, .int (Int32.ofNat B.slots.size)] 2)) (s₁.setTop (mkF m 0 #[.val (.ref d), .val (.int (Int32.ofNat B.slots.size))] [])) := entry rfl
  have c2 : Steps p.tables e below (s₁.setTop (entryFrame m #[.ref d, .int (Int32.ofNat B.slots.size)] 2)) (s₁.setTop (mkF m 2 #[.val (.ref d), .val (.int (Int32.ofNat B.slots.size))] [.ref d, .int (Int32.ofNat B.slots.size)])) := c1.trans (by
    refine XS.iloadN X0.here hexec rfl (hb hbytes d0) rfl ?_
    refine XS.aloadN X0.here hexec rfl (hb hbytes d1) rfl rfl ?_
    exact Steps.refl _)
  have c3 : Steps p.tables e below (s₁.setTop (entryFrame m #[.ref d, .int (Int32.ofNat B.slots.size)] 2)) (s₁.setTop (mkF m 8 #[.val (.ref d), .val (.int (Int32.ofNat B.slots.size))] [.int (lo8 (ushr (Int32.ofNat B.slots.size - Int32.ofNat B.slots.size) 31))])) := c2.trans (by
    refine X0.alen hexec hB0 rfl rfl (hb hbytes d2) ?_
    refine XS.isub X0.here hexec rfl (hb hbytes d3) rfl ?_
    refine bipushV X0.here hexec rfl 31 (hb hbytes d4) (by decide) ?_
    refine iushr X0.here hexec rfl (hb hbytes d6) rfl ?_
    refine i2b X0.here hexec rfl (hb hbytes d7) rfl ?_
    exact Steps.refl _)
  have e0 : lo8 (ushr (Int32.ofNat B.slots.size - Int32.ofNat B.slots.size) 31) = 0 := by rw [Int32.sub_self]; decide
  rw [e0] at c3
  exact ⟨s₁, some (.int 0), _, _, _, X0, rfl, rfl, rfl, (fun h => by cases h), ⟨rfl, hh0⟩, fun fs hl => c3.trans (X0.ireturnOut hexec hret rfl (Or.inr (Or.inr (Or.inl rfl))) (hb hbytes d8) hl)⟩
end CodL
/-- the String at a is Latin-1 over a new byte[] (the heap's one new cell): the low bytes of the len chars of A from o on; every cell but a is kept -/
def Got (a : Addr) (D : Cell) (fV fC : Field) (A : Cell) (o len : Nat) (r : Option Value) (s u : State) : Prop := r = none ∧ ∃ D' V : Cell, Blank "java/lang/String" a D' u ∧ Same D D' [fV.slot, fC.slot] ∧ D'.slots[fV.slot]? = some (.ref s.heap.size) ∧ D'.slots[fC.slot]? = some (.int 0) ∧ Arr .byte s.heap.size V u ∧ V.vm = .none ∧ u.vm.findClass "[B" = some V.cls ∧ V.slots.size = len ∧ (∀ j, j < len → V.slots[j]? = some (.int (lo8 (cv A (o + j))))) ∧ (∀ (y : Addr) (c : Cell), y ≠ a → s.heap[y]? = some c → u.heap[y]? = some c) ∧ u.heap.size = s.heap.size + 1
theorem Got.mv {a : Addr} {D A : Cell} {fV fC : Field} {o len : Nat} : ∀ r (U U' V V' : State), U'.heap = U.heap → V.vm.Alike V'.vm → V'.heap = V.heap → Got a D fV fC A o len r U V → Got a D fV fC A o len r U' V' :=
  fun r U U' V V' h1 hal h2 ⟨e0, D', X, a1, a2, a3, a4, a5, a6, a7, a8, a9, a10, a11⟩ => ⟨e0, D', X, a1.mv hal h2, a2, by rw [h1]; exact a3, a4, by rw [h1]; exact a5.mv hal h2, a6, by rw [hal.findClass]; exact a7, a8, a9, by rw [h1, h2]; exact a10, by rw [h1, h2]; exact a11⟩
namespace New4
def yN : MethodName := ⟨"java/lang/String", "<init>", "([CIILjava/lang/Void;)V"⟩
abbrev yB : ByteArray := jdk_42_method_149_code
theorem d0 : decode yB 0 = .ok (.aload_n 0, 1) := by decide +kernel
theorem d1 : decode yB 1 = .ok (.invokespecial 1, 3) := by decide +kernel
theorem d4 : decode yB 4 = .ok (.iload_n 3, 1) := by decide +kernel
theorem d5 : decode yB 5 = .ok (.ifCond (.ne) 22, 3) := by decide +kernel
theorem d27 : decode yB 27 = .ok (.getstatic 38, 3) := by decide +kernel
theorem d30 : decode yB 30 = .ok (.ifCond (.eq) 28, 3) := by decide +kernel
theorem d33 : decode yB 33 = .ok (.aload_n 1, 1) := by decide +kernel
theorem d34 : decode yB 34 = .ok (.iload_n 2, 1) := by decide +kernel
theorem d35 : decode yB 35 = .ok (.iload_n 3, 1) := by decide +kernel
theorem d36 : decode yB 36 = .ok (.invokestatic 177, 3) := by decide +kernel
theorem d39 : decode yB 39 = .ok (.astore 5, 2) := by decide +kernel
theorem d41 : decode yB 41 = .ok (.aload_n 0, 1) := by decide +kernel
theorem d42 : decode yB 42 = .ok (.aload 5, 2) := by decide +kernel
theorem d44 : decode yB 44 = .ok (.iload_n 3, 1) := by decide +kernel
theorem d45 : decode yB 45 = .ok (.invokestatic 47, 3) := by decide +kernel
theorem d48 : decode yB 48 = .ok (.putfield 15, 3) := by decide +kernel
theorem d51 : decode yB 51 = .ok (.aload_n 0, 1) := by decide +kernel
theorem d52 : decode yB 52 = .ok (.aload 5, 2) := by decide +kernel
theorem d54 : decode yB 54 = .ok (.putfield 9, 3) := by decide +kernel
theorem d57 : decode yB 57 = .ok (.return_, 1) := by decide +kernel
def site : List Cond := [.fieldLink "java/lang/String" 38 "java/lang/String" "COMPACT_STRINGS" "Z", Cmp3.tab, CodL.tab, .laysFinal "java/lang/String" "java/lang/String" "value" "[B", .fieldLink "java/lang/String" 9 "java/lang/String" "value" "[B", .laysFinal "java/lang/String" "java/lang/String" "coder" "B", .fieldLink "java/lang/String" 15 "java/lang/String" "coder" "B"] ++ objW "java/lang/String" 1 ++ staticW "java/lang/String" 177 Cmp3.yN ++ staticW "java/lang/String" 47 CodL.yN
def tab : Cond := tabOf yN yB 6 none site
def P (a : Addr) (D : Cell) (fV fC : Field) (b : Addr) (A : Cell) (z : Int32) (o len : Nat) (args : Array Value) (s : State) : Prop := args = #[.ref a, .ref b, .int (Int32.ofNat o), .int (Int32.ofNat len), .null] ∧ Blank "java/lang/String" a D s ∧ Found "java/lang/String" "value" "[B" fV s ∧ Found "java/lang/String" "coder" "B" fC s ∧ Ch b A s ∧ StaticIs s "java/lang/String" "COMPACT_STRINGS" "Z" (.int z) ∧ ¬ z = 0 ∧ 0 < len ∧ o + len ≤ A.slots.size ∧ len ≤ 536870912 ∧ ∀ i, i < len → ¬ 255 < cv A (o + i)
def E (a : Addr) (D : Cell) (fV fC : Field) (A : Cell) (o len : Nat) (r : Option Value) (s u : State) : Prop := Got a D fV fC A o len r s u
/-- len > 0, no char of the range above 255: a Latin-1 String of their low bytes -/
theorem law (l : Launch) (a : Addr) (D : Cell) (fV fC : Field) (b : Addr) (A : Cell) (z : Int32) (o len : Nat) : Law l yN 5 4 2 35 yB 6 none site (P a D fV fC b A z o len) (E a D fV fC A o len) [⟨a, fC.slot⟩, ⟨a, fV.slot⟩] 1 len := by
  refine Law.of_walk (plainFor_of_name (by decide +kernel)) (by decide +kernel) (by decide +kernel) (by decide) (fun _ _ h => by rw [h.1]; rfl) (fun _ U U' hal hh h => ⟨h.1, h.2.1.mv hal hh, h.2.2.1.al hal, h.2.2.2.1.al hal, h.2.2.2.2.1.mv hal hh, h.2.2.2.2.2.1.there hal hh, h.2.2.2.2.2.2⟩) (fun r U U' V V' h1 hal h2 h => Got.mv r U U' V V' h1 hal h2 h) ?_
  intro p e s m args below meth c s₁ X0 hexec hbytes hml hret hlk hnm hown hh0 W hP
  obtain ⟨rfl, hB, f1, f2, hA, s1, hz, l0, l1, l2, hp⟩ := hP
  have a31 := hA.1.2.2.2
  have c1 : Steps p.tables e below (s₁.setTop (entryFrame m #[.ref a, .ref b, .int (Int32.ofNat o), .int (Int32.ofNat len), .null] 6)) (s₁.setTop (mkF m 0 #[.val (.ref a), .val (.ref b), .val (.int (Int32.ofNat o)), .val (.int (Int32.ofNat len)), .val .null, .unset] [])) := entry rfl
  have c2 : Steps p.tables e below (s₁.setTop (entryFrame m #[.ref a, .ref b, .int (Int32.ofNat o), .int (Int32.ofNat len), .null] 6)) (s₁.setTop (mkF m 1 #[.val (.ref a), .val (.ref b), .val (.int (Int32.ofNat o)), .val (.int (Int32.ofNat len)), .val .null, .unset] [.ref a])) := c1.trans (by
    refine XS.aloadN X0.here hexec rfl (hb hbytes d0) rfl rfl ?_
    exact Steps.refl _)
  obtain ⟨T3, X3, q3, st3⟩ := X0.oinit hexec hown (wks W (objW "java/lang/String" 1)) (g := (mkF m 1 #[.val (.ref a), .val (.ref b), .val (.int (Int32.ofNat o)), .val (.int (Int32.ofNat len)), .val .null, .unset] [.ref a])) rfl (by rw [hml]; rfl) (rest := []) rfl (hb hbytes d1) (W := 0) (by show 2 * 0 + 0 ≤ _; decide) (Nat.le_of_ble_eq_true rfl) (Nat.le_of_ble_eq_true rfl)
  have hh3 := q3.trans hh0
  have c4 : Steps p.tables e below (s₁.setTop (entryFrame m #[.ref a, .ref b, .int (Int32.ofNat o), .int (Int32.ofNat len), .null] 6)) (T3.setTop (mkF m 27 #[.val (.ref a), .val (.ref b), .val (.int (Int32.ofNat o)), .val (.int (Int32.ofNat len)), .val .null, .unset] [])) := (c2.trans (st3 _ (Steps.refl _))).trans (by
    refine XS.iloadN X3.here hexec rfl (hb hbytes d4) rfl ?_
    refine XS.ifYes X3.here hexec rfl (pc0 := 5) rfl (hb hbytes d5) rfl (i0_ne_t (nz32 (by omega) l0)) (by decide) rfl ?_
    exact Steps.refl _)
  obtain ⟨T5, X5, q5, st5⟩ := X3.sget hexec hown (wk W (.fieldLink "java/lang/String" 38 "java/lang/String" "COMPACT_STRINGS" "Z")) s1 (fun _ _ h => by rw [hh3]; exact h) (g := (mkF m 27 #[.val (.ref a), .val (.ref b), .val (.int (Int32.ofNat o)), .val (.int (Int32.ofNat len)), .val .null, .unset] [])) rfl (hb hbytes d27)
  have hh5 := q5.trans hh3
  have c6 : Steps p.tables e below (s₁.setTop (entryFrame m #[.ref a, .ref b, .int (Int32.ofNat o), .int (Int32.ofNat len), .null] 6)) (T5.setTop (mkF m 30 #[.val (.ref a), .val (.ref b), .val (.int (Int32.ofNat o)), .val (.int (Int32.ofNat len)), .val .null, .unset] [.int z])) := c4.trans (st5 _ (Steps.refl _))
  have c7 : Steps p.tables e below (s₁.setTop (entryFrame m #[.ref a, .ref b, .int (Int32.ofNat o), .int (Int32.ofNat len), .null] 6)) (T5.setTop (mkF m 36 #[.val (.ref a), .val (.ref b), .val (.int (Int32.ofNat o)), .val (.int (Int32.ofNat len)), .val .null, .unset] [.int (Int32.ofNat len), .int (Int32.ofNat o), .ref b])) := c6.trans (by
    refine XS.ifNo X5.here hexec rfl (hb hbytes d30) rfl (i0_eq_f hz) ?_
    refine XS.aloadN X5.here hexec rfl (hb hbytes d33) rfl rfl ?_
    refine XS.iloadN X5.here hexec rfl (hb hbytes d34) rfl ?_
    refine XS.iloadN X5.here hexec rfl (hb hbytes d35) rfl ?_
    exact Steps.refl _)
  obtain ⟨v8, T8, X8, E8, g8⟩ := X5.callS hexec (Cmp3.law l b A o len) hown (wks W (staticW "java/lang/String" 177 Cmp3.yN)) (wk W Cmp3.tab) (W := 0) (Nat.le_of_ble_eq_true rfl) (Nat.le_of_ble_eq_true rfl) (Nat.le_refl _) (by show 0 + len ≤ len; omega) (g := (mkF m 36 #[.val (.ref a), .val (.ref b), .val (.int (Int32.ofNat o)), .val (.int (Int32.ofNat len)), .val .null, .unset] [.int (Int32.ofNat len), .int (Int32.ofNat o), .ref b])) rfl (by rw [hml]; rfl) c7 (argsL := [.ref b, .int (Int32.ofNat o), .int (Int32.ofNat len)]) (rest := []) rfl rfl (by show 2 * 0 + 0 ≤ _; decide) (hb hbytes d36) (⟨rfl, hA.mv X5.warmed.alike hh5, l1, l2, hp⟩)
  obtain ⟨e8, z8⟩ := E8
  obtain ⟨rfl, N, n1, n2, n3, n4, n5, n6⟩ := NewArr.mv _ T5 s _ _ hh5.symm (Vm.Alike.refl _) rfl e8
  rw [hh5] at z8
  have hB1 := hB.keep X8.warmed.alike (n6 _ _ hB.1)
  have hne : s.heap.size ≠ a := (Nat.ne_of_lt (Array.getElem?_eq_some_iff.mp hB.1).1).symm
  have c9 : Steps p.tables e below (s₁.setTop (entryFrame m #[.ref a, .ref b, .int (Int32.ofNat o), .int (Int32.ofNat len), .null] 6)) (T8.setTop (mkF m 39 #[.val (.ref a), .val (.ref b), .val (.int (Int32.ofNat o)), .val (.int (Int32.ofNat len)), .val .null, .unset] [.ref s.heap.size])) := g8
  have c10 : Steps p.tables e below (s₁.setTop (entryFrame m #[.ref a, .ref b, .int (Int32.ofNat o), .int (Int32.ofNat len), .null] 6)) (T8.setTop (mkF m 45 #[.val (.ref a), .val (.ref b), .val (.int (Int32.ofNat o)), .val (.int (Int32.ofNat len)), .val .null, .val (.ref s.heap.size)] [.int (Int32.ofNat N.slots.size), .ref s.heap.size, .ref a])) := by
    have hc : Steps p.tables e below (s₁.setTop (entryFrame m #[.ref a, .ref b, .int (Int32.ofNat o), .int (Int32.ofNat len), .null] 6)) (T8.setTop (mkF m 45 #[.val (.ref a), .val (.ref b), .val (.int (Int32.ofNat o)), .val (.int (Int32.ofNat len)), .val .null, .val (.ref s.heap.size)] [.int (Int32.ofNat len), .ref s.heap.size, .ref a])) := c9.trans (by
      refine XS.astore X8.here hexec rfl (hb hbytes d39) rfl rfl rfl ?_
      refine XS.aloadN X8.here hexec rfl (hb hbytes d41) rfl rfl ?_
      refine XS.aload X8.here hexec rfl (hb hbytes d42) rfl rfl ?_
      refine XS.iloadN X8.here hexec rfl (hb hbytes d44) rfl ?_
      exact Steps.refl _)
    rw [n4]; exact hc
  obtain ⟨v11, T11, X11, E11, g11⟩ := X8.callS hexec (CodL.law l s.heap.size N) hown (wks W (staticW "java/lang/String" 47 CodL.yN)) (wk W CodL.tab) (W := 1) (Nat.le_of_ble_eq_true rfl) (Nat.le_of_ble_eq_true rfl) (Nat.le_refl _) (by show 0 + len + 0 ≤ len; omega) (g := (mkF m 45 #[.val (.ref a), .val (.ref b), .val (.int (Int32.ofNat o)), .val (.int (Int32.ofNat len)), .val .null, .val (.ref s.heap.size)] [.int (Int32.ofNat N.slots.size), .ref s.heap.size, .ref a])) rfl (by rw [hml]; rfl) c10 (argsL := [.ref s.heap.size, .int (Int32.ofNat N.slots.size)]) (rest := [.ref a]) rfl rfl (by show 2 * 0 + (1 + 0) ≤ _; decide) (hb hbytes d45) (⟨rfl, n1⟩)
  obtain ⟨rfl, q11⟩ := E11
  have hB11 := hB1.mv (X8.warmed.alike.symm.trans X11.warmed.alike) q11
  have c12 : Steps p.tables e below (s₁.setTop (entryFrame m #[.ref a, .ref b, .int (Int32.ofNat o), .int (Int32.ofNat len), .null] 6)) (T11.setTop (mkF m 48 #[.val (.ref a), .val (.ref b), .val (.int (Int32.ofNat o)), .val (.int (Int32.ofNat len)), .val .null, .val (.ref s.heap.size)] [.int 0, .ref a])) := g11
  obtain ⟨T13, X13, p13, bl13, sl13, st13⟩ := X11.finit hexec hown (wk W (.fieldLink "java/lang/String" 15 "java/lang/String" "coder" "B")) (Or.inr ⟨_, (wk W (.laysFinal "java/lang/String" "java/lang/String" "coder" "B"))⟩) (Or.inl ⟨rfl, hnm⟩) f2 (Or.inl rfl) hB11 (t := .byte) (by decide +kernel) rfl (g := (mkF m 48 #[.val (.ref a), .val (.ref b), .val (.int (Int32.ofNat o)), .val (.int (Int32.ofNat len)), .val .null, .val (.ref s.heap.size)] [.int 0, .ref a])) rfl (rest := []) rfl (hb hbytes d48)
  have c14 : Steps p.tables e below (s₁.setTop (entryFrame m #[.ref a, .ref b, .int (Int32.ofNat o), .int (Int32.ofNat len), .null] 6)) (T13.setTop (mkF m 54 #[.val (.ref a), .val (.ref b), .val (.int (Int32.ofNat o)), .val (.int (Int32.ofNat len)), .val .null, .val (.ref s.heap.size)] [.ref s.heap.size, .ref a])) := (c12.trans (st13 _ (Steps.refl _))).trans (by
    refine XS.aloadN X13.here hexec rfl (hb hbytes d51) rfl rfl ?_
    refine XS.aload X13.here hexec rfl (hb hbytes d52) rfl rfl ?_
    exact Steps.refl _)
  obtain ⟨T15, X15, p15, bl15, sl15, st15⟩ := X13.finit hexec hown (wk W (.fieldLink "java/lang/String" 9 "java/lang/String" "value" "[B")) (Or.inr ⟨_, (wk W (.laysFinal "java/lang/String" "java/lang/String" "value" "[B"))⟩) (Or.inl ⟨rfl, hnm⟩) f1 (Or.inl rfl) bl13 (t := (.array .byte)) (by decide +kernel) rfl (g := (mkF m 54 #[.val (.ref a), .val (.ref b), .val (.int (Int32.ofNat o)), .val (.int (Int32.ofNat len)), .val .null, .val (.ref s.heap.size)] [.ref s.heap.size, .ref a])) rfl (rest := []) rfl (hb hbytes d54)
  have c16 : Steps p.tables e below (s₁.setTop (entryFrame m #[.ref a, .ref b, .int (Int32.ofNat o), .int (Int32.ofNat len), .null] 6)) (T15.setTop (mkF m 57 #[.val (.ref a), .val (.ref b), .val (.int (Int32.ofNat o)), .val (.int (Int32.ofNat len)), .val .null, .val (.ref s.heap.size)] [])) := c14.trans (st15 _ (Steps.refl _))
  have ap := apart (Or.inr ⟨_, (wk W (.laysFinal "java/lang/String" "java/lang/String" "value" "[B"))⟩) (Or.inr ⟨_, (wk W (.laysFinal "java/lang/String" "java/lang/String" "coder" "B"))⟩) f1 f2 (t₁ := .array .byte) (t₂ := .byte) (by decide +kernel) (by decide +kernel) (by decide)
  have al := X8.warmed.alike.symm.trans X15.warmed.alike
  have n7 : T11.heap[s.heap.size]? = some N := by rw [q11]; exact n1.1
  exact ⟨T15, none, _, _, _, X15, by simp, rfl, by omega, (fun _ => rfl), ⟨rfl, _, N, bl15, ((Same.refl D _).set _ (by simp)).set _ (by simp), sl15, (Cell.slots_setSlot_ne _ ap).trans sl13, n1.keep al (p15.other hne (p13.other hne n7)), n2, by rw [al.findClass]; exact n3, n4, n5, fun y c h1 h2 => p15.other h1 (p13.other h1 (by rw [q11]; exact n6 y c h2)), by rw [p15.2.2, p13.2.2, q11]; exact z8⟩, fun fs hl => c16.trans (X15.returnOut hexec hret (hb hbytes d57) hl)⟩
end New4
namespace New1
def yN : MethodName := ⟨"java/lang/String", "<init>", "([C)V"⟩
abbrev yB : ByteArray := jdk_42_method_3_code
theorem d0 : decode yB 0 = .ok (.aload_n 0, 1) := by decide +kernel
theorem d1 : decode yB 1 = .ok (.aload_n 1, 1) := by decide +kernel
theorem d2 : decode yB 2 = .ok (.iconst 0, 1) := by decide +kernel
theorem d3 : decode yB 3 = .ok (.aload_n 1, 1) := by decide +kernel
theorem d4 : decode yB 4 = .ok (.arraylength, 1) := by decide +kernel
theorem d5 : decode yB 5 = .ok (.aconst_null, 1) := by decide +kernel
theorem d6 : decode yB 6 = .ok (.invokespecial 27, 3) := by decide +kernel
theorem d9 : decode yB 9 = .ok (.return_, 1) := by decide +kernel
def site : List Cond := [New4.tab] ++ initW "java/lang/String" 27 New4.yN
def tab : Cond := tabOf yN yB 2 none site
def P (a : Addr) (D : Cell) (fV fC : Field) (b : Addr) (A : Cell) (z : Int32) (args : Array Value) (s : State) : Prop := args = #[.ref a, .ref b] ∧ Blank "java/lang/String" a D s ∧ Found "java/lang/String" "value" "[B" fV s ∧ Found "java/lang/String" "coder" "B" fC s ∧ Ch b A s ∧ StaticIs s "java/lang/String" "COMPACT_STRINGS" "Z" (.int z) ∧ ¬ z = 0 ∧ 0 < A.slots.size ∧ A.slots.size ≤ 536870912 ∧ ∀ i, i < A.slots.size → ¬ 255 < cv A i
def E (a : Addr) (D : Cell) (fV fC : Field) (A : Cell) (r : Option Value) (s u : State) : Prop := Got a D fV fC A 0 A.slots.size r s u
/-- new String(chars), not empty, no char above 255: a Latin-1 String of their low bytes -/
theorem law (l : Launch) (a : Addr) (D : Cell) (fV fC : Field) (b : Addr) (A : Cell) (z : Int32) : Law l yN 2 1 3 52 yB 2 none site (P a D fV fC b A z) (E a D fV fC A) [⟨a, fC.slot⟩, ⟨a, fV.slot⟩] 1 A.slots.size := by
  refine Law.of_walk (plainFor_of_name (by decide +kernel)) (by decide +kernel) (by decide +kernel) (by decide) (fun _ _ h => by rw [h.1]; rfl) (fun _ U U' hal hh h => ⟨h.1, h.2.1.mv hal hh, h.2.2.1.al hal, h.2.2.2.1.al hal, h.2.2.2.2.1.mv hal hh, h.2.2.2.2.2.1.there hal hh, h.2.2.2.2.2.2⟩) (fun r U U' V V' h1 hal h2 h => Got.mv r U U' V V' h1 hal h2 h) ?_
  intro p e s m args below meth c s₁ X0 hexec hbytes hml hret hlk hnm hown hh0 W hP
  obtain ⟨rfl, hB, f1, f2, hA, s1, hz, l0, l2, hp⟩ := hP
  have c1 : Steps p.tables e below (s₁.setTop (entryFrame m #[.ref a, .ref b] 2)) (s₁.setTop (mkF m 0 #[.val (.ref a), .val (.ref b)] [])) := entry rfl
  have c2 : Steps p.tables e below (s₁.setTop (entryFrame m #[.ref a, .ref b] 2)) (s₁.setTop (mkF m 6 #[.val (.ref a), .val (.ref b)] [.null, .int (Int32.ofNat A.slots.size), .int 0, .ref b, .ref a])) := c1.trans (by
    refine XS.aloadN X0.here hexec rfl (hb hbytes d0) rfl rfl ?_
    refine XS.aloadN X0.here hexec rfl (hb hbytes d1) rfl rfl ?_
    refine iconstV X0.here hexec rfl 0 (hb hbytes d2) (by decide) ?_
    refine XS.aloadN X0.here hexec rfl (hb hbytes d3) rfl rfl ?_
    refine X0.alen hexec (hA.1.mv X0.warmed.alike hh0) rfl rfl (hb hbytes d4) ?_
    refine XS.aconstNull X0.here hexec rfl (hb hbytes d5) ?_
    exact Steps.refl _)
  obtain ⟨v3, T3, X3, E3, g3⟩ := X0.callN hexec (New4.law l a D fV fC b A z 0 A.slots.size) rfl hown (wks W (initW "java/lang/String" 27 New4.yN)) (W New4.tab (by simp only [site, List.mem_cons, List.mem_append, true_or, or_true])) (W := 0) (Nat.le_of_ble_eq_true rfl) (Nat.le_of_ble_eq_true rfl) (Nat.le_refl _) (by show 0 + A.slots.size ≤ A.slots.size; omega) (g := (mkF m 6 #[.val (.ref a), .val (.ref b)] [.null, .int (Int32.ofNat A.slots.size), .int (Int32.ofNat 0), .ref b, .ref a])) rfl (by rw [hml]; rfl) c2 (argsL := [.ref b, .int (Int32.ofNat 0), .int (Int32.ofNat A.slots.size), .null]) (rest := []) rfl rfl (by show 2 * 0 + 0 ≤ _; decide) (hb hbytes d6) (⟨rfl, hB.mv X0.warmed.alike hh0, f1.al X0.warmed.alike, f2.al X0.warmed.alike, hA.mv X0.warmed.alike hh0, s1.there X0.warmed.alike hh0, hz, l0, by omega, l2, fun i hi => by rw [Nat.zero_add]; exact hp i hi⟩)
  have e0 := Got.mv _ s₁ s _ _ hh0.symm (Vm.Alike.refl _) rfl E3
  obtain rfl := e0.1
  have c4 : Steps p.tables e below (s₁.setTop (entryFrame m #[.ref a, .ref b] 2)) (T3.setTop (mkF m 9 #[.val (.ref a), .val (.ref b)] [])) := g3
  exact ⟨T3, none, _, _, _, X3, by simp, rfl, by omega, (fun _ => rfl), e0, fun fs hl => c4.trans (X3.returnOut hexec hret (hb hbytes d9) hl)⟩
theorem pays {l : Launch} {R : Room} {p : Program} {e : Env} {below : List Frame} {s : State} {sargs : Array Value} {len W : Nat} (a : Addr) (D : Cell) (fV fC : Field) (b : Addr) (A : Cell) (z : Int32) (htab : tab.before sargs s = true) (hfr : 4 ≤ R.frames) (hlo : W + 65 ≤ R.locals) :
    Back l R p e below s sargs yN len W (fun A₁ a₁ => A₁.cells + 1 ≤ R.cells ∧ A₁.slots + A.slots.size ≤ R.slots ∧ P a D fV fC b A z a₁ A₁.U) (fun A₁ _ v₁ B₁ => E a D fV fC A v₁ A₁.U B₁.U ∧ B₁.locs = A₁.locs ++ [⟨a, fC.slot⟩, ⟨a, fV.slot⟩] ∧ B₁.cells = A₁.cells + 1 ∧ B₁.slots = A₁.slots + A.slots.size) :=
  (law l a D fV fC b A z).pays htab hfr (by omega)
end New1
/-- the byte, read back as charAt reads it, is the char -/
theorem lo8_mask {x : Int32} (h0 : ¬ x < 0) (h1 : ¬ 255 < x) : lo8 x &&& 255 = x := by
  have t : ∀ k : Fin 256, lo8 (Int32.ofNat k.val) &&& 255 = Int32.ofNat k.val := by decide +kernel
  rw [Int32.lt_iff_toInt_lt] at h0 h1
  have e0 : (0 : Int32).toInt = 0 := rfl
  have e1 : (255 : Int32).toInt = 255 := rfl
  obtain ⟨k, hk⟩ : ∃ k : Nat, x.toInt = k := ⟨x.toInt.toNat, by omega⟩
  have hx : x = Int32.ofNat k := Int32.toInt_inj.mp (by rw [hk, Int32.toInt_ofNat_small (by omega)])
  rw [hx]
  exact t ⟨k, by omega⟩
end StrChars
namespace StrChars.Road
open Jvm Sem ClassFile Op Lib Jvm.Stand Jvm.Free Jvm.Free.XT
open Jvm.Lib.Cold (StaticIs)
abbrev ST : String := "java/lang/String"
/-- every table word that New1's law asks, flat -/
abbrev words : List Jvm.Cond := [.code New1.yN New1.yB 2 none, .initialized ST, .methodLink ST 27 New4.yN, .instanceMethod New4.yN,
  .code New4.yN New4.yB 6 none, .fieldLink ST 38 ST "COMPACT_STRINGS" "Z", .laysFinal ST ST "value" "[B", .fieldLink ST 9 ST "value" "[B", .laysFinal ST ST "coder" "B", .fieldLink ST 15 ST "coder" "B",
  .methodLink ST 1 Lib.objectInit, .instanceMethod Lib.objectInit, .code Lib.objectInit ⟨#[0xb1]⟩ 1 none, .methodLink ST 177 Cmp3.yN, .static Cmp3.yN, .methodLink ST 47 CodL.yN, .static CodL.yN,
  .code Cmp3.yN Cmp3.yB 6 (some (.array .byte)), .initialized U16, .arrayClass .byte, .methodLink U16 115 Cmp5.yN, .static Cmp5.yN, .code Cmp5.yN Cmp5.yB 7 (some .int), .code CodL.yN CodL.yB 2 (some .byte)]
theorem tab_of {a : Array Value} {s : State} (h : ∀ w ∈ words, w.before a s = true) : New1.tab.before a s = true := by
  have h5 : Cmp5.tab.before a s = true := unparts (wk h (.code Cmp5.yN Cmp5.yB 7 (some .int))) (wks h (.initialized Cmp5.yN.cls :: Cmp5.site))
  have hc : CodL.tab.before a s = true := unparts (wk h (.code CodL.yN CodL.yB 2 (some .byte))) (wks h (.initialized CodL.yN.cls :: CodL.site))
  have q5 : ∀ w ∈ Cmp5.tab :: words, w.before a s = true := fun w hw => (List.mem_cons.mp hw).elim (fun e => e ▸ h5) (h w)
  have h3 : Cmp3.tab.before a s = true := unparts (wk q5 (.code Cmp3.yN Cmp3.yB 6 (some (.array .byte)))) (wks q5 (.initialized Cmp3.yN.cls :: Cmp3.site))
  have q3 : ∀ w ∈ Cmp3.tab :: CodL.tab :: words, w.before a s = true := fun w hw => (List.mem_cons.mp hw).elim (fun e => e ▸ h3) fun hw => (List.mem_cons.mp hw).elim (fun e => e ▸ hc) (h w)
  have h4 : New4.tab.before a s = true := unparts (wk q3 (.code New4.yN New4.yB 6 none)) (wks q3 (.initialized New4.yN.cls :: New4.site))
  have q4 : ∀ w ∈ New4.tab :: words, w.before a s = true := fun w hw => (List.mem_cons.mp hw).elim (fun e => e ▸ h4) (h w)
  exact unparts (wk q4 (.code New1.yN New1.yB 2 none)) (wks q4 (.initialized New1.yN.cls :: New1.site))
/-- the words ride from the start Z to the walk's own state -/
theorem moved {Z s : State} {a0 args : Array Value} (hZ : Z.Warmed39 s.vm) (hw : ∀ d ∈ words, d.before a0 Z = true) : ∀ d ∈ words, d.before args s = true := fun d hd => by
  have q := hw d hd
  have t : ∀ d ∈ words, d = .arrayClass .byte ∨ (d.onTables && d.keepsFace) = true := by decide +kernel
  rcases t d hd with rfl | t
  · exact RoadKit.mvA hZ q
  · exact RoadKit.mv hZ q t
/-- WHAT COMES BACK, over the tables of the start Z: h the heap at the call, h' behind it -/
def Q (Z : State) (x : Addr) (A : Cell) (h : Heap) (v : Option Value) (h' : Heap) (L : List Loc) : Prop := v = none ∧ (∀ y ∈ L, y.base = x) ∧ RoadKit.Keep h h' [x] ∧ h'.size = h.size + 1 ∧ RoadKit.Exa Z h' x ST ∧ RoadKit.Fld Z h' x ST "value" "[B" (.ref h.size) ∧ RoadKit.Fld Z h' x ST "coder" "B" (.int 0) ∧
  (∃ V : Cell, RoadKit.Arr Z h' h.size V .byte ∧ V.vm = .none ∧ Z.vm.findClass "[B" = some V.cls ∧ V.slots.size = A.slots.size ∧ ∀ j, j < A.slots.size → V.slots[j]? = some (.int (lo8 (cv A j)))) ∧
  ∀ (O n d : String) (w : Value), RoadKit.Fld Z h x O n d w → RoadKit.slotOf Z O n d ≠ RoadKit.slotOf Z ST "value" "[B" → RoadKit.slotOf Z O n d ≠ RoadKit.slotOf Z ST "coder" "B" → RoadKit.Fld Z h' x O n d w
/-- **new String(chars) AT A CALL, IN THE ROAD'S FORM**: for specialBack behind newO: x the fresh String, b the char[] with the cell A -/
theorem back {p : Program} {l : Launch} {e : Env} {R : Room} {s : State} {args : Array Value} {below : List Frame} {len W : Nat} {Z : State} {a0 : Array Value} {h : Heap} (hZ : Z.Warmed39 s.vm) (hw : ∀ d ∈ words, d.before a0 Z = true) {kI : Nat} (wi : (Jvm.Cond.instantiable ST kI).before a0 Z = true)
    {x b : Addr} {A : Cell} {z : Int32} {v0 c0 : Value} (E : RoadKit.Exa Z h x ST) (V : RoadKit.Fld Z h x ST "value" "[B" v0) (C : RoadKit.Fld Z h x ST "coder" "B" c0) (K : RoadKit.Arr Z h b A .char) (hty : Typed .char A) (S : RoadKit.Sta Z h ST "COMPACT_STRINGS" "Z" (.int z)) (hz : ¬ z = 0)
    (l0 : 0 < A.slots.size) (l2 : A.slots.size ≤ 536870912) (hp : ∀ i, i < A.slots.size → ¬ 255 < cv A i) (hfr : 4 ≤ R.frames) (hlo : W + 65 ≤ R.locals) :
    Back l R p e below s args New1.yN len W (fun P a => a = #[.ref x, .ref b] ∧ P.U.heap = h ∧ P.cells + 1 ≤ R.cells ∧ P.slots + A.slots.size ≤ R.slots)
      (fun P _ v B => ∃ L, Q Z x A h v B.U.heap L ∧ B.locs = P.locs ++ L ∧ B.cells = P.cells + 1 ∧ B.slots = P.slots + A.slots.size) := by
  intro m meth c P g ig mk a X hg hsize hdg hW hn hp'
  obtain ⟨rfl, rfl, r1, r2⟩ := hp'
  have al : Z.vm.Alike P.U.vm := hZ.alike.trans X.warmed.alike
  obtain ⟨D, cfV, kV, iV, fV, hD, gV, stV, knV, obV, asV, slV⟩ := id V
  obtain ⟨D', cfC, kC, iC, fC, hD', gC, stC, -, -, asC, slC⟩ := id C
  cases hD.symm.trans hD'
  obtain ⟨D2, kD, e1, e2, e3, e4, e5⟩ := id E
  cases hD.symm.trans e1
  obtain ⟨c2, k2, i1, i2, i3, -⟩ := Cond.instantiable_spec wi
  cases e2.symm.trans i1
  cases e3.symm.trans i2
  obtain ⟨kU, u1, u2⟩ := al.2.2 _ _ e3
  have hB : Blank ST x D P.U := ⟨hD, ⟨knV, fun q hq => by rw [hq] at obV; cases obV⟩, by rw [al.findClass]; exact e2, kU, u1, by rw [u2]; exact i3, by rw [u2]; exact e5 i3⟩
  have F1 : Found ST "value" "[B" fV P.U := ⟨SBG.found_only al ⟨cfV, kV, iV, gV⟩, stV⟩
  have F2 : Found ST "coder" "B" fC P.U := ⟨SBG.found_only al ⟨cfC, kC, iC, gC⟩, stC⟩
  have hA : Ch b A P.U := ⟨⟨K.1, State.isArrayOf_alike al K.2.1, K.2.2, by omega⟩, hty⟩
  have hS : StaticIs P.U ST "COMPACT_STRINGS" "Z" (.int z) := by
    obtain ⟨cfS, iS, kS, fS, st, cS, t1, t2, t3, t4, t5, t6, t7⟩ := S
    exact StaticIs.there (s := { Z with heap := P.U.heap }) ⟨cfS, iS, kS, fS, st, cS, t1, t2, t3, t4, t5, (fun q => by rw [q] at t6; cases t6), t7⟩ al rfl
  obtain ⟨v, B, X', ⟨⟨hv, E', V', q1, q2, q3, q4, q5, q6, q7, q8, q9, q10, q11⟩, hl, hc, hs⟩, st⟩ := New1.pays x D fV fC b A z (tab_of (moved hZ hw)) hfr hlo m meth c P g ig mk _ X hg hsize hdg hW hn ⟨r1, r2, rfl, hB, F1, F2, hA, hS, hz, l0, l2, hp⟩
  have al' : Z.vm.Alike B.U.vm := hZ.alike.trans X'.warmed.alike
  have hsz : E'.slots.size = D.slots.size := by
    obtain ⟨-, -, -, kB, w1, w2, w3⟩ := q1
    obtain ⟨kB', y1, y2⟩ := al'.2.2 _ _ e3
    rw [q2.2.1] at w1
    cases w1.symm.trans y1
    rw [w3, e5 i3, y2]
  refine ⟨v, B, X', ⟨_, ⟨hv, ?_, ⟨by omega, fun y cy hy hn' => q10 y cy (by simpa using hn') hy, fun y cy hy => ?_⟩, q11, ⟨E', _, q1.1, by rw [q2.2.1]; exact e2, by rw [q2.2.1]; exact e3, by rw [q2.1]; exact obV, fun _ => by rw [hsz]; exact e5 i3⟩,
    ⟨E', cfV, kV, iV, fV, q1.1, gV, stV, by rw [q2.1]; exact knV, by rw [q2.1]; exact obV, by rw [q2.2.1]; exact asV, q3⟩, ⟨E', cfC, kC, iC, fC, q1.1, gC, stC, by rw [q2.1]; exact knV, by rw [q2.1]; exact obV, by rw [q2.2.1]; exact asC, q4⟩,
    ⟨V', ⟨q5.1, State.isArrayOf_alike al'.symm q5.2.1, q5.2.2.1⟩, q6, by rw [← al'.findClass]; exact q7, q8, fun j hj => by have := q9 j hj; rwa [Nat.zero_add] at this⟩, fun O n d w F n1 n2 => ?_⟩, hl, hc, hs⟩, st⟩
  · intro y hy
    simp only [List.mem_cons, List.not_mem_nil, or_false] at hy
    rcases hy with rfl | rfl <;> rfl
  · by_cases q : y = x
    · subst q
      cases hD.symm.trans hy
      exact ⟨E', q1.1, q2.2.1, q2.1, hsz⟩
    · exact ⟨cy, q10 y cy q hy, rfl, rfl, rfl⟩
  · obtain ⟨D3, cf, k, i, f, g1, g2, g3, g4, g5, g6, g7⟩ := F
    cases hD.symm.trans g1
    simp only [RoadKit.slotOf, g2, gV, gC, Option.map_some, Option.getD_some] at n1 n2
    exact ⟨E', cf, k, i, f, q1.1, g2, g3, by rw [q2.1]; exact g4, by rw [q2.1]; exact g5, by rw [q2.2.1]; exact g6, by rw [q2.2.2 f.slot (by simp [n1, n2])]; exact g7⟩
end StrChars.Road
namespace StrChars.Road
open Jvm Sem ClassFile Op Lib Jvm.Stand Jvm.Free Jvm.Free.XT
/-- WHAT COMES BACK, the byte[] as a list of values -/
def QA (Z : State) (x : Addr) (zn : Int32) (cs : List Int32) (h : Heap) (v : Option Value) (h' : Heap) (L : List Loc) : Prop := v = none ∧ (∀ y ∈ L, y.base = x) ∧ RoadKit.Keep h h' [x] ∧ h'.size = h.size + 1 ∧ RoadKit.Exa Z h' x ST ∧ RoadKit.Fld Z h' x ST "value" "[B" (.ref h.size) ∧ RoadKit.Fld Z h' x ST "coder" "B" (.int 0) ∧
  (∃ kb, Z.vm.findClass "[B" = some kb ∧ RoadKit.Arv Z h' h.size kb .byte zn (cs.map fun c => .int (lo8 c)) (.int 0)) ∧
  ∀ (O n d : String) (w : Value), RoadKit.Fld Z h x O n d w → RoadKit.slotOf Z O n d ≠ RoadKit.slotOf Z ST "value" "[B" → RoadKit.slotOf Z O n d ≠ RoadKit.slotOf Z ST "coder" "B" → RoadKit.Fld Z h' x O n d w
/-- **new String(chars) AT A CALL, THE ARRAYS AS LISTS**: the char[] at b holds cs, not empty, no char above 255 -/
theorem backArv {p : Program} {l : Launch} {e : Env} {R : Room} {s : State} {args : Array Value} {below : List Frame} {len W : Nat} {Z : State} {a0 : Array Value} {h : Heap} (hZ : Z.Warmed39 s.vm) (hw : ∀ d ∈ words, d.before a0 Z = true) {kI : Nat} (wi : (Jvm.Cond.instantiable ST kI).before a0 Z = true)
    {x b : Addr} {k : ClassId} {zn z : Int32} {cs : List Int32} {dv v0 c0 : Value} (E : RoadKit.Exa Z h x ST) (V : RoadKit.Fld Z h x ST "value" "[B" v0) (C : RoadKit.Fld Z h x ST "coder" "B" c0) (K : RoadKit.Arv Z h b k .char zn (cs.map Value.int) dv) (S : RoadKit.Sta Z h ST "COMPACT_STRINGS" "Z" (.int z)) (hz : ¬ z = 0)
    (hlen : zn.toNatClampNeg = cs.length) (h0 : 0 < cs.length) (hbig : cs.length ≤ 536870912) (hall : ∀ c ∈ cs, ¬ 255 < c) (hfr : 4 ≤ R.frames) (hlo : W + 65 ≤ R.locals) :
    Back l R p e below s args New1.yN len W (fun P a => a = #[.ref x, .ref b] ∧ P.U.heap = h ∧ P.cells + 1 ≤ R.cells ∧ P.slots + cs.length ≤ R.slots)
      (fun P _ v B => ∃ L, QA Z x zn cs h v B.U.heap L ∧ B.locs = P.locs ++ L ∧ B.cells = P.cells + 1 ∧ B.slots = P.slots + cs.length) := by
  obtain ⟨A, K1, K2, K3, K4, K5, K6⟩ := K
  have e : A.slots.size = cs.length := K3.trans hlen
  have hat : ∀ (i : Nat) (hi : i < cs.length), A.slots[i]? = some (.int cs[i]) := fun i hi => by rw [K5 i (by omega)]; simp [List.getD_eq_getElem?_getD, hi]
  have hcv : ∀ (i : Nat) (hi : i < cs.length), cv A i = cs[i] := fun i hi => by unfold cv; rw [hat i hi]
  have hty : Typed .char A := fun i v hv => by
    have hi : i < A.slots.size := (Array.getElem?_eq_some_iff.mp hv).1
    have q := K5 i hi
    rw [hv] at q
    rw [Option.some.inj q]
    exact K6 i hi
  refine Back.mono (back hZ hw wi E V C K1 hty S hz (by omega) (by omega) (fun i hi => by rw [hcv i (by omega)]; exact hall _ (List.getElem_mem _)) hfr hlo) (fun P a hp => ⟨hp.1, hp.2.1, hp.2.2.1, by rw [e]; exact hp.2.2.2⟩) (fun P a v B hp hq => ?_)
  obtain ⟨L, ⟨q1, q2, q3, q4, q5, q6, q7, ⟨V', v1, v2, v3, v4, v5⟩, q9⟩, hl, hc, hs⟩ := hq
  refine ⟨L, ⟨q1, q2, q3, q4, q5, q6, q7, ⟨V'.cls, v3, V', v1, rfl, by rw [v4, e, hlen], K4, fun i hi => ?_, fun i hi => ?_⟩, q9⟩, hl, hc, by rw [hs, e]⟩
  · have hi' : i < cs.length := by omega
    rw [v5 i (by omega), hcv i hi']; simp [List.getD_eq_getElem?_getD, hi']
  · have hi' : i < cs.length := by omega
    simp only [List.getD_eq_getElem?_getD, List.getElem?_map, List.getElem?_eq_getElem hi', Option.map_some, Option.getD_some]
    exact fits_lo8 _
end StrChars.Road
namespace StrChars.Road
open Jvm Sem ClassFile Op Lib Jvm.Stand Jvm.Free Jvm.Free.XT
/-- WHAT COMES BACK, in the writer's own shape -/
def QV (Z : State) (x : Addr) (N : Int32) (bs : List Int32) (h : Heap) (n0 : Nat) (v : Option Value) (h' : Heap) (L : List Loc) : Prop := v = none ∧ RoadKit.Fr n0 L ∧ RoadKit.Keep h h' [x] ∧ RoadKit.Exa Z h' x ST ∧ RoadKit.Fld Z h' x ST "coder" "B" (.int 0) ∧
  ∃ (t : Addr) (kb : ClassId), n0 ≤ t ∧ h.size ≤ t ∧ ¬ t = x ∧ RoadKit.Fld Z h' x ST "value" "[B" (.ref t) ∧ RoadKit.Arv Z h' t kb .byte N (bs.map Value.int) (.int 0)
/-- **new String(chars) AT A CALL, FOR THE WRITER**: a char[] of n known ints, each 0 to 255 -/
theorem backV {p : Program} {l : Launch} {e : Env} {R : Room} {s : State} {args : Array Value} {below : List Frame} {len W : Nat} {Z : State} {a0 : Array Value} {h : Heap} (hZ : Z.Warmed39 s.vm) (hw : ∀ d ∈ words, d.before a0 Z = true) {kI : Nat} (wi : (Jvm.Cond.instantiable ST kI).before a0 Z = true)
    {x b : Addr} {kC : ClassId} {cs bs : List Int32} {d v0 c0 : Value} {z N : Int32} {n n0 : Nat} (hx0 : n0 ≤ x) (hh0 : n0 ≤ h.size) (E : RoadKit.Exa Z h x ST) (V : RoadKit.Fld Z h x ST "value" "[B" v0) (C : RoadKit.Fld Z h x ST "coder" "B" c0) (K : RoadKit.Arv Z h b kC .char N (cs.map Value.int) d) (S : RoadKit.Sta Z h ST "COMPACT_STRINGS" "Z" (.int z)) (hz : ¬ z = 0)
    (hn : cs.length = n) (hN : N = Int32.ofNat n) (l0 : 0 < n) (l2 : n ≤ 4000) (hp : ∀ c ∈ cs, ¬ c < 0 ∧ ¬ (255 : Int32) < c) (hb : bs = cs.map (fun c => c.toInt8.toInt32)) (hfr : 4 ≤ R.frames) (hlo : W + 65 ≤ R.locals) :
    Back l R p e below s args (⟨"java/lang/String", "<init>", "([C)V"⟩ : MethodName) len W (fun P a => a = #[.ref x, .ref b] ∧ P.U.heap = h ∧ P.cells + 1 ≤ R.cells ∧ P.slots + n ≤ R.slots)
      (fun P _ v B => ∃ L, QV Z x N bs h n0 v B.U.heap L ∧ B.locs = P.locs ++ L ∧ B.cells = P.cells + 1 ∧ B.slots = P.slots + n) := by
  subst hn hN hb
  refine Back.mono (backArv hZ hw wi E V C K S hz (n32 (by omega)) l0 (by omega) (fun c hc => (hp c hc).2) hfr hlo) (fun P a hp => hp) (fun P a v B hp hq => ?_)
  obtain ⟨L, ⟨q1, q2, q3, q4, q5, q6, q7, ⟨kb, v1, v2⟩, q9⟩, hl, hc, hs⟩ := hq
  exact ⟨L, ⟨q1, fun y hy => by rw [q2 y hy]; exact hx0, q3, q5, q7, h.size, kb, hh0, Nat.le_refl _, Nat.ne_of_gt E.lt, q6, by rw [List.map_map]; exact v2⟩, hl, hc, hs⟩
end StrChars.Road
namespace StrChars
open Jvm Sem ClassFile Op Lib Jvm.Stand Jvm.Free.XT Jvm.Free.ALB Jvm.Free.JM Jvm.Free
open Jvm.Lib.Cold (StaticIs)
def hi8 (x : Int32) : Int32 := lo8 (x >>> ((8 : Int32) &&& 31))
/-- what StringUTF16.getChar makes of two bytes -/
def pairCh (u v : Int32) : Int32 := (((u &&& 255) <<< ((0 : Int32) &&& 31)) ||| ((v &&& 255) <<< ((8 : Int32) &&& 31))).toUInt32.toUInt16.toUInt32.toInt32
theorem shr0 (c : Int32) : c >>> ((0 : Int32) &&& 31) = c := by
  have e : ((0 : Int32) &&& 31) = 0 := by decide
  rw [e]
  apply Int32.toBitVec_inj.mp
  rw [Int32.toBitVec_shiftRight]
  have e1 : ((0 : Int32).toBitVec.smod 32) = 0#32 := by decide
  rw [e1, BitVec.sshiftRight_eq']
  exact BitVec.sshiftRight_zero
theorem lo8_and (x : Int32) : (lo8 x &&& 255).toBitVec.toNat = x.toBitVec.toNat % 256 := by
  have h : (lo8 x).toBitVec = (x.toBitVec.signExtend 8).signExtend 32 := by rw [lo8, Int8.toBitVec_toInt32, Int32.toBitVec_toInt8]
  rw [Int32.toBitVec_and, BitVec.toNat_and, h]
  have e : ((x.toBitVec.signExtend 8).signExtend 32).toNat % 256 = x.toBitVec.toNat % 256 := by
    rw [BitVec.toNat_signExtend]
    have hlt := x.toBitVec.isLt
    simp only [BitVec.toNat_setWidth, BitVec.toNat_signExtend]
    split <;> split <;> omega
  rw [← e]
  exact Nat.and_two_pow_sub_one_eq_mod _ 8
theorem pair_says {c : Int32} (h0 : ¬ c < 0) (h1 : ¬ 65535 < c) : pairCh (lo8 c) (hi8 c) = c := by
  rw [Int32.lt_iff_toInt_lt] at h0 h1
  have e0 : (0 : Int32).toInt = 0 := rfl
  have e1 : (65535 : Int32).toInt = 65535 := rfl
  have hc : c.toInt = c.toBitVec.toNat := by
    have := c.toBitVec.isLt
    have e : c.toInt = c.toBitVec.toInt := rfl
    rw [e] at h0 h1
    rw [e]
    rw [BitVec.toInt_eq_toNat_cond] at h0 h1 ⊢
    split at h0 <;> split <;> omega
  have hn : c.toBitVec.toNat < 65536 := by omega
  have a1 := lo8_and c
  have a2 : (hi8 c &&& 255).toBitVec.toNat = c.toBitVec.toNat / 256 := by
    rw [hi8, lo8_and]
    have e : ((8 : Int32) &&& 31) = 8 := by decide
    rw [e, Int32.toBitVec_shiftRight]
    have e2 : ((8 : Int32).toBitVec.smod 32) = 8#32 := by decide
    rw [e2, BitVec.sshiftRight_eq', BitVec.toNat_sshiftRight_of_msb_false (by rw [BitVec.msb_eq_false_iff_two_mul_lt]; omega)]
    show c.toBitVec.toNat >>> 8 % 256 = _
    rw [Nat.shiftRight_eq_div_pow]
    omega
  unfold pairCh
  apply Int32.toBitVec_inj.mp
  apply BitVec.eq_of_toNat_eq
  have f0 : ((0 : Int32) &&& 31) = 0 := by decide
  have f8 : ((8 : Int32) &&& 31) = 8 := by decide
  rw [f0, f8]
  have g : (((lo8 c &&& 255) <<< (0 : Int32)) ||| ((hi8 c &&& 255) <<< (8 : Int32))).toBitVec.toNat = c.toBitVec.toNat := by
    rw [Int32.toBitVec_or, Int32.toBitVec_shiftLeft, Int32.toBitVec_shiftLeft]
    have s0 : ((0 : Int32).toBitVec.smod 32) = 0#32 := by decide
    have s8 : ((8 : Int32).toBitVec.smod 32) = 8#32 := by decide
    rw [s0, s8, BitVec.toNat_or]
    simp only [BitVec.shiftLeft_eq', BitVec.toNat_shiftLeft, a1, a2]
    show (c.toBitVec.toNat % 256) <<< 0 % 2 ^ 32 ||| (c.toBitVec.toNat / 256) <<< 8 % 2 ^ 32 = _
    rw [Nat.shiftLeft_zero, Nat.mod_eq_of_lt (show c.toBitVec.toNat % 256 < 2 ^ 32 by omega), Nat.mod_eq_of_lt (show (c.toBitVec.toNat / 256) <<< 8 < 2 ^ 32 by rw [Nat.shiftLeft_eq]; omega), Nat.or_comm, ← Nat.shiftLeft_add_eq_or_of_lt (by omega), Nat.shiftLeft_eq]
    omega
  show BitVec.toNat (((((lo8 c &&& 255) <<< (0 : Int32)) ||| ((hi8 c &&& 255) <<< (8 : Int32))).toBitVec.setWidth 16).setWidth 32) = _
  rw [BitVec.toNat_setWidth, BitVec.toNat_setWidth, g]
  omega
end StrChars
namespace StrChars
open Jvm Sem ClassFile Op Lib Jvm.Stand Jvm.Free.XT Jvm.Free.ALB Jvm.Free.JM Jvm.Free
open Jvm.Lib.Cold (StaticIs)
theorem shr1 {n : Nat} (h : 2 * n < 2 ^ 31) : Int32.ofNat (2 * n) >>> ((1 : Int32) &&& 31) = Int32.ofNat n := by
  have e : ((1 : Int32) &&& 31) = 1 := by decide
  rw [e]
  apply Int32.toBitVec_inj.mp
  rw [Int32.toBitVec_shiftRight]
  have e1 : ((1 : Int32).toBitVec.smod 32) = 1#32 := by decide
  have hm : (BitVec.ofNat 32 (2 * n)).toNat = 2 * n := by rw [BitVec.toNat_ofNat, Nat.mod_eq_of_lt (by omega)]
  rw [e1, BitVec.sshiftRight_eq']
  apply BitVec.eq_of_toNat_eq
  show ((BitVec.ofNat 32 (2 * n)).sshiftRight 1).toNat = (BitVec.ofNat 32 n).toNat
  rw [BitVec.toNat_sshiftRight_of_msb_false (by rw [BitVec.msb_eq_false_iff_two_mul_lt, hm]; omega), hm, BitVec.toNat_ofNat, Nat.shiftRight_eq_div_pow]
  omega
/-- charAt's cast of a byte read back -/
def chr8 (u : Int32) : Int32 := (u &&& 255).toUInt32.toUInt16.toUInt32.toInt32
theorem chr8_lo8 {c : Int32} (h0 : ¬ c < 0) (h1 : ¬ 255 < c) : chr8 (lo8 c) = c := by
  have t : ∀ k : Fin 256, (Int32.ofNat k.val).toUInt32.toUInt16.toUInt32.toInt32 = Int32.ofNat k.val := by decide +kernel
  unfold chr8
  rw [lo8_mask h0 h1]
  rw [Int32.lt_iff_toInt_lt] at h0 h1
  have e0 : (0 : Int32).toInt = 0 := rfl
  have e1 : (255 : Int32).toInt = 255 := rfl
  obtain ⟨k, hk⟩ : ∃ k : Nat, c.toInt = k := ⟨c.toInt.toNat, by omega⟩
  have hx : c = Int32.ofNat k := Int32.toInt_inj.mp (by rw [hk, Int32.toInt_ofNat_small (by omega)])
  rw [hx]
  exact t ⟨k, by omega⟩
theorem narrow_ch {c : Int32} (h0 : ¬ c < 0) (h1 : ¬ 65535 < c) : narrow .char (.int c) = .int c := by
  have q : narrow .char (.int (pairCh (lo8 c) (hi8 c))) = .int (pairCh (lo8 c) (hi8 c)) := narrow_c _
  rwa [pair_says h0 h1] at q
/-- the array's cell V codes the n chars f 0 .. f (n - 1) by the coder cd, as the JDK does: coder 1 just where some char is above 255 -/
def Cod (cd : Int32) (n : Nat) (f : Nat → Int32) (V : Cell) : Prop := (cd = 0 ∧ V.slots.size = n ∧ ∀ j, j < n → V.slots[j]? = some (.int (lo8 (f j))) ∧ ¬ 255 < f j) ∨ (cd = 1 ∧ V.slots.size = 2 * n ∧ (∀ j, j < n → V.slots[2 * j]? = some (.int (lo8 (f j))) ∧ V.slots[2 * j + 1]? = some (.int (hi8 (f j)))) ∧ ∃ j, j < n ∧ 255 < f j)
theorem Cod.cd {cd : Int32} {n : Nat} {f : Nat → Int32} {V : Cell} (h : Cod cd n f V) : cd = 0 ∨ cd = 1 := h.imp (fun q => q.1) fun q => q.1
theorem Cod.len {cd : Int32} {n : Nat} {f : Nat → Int32} {V : Cell} (h : Cod cd n f V) (hs : V.slots.size < 2 ^ 31) : Int32.ofNat V.slots.size >>> (cd &&& 31) = Int32.ofNat n := by
  rcases h with ⟨rfl, h, -⟩ | ⟨rfl, h, -⟩
  · rw [shr0, h]
  · rw [h, shr1 (by omega)]
/-- **x is a String of the n chars f 0 .. f (n - 1)**, Latin-1 or UTF-16; its array at t has the cell V -/
def Txt (x t : Addr) (V : Cell) (cd : Int32) (n : Nat) (f : Nat → Int32) (U : State) : Prop := Exact "java/lang/String" x U ∧ Has x "java/lang/String" "value" "[B" (.ref t) U ∧ Has x "java/lang/String" "coder" "B" (.int cd) U ∧ XT.Arr .byte t V U ∧ Cod cd n f V ∧ ∀ j, j < n → ¬ f j < 0 ∧ ¬ 65535 < f j
theorem Txt.mv {x t : Addr} {V : Cell} {cd : Int32} {n : Nat} {f : Nat → Int32} {U U' : State} (h : Txt x t V cd n f U) (hal : U.vm.Alike U'.vm) (hh : U'.heap = U.heap) : Txt x t V cd n f U' := ⟨h.1.mv hal hh, h.2.1.mv hal hh, h.2.2.1.mv hal hh, h.2.2.2.1.mv hal hh, h.2.2.2.2⟩
namespace Cdr
def yN : MethodName := ⟨"java/lang/String", "coder", "()B"⟩
abbrev yB : ByteArray := jdk_42_method_152_code
theorem d0 : decode yB 0 = .ok (.getstatic 38, 3) := by decide +kernel
theorem d3 : decode yB 3 = .ok (.ifCond (.eq) 10, 3) := by decide +kernel
theorem d6 : decode yB 6 = .ok (.aload_n 0, 1) := by decide +kernel
theorem d7 : decode yB 7 = .ok (.getfield 15, 3) := by decide +kernel
theorem d10 : decode yB 10 = .ok (.goto 4, 3) := by decide +kernel
theorem d14 : decode yB 14 = .ok (.ireturn, 1) := by decide +kernel
def site : List Cond := [.fieldLink "java/lang/String" 38 "java/lang/String" "COMPACT_STRINGS" "Z", .fieldLink "java/lang/String" 15 "java/lang/String" "coder" "B"]
def tab : Cond := tabOf yN yB 1 (some .byte) site
def P (x : Addr) (cd z : Int32) (args : Array Value) (s : State) : Prop := args = #[.ref x] ∧ Has x "java/lang/String" "coder" "B" (.int cd) s ∧ (cd = 0 ∨ cd = 1) ∧ StaticIs s "java/lang/String" "COMPACT_STRINGS" "Z" (.int z) ∧ ¬ z = 0
def E (cd : Int32) (r : Option Value) (s u : State) : Prop := XT.PureE (some (.int cd)) r s u
theorem law (l : Launch) (x : Addr) (cd z : Int32) : Law l yN 1 0 0 0 yB 1 (some .byte) site (P x cd z) (E cd) [] 0 0 := by
  refine Law.of_walk (plainFor_of_name (by decide +kernel)) (by decide +kernel) (by decide +kernel) (by decide) (fun _ _ h => by rw [h.1]; rfl) (fun _ U U' hal hh h => ⟨h.1, h.2.1.mv hal hh, h.2.2.1, h.2.2.2.1.there hal hh, h.2.2.2.2⟩) (fun r U U' V V' h1 hal h2 h => XT.PureE.mv r U U' V V' h1 hal h2 h) ?_
  intro p e s m args below meth c s₁ X0 hexec hbytes hml hret hlk hnm hown hh0 W hP
  obtain ⟨rfl, hx, hc, s1, hz⟩ := hP
  have c1 : Steps p.tables e below (s₁.setTop (entryFrame m #[.ref x] 1)) (s₁.setTop (mkF m 0 #[.val (.ref x)] [])) := entry rfl
  obtain ⟨T2, X2, q2, st2⟩ := X0.sget hexec hown (wk W (.fieldLink "java/lang/String" 38 "java/lang/String" "COMPACT_STRINGS" "Z")) s1 (fun _ _ h => by rw [hh0]; exact h) (g := (mkF m 0 #[.val (.ref x)] [])) rfl (hb hbytes d0)
  have hh2 := q2.trans hh0
  have c3 : Steps p.tables e below (s₁.setTop (entryFrame m #[.ref x] 1)) (T2.setTop (mkF m 7 #[.val (.ref x)] [.ref x])) := (c1.trans (st2 _ (Steps.refl _))).trans (by
    refine XS.ifNo X2.here hexec rfl (hb hbytes d3) rfl (i0_eq_f hz) ?_
    refine XS.aloadN X2.here hexec rfl (hb hbytes d6) rfl rfl ?_
    exact Steps.refl _)
  obtain ⟨T4, X4, q4, st4⟩ := X2.hget hexec hown (wk W (.fieldLink "java/lang/String" 15 "java/lang/String" "coder" "B")) (hx.mv X2.warmed.alike hh2) (g := (mkF m 7 #[.val (.ref x)] [.ref x])) rfl (rest := []) rfl (hb hbytes d7)
  have c5 : Steps p.tables e below (s₁.setTop (entryFrame m #[.ref x] 1)) (T4.setTop (mkF m 14 #[.val (.ref x)] [.int cd])) := (c3.trans (st4 _ (Steps.refl _))).trans (by
    refine XS.goto X4.here hexec rfl (pc0 := 10) rfl (hb hbytes d10) (by decide) rfl ?_
    exact Steps.refl _)
  exact ⟨T4, some (.int cd), _, _, _, X4, rfl, rfl, rfl, (fun h => by cases h), ⟨rfl, q4.trans hh2⟩, fun fs hl => c5.trans (X4.ireturnOut hexec hret (by rcases hc with rfl | rfl <;> rfl) (Or.inr (Or.inr (Or.inl rfl))) (hb hbytes d14) hl)⟩
end Cdr
namespace Len
def yN : MethodName := ⟨"java/lang/String", "length", "()I"⟩
abbrev yB : ByteArray := jdk_42_method_54_code
theorem d0 : decode yB 0 = .ok (.aload_n 0, 1) := by decide +kernel
theorem d1 : decode yB 1 = .ok (.getfield 9, 3) := by decide +kernel
theorem d4 : decode yB 4 = .ok (.arraylength, 1) := by decide +kernel
theorem d5 : decode yB 5 = .ok (.aload_n 0, 1) := by decide +kernel
theorem d6 : decode yB 6 = .ok (.invokevirtual 335, 3) := by decide +kernel
theorem d9 : decode yB 9 = .ok (.ishr, 1) := by decide +kernel
theorem d10 : decode yB 10 = .ok (.ireturn, 1) := by decide +kernel
def site : List Cond := [.fieldLink "java/lang/String" 9 "java/lang/String" "value" "[B", Cdr.tab] ++ virtW "java/lang/String" 335 "java/lang/String" Cdr.yN Cdr.yN
def tab : Cond := tabOf yN yB 1 (some .int) site
def P (x t : Addr) (V : Cell) (cd : Int32) (n : Nat) (f : Nat → Int32) (z : Int32) (args : Array Value) (s : State) : Prop := args = #[.ref x] ∧ Txt x t V cd n f s ∧ StaticIs s "java/lang/String" "COMPACT_STRINGS" "Z" (.int z) ∧ ¬ z = 0
def E (n : Nat) (r : Option Value) (s u : State) : Prop := XT.PureE (some (.int (Int32.ofNat n))) r s u
/-- length() of a String of n chars, in either coding -/
theorem law (l : Launch) (x t : Addr) (V : Cell) (cd : Int32) (n : Nat) (f : Nat → Int32) (z : Int32) : Law l yN 1 0 1 13 yB 1 (some .int) site (P x t V cd n f z) (E n) [] 0 0 := by
  refine Law.of_walk (plainFor_of_name (by decide +kernel)) (by decide +kernel) (by decide +kernel) (by decide) (fun _ _ h => by rw [h.1]; rfl) (fun _ U U' hal hh h => ⟨h.1, h.2.1.mv hal hh, h.2.2.1.there hal hh, h.2.2.2⟩) (fun r U U' V V' h1 hal h2 h => XT.PureE.mv r U U' V V' h1 hal h2 h) ?_
  intro p e s m args below meth c s₁ X0 hexec hbytes hml hret hlk hnm hown hh0 W hP
  obtain ⟨rfl, hx, s1, hz⟩ := hP
  have v31 := hx.2.2.2.1.2.2.2
  have c1 : Steps p.tables e below (s₁.setTop (entryFrame m #[.ref x] 1)) (s₁.setTop (mkF m 1 #[.val (.ref x)] [.ref x])) := Steps.trans (entry rfl) (by
    show Steps p.tables e below (s₁.setTop (mkF m 0 #[.val (.ref x)] [])) _
    refine XS.aloadN X0.here hexec rfl (hb hbytes d0) rfl rfl ?_
    exact Steps.refl _)
  obtain ⟨T2, X2, q2, st2⟩ := X0.hget hexec hown (wk W (.fieldLink "java/lang/String" 9 "java/lang/String" "value" "[B")) (hx.mv X0.warmed.alike hh0).2.1 (g := (mkF m 1 #[.val (.ref x)] [.ref x])) rfl (rest := []) rfl (hb hbytes d1)
  have hh2 := q2.trans hh0
  have hx2 := hx.mv X2.warmed.alike hh2
  have c3 : Steps p.tables e below (s₁.setTop (entryFrame m #[.ref x] 1)) (T2.setTop (mkF m 6 #[.val (.ref x)] [.ref x, .int (Int32.ofNat V.slots.size)])) := (c1.trans (st2 _ (Steps.refl _))).trans (by
    refine X2.alen hexec hx2.2.2.2.1 rfl rfl (hb hbytes d4) ?_
    refine XS.aloadN X2.here hexec rfl (hb hbytes d5) rfl rfl ?_
    exact Steps.refl _)
  obtain ⟨v4, T4, X4, E4, g4⟩ := X2.callV hexec (Cdr.law l x cd z) hown (wks W (virtW "java/lang/String" 335 "java/lang/String" Cdr.yN Cdr.yN)) rfl (by decide) (wk W Cdr.tab) (W := 1) (Nat.le_of_ble_eq_true rfl) (Nat.le_of_ble_eq_true rfl) (Nat.le_refl _) (Nat.le_refl _) (hx2.1.fc X2.warmed.alike) hx2.1.is (g := (mkF m 6 #[.val (.ref x)] [.ref x, .int (Int32.ofNat V.slots.size)])) rfl (by rw [hml]; rfl) c3 (argsL := []) (rest := [.int (Int32.ofNat V.slots.size)]) rfl rfl (by show 2 * 0 + (1 + 0) ≤ _; decide) (hb hbytes d6) (⟨rfl, hx2.2.2.1, hx.2.2.2.2.1.cd, s1.there X2.warmed.alike hh2, hz⟩)
  obtain ⟨rfl, q4⟩ := E4
  have c5 : Steps p.tables e below (s₁.setTop (entryFrame m #[.ref x] 1)) (T4.setTop (mkF m 10 #[.val (.ref x)] [.int (Int32.ofNat V.slots.size >>> (cd &&& 31))])) := Steps.trans g4 (by
    refine ishr X4.here hexec rfl (hb hbytes d9) rfl ?_
    exact Steps.refl _)
  rw [hx.2.2.2.2.1.len v31] at c5
  exact ⟨T4, some (.int (Int32.ofNat n)), _, _, _, X4, rfl, rfl, rfl, (fun h => by cases h), ⟨rfl, q4.trans hh2⟩, fun fs hl => c5.trans (X4.ireturnOut hexec hret rfl (Or.inl rfl) (hb hbytes d10) hl)⟩
theorem pays {l : Launch} {R : Room} {p : Program} {e : Env} {below : List Frame} {s : State} {sargs : Array Value} {len W : Nat} (x t : Addr) (V : Cell) (cd : Int32) (n : Nat) (f : Nat → Int32) (z : Int32) (htab : tab.before sargs s = true) (hfr : 2 ≤ R.frames) (hlo : W + 25 ≤ R.locals) :
    Back l R p e below s sargs yN len W (fun A₁ a₁ => A₁.cells + 0 ≤ R.cells ∧ A₁.slots + 0 ≤ R.slots ∧ P x t V cd n f z a₁ A₁.U) (fun A₁ _ v₁ B₁ => E n v₁ A₁.U B₁.U ∧ B₁.locs = A₁.locs ++ [] ∧ B₁.cells = A₁.cells + 0 ∧ B₁.slots = A₁.slots + 0) :=
  (law l x t V cd n f z).pays htab hfr (by omega)
end Len
namespace IsL
def yN : MethodName := ⟨"java/lang/String", "isLatin1", "()Z"⟩
abbrev yB : ByteArray := jdk_42_method_154_code
theorem d0 : decode yB 0 = .ok (.getstatic 38, 3) := by decide +kernel
theorem d3 : decode yB 3 = .ok (.ifCond (.eq) 14, 3) := by decide +kernel
theorem d6 : decode yB 6 = .ok (.aload_n 0, 1) := by decide +kernel
theorem d7 : decode yB 7 = .ok (.getfield 15, 3) := by decide +kernel
theorem d10 : decode yB 10 = .ok (.ifCond (.ne) 7, 3) := by decide +kernel
theorem d13 : decode yB 13 = .ok (.iconst 1, 1) := by decide +kernel
theorem d14 : decode yB 14 = .ok (.goto 4, 3) := by decide +kernel
theorem d17 : decode yB 17 = .ok (.iconst 0, 1) := by decide +kernel
theorem d18 : decode yB 18 = .ok (.ireturn, 1) := by decide +kernel
def site : List Cond := [.fieldLink "java/lang/String" 38 "java/lang/String" "COMPACT_STRINGS" "Z", .fieldLink "java/lang/String" 15 "java/lang/String" "coder" "B"]
def tab : Cond := tabOf yN yB 1 (some .boolean) site
def P (x : Addr) (cd z : Int32) (args : Array Value) (s : State) : Prop := args = #[.ref x] ∧ Has x "java/lang/String" "coder" "B" (.int cd) s ∧ (cd = 0 ∨ cd = 1) ∧ StaticIs s "java/lang/String" "COMPACT_STRINGS" "Z" (.int z) ∧ ¬ z = 0
def E (cd : Int32) (r : Option Value) (s u : State) : Prop := XT.PureE (some (.int (1 - cd))) r s u
theorem law (l : Launch) (x : Addr) (cd z : Int32) : Law l yN 1 0 0 0 yB 1 (some .boolean) site (P x cd z) (E cd) [] 0 0 := by
  refine Law.of_walk (plainFor_of_name (by decide +kernel)) (by decide +kernel) (by decide +kernel) (by decide) (fun _ _ h => by rw [h.1]; rfl) (fun _ U U' hal hh h => ⟨h.1, h.2.1.mv hal hh, h.2.2.1, h.2.2.2.1.there hal hh, h.2.2.2.2⟩) (fun r U U' V V' h1 hal h2 h => XT.PureE.mv r U U' V V' h1 hal h2 h) ?_
  intro p e s m args below meth c s₁ X0 hexec hbytes hml hret hlk hnm hown hh0 W hP
  obtain ⟨rfl, hx, hc, s1, hz⟩ := hP
  have c1 : Steps p.tables e below (s₁.setTop (entryFrame m #[.ref x] 1)) (s₁.setTop (mkF m 0 #[.val (.ref x)] [])) := entry rfl
  obtain ⟨T2, X2, q2, st2⟩ := X0.sget hexec hown (wk W (.fieldLink "java/lang/String" 38 "java/lang/String" "COMPACT_STRINGS" "Z")) s1 (fun _ _ h => by rw [hh0]; exact h) (g := (mkF m 0 #[.val (.ref x)] [])) rfl (hb hbytes d0)
  have hh2 := q2.trans hh0
  have c3 : Steps p.tables e below (s₁.setTop (entryFrame m #[.ref x] 1)) (T2.setTop (mkF m 7 #[.val (.ref x)] [.ref x])) := (c1.trans (st2 _ (Steps.refl _))).trans (by
    refine XS.ifNo X2.here hexec rfl (hb hbytes d3) rfl (i0_eq_f hz) ?_
    refine XS.aloadN X2.here hexec rfl (hb hbytes d6) rfl rfl ?_
    exact Steps.refl _)
  obtain ⟨T4, X4, q4, st4⟩ := X2.hget hexec hown (wk W (.fieldLink "java/lang/String" 15 "java/lang/String" "coder" "B")) (hx.mv X2.warmed.alike hh2) (g := (mkF m 7 #[.val (.ref x)] [.ref x])) rfl (rest := []) rfl (hb hbytes d7)
  have c5 : Steps p.tables e below (s₁.setTop (entryFrame m #[.ref x] 1)) (T4.setTop (mkF m 10 #[.val (.ref x)] [.int cd])) := c3.trans (st4 _ (Steps.refl _))
  have c6 : Steps p.tables e below (s₁.setTop (entryFrame m #[.ref x] 1)) (T4.setTop (mkF m 18 #[.val (.ref x)] [.int (1 - cd)])) := by
    rcases hc with rfl | rfl
    · exact c5.trans (by
        refine XS.ifNo X4.here hexec rfl (hb hbytes d10) rfl (i0_ne_f rfl) ?_
        refine iconstV X4.here hexec rfl 1 (hb hbytes d13) (by decide) ?_
        refine XS.goto X4.here hexec rfl (pc0 := 14) rfl (hb hbytes d14) (by decide) rfl ?_
        exact Steps.refl _)
    · exact c5.trans (by
        refine XS.ifYes X4.here hexec rfl (pc0 := 10) rfl (hb hbytes d10) rfl (i0_ne_t (by decide)) (by decide) rfl ?_
        refine iconstV X4.here hexec rfl 0 (hb hbytes d17) (by decide) ?_
        exact Steps.refl _)
  exact ⟨T4, some (.int (1 - cd)), _, _, _, X4, rfl, rfl, rfl, (fun h => by cases h), ⟨rfl, q4.trans hh2⟩, fun fs hl => c6.trans (X4.ireturnOut hexec hret (by rcases hc with rfl | rfl <;> rfl) (Or.inr (Or.inl rfl)) (hb hbytes d18) hl)⟩
end IsL
namespace LChA
def yN : MethodName := ⟨"java/lang/StringLatin1", "charAt", "([BI)C"⟩
abbrev yB : ByteArray := jdk_43_method_2_code
theorem d0 : decode yB 0 = .ok (.iload_n 1, 1) := by decide +kernel
theorem d1 : decode yB 1 = .ok (.aload_n 0, 1) := by decide +kernel
theorem d2 : decode yB 2 = .ok (.arraylength, 1) := by decide +kernel
theorem d3 : decode yB 3 = .ok (.invokestatic 9, 3) := by decide +kernel
theorem d6 : decode yB 6 = .ok (.aload_n 0, 1) := by decide +kernel
theorem d7 : decode yB 7 = .ok (.iload_n 1, 1) := by decide +kernel
theorem d8 : decode yB 8 = .ok (.baload, 1) := by decide +kernel
theorem d9 : decode yB 9 = .ok (.sipush 255, 3) := by decide +kernel
theorem d12 : decode yB 12 = .ok (.iand, 1) := by decide +kernel
theorem d13 : decode yB 13 = .ok (.i2c, 1) := by decide +kernel
theorem d14 : decode yB 14 = .ok (.ireturn, 1) := by decide +kernel
def site : List Cond := [JO.Str_checkIndex.tab] ++ staticW "java/lang/StringLatin1" 9 JO.Str_checkIndex.yN
def tab : Cond := tabOf yN yB 2 (some .char) site
def P (t : Addr) (V : Cell) (i : Nat) (u : Int32) (fm : Value) (args : Array Value) (s : State) : Prop := args = #[.ref t, .int (Int32.ofNat i)] ∧ XT.Arr .byte t V s ∧ V.slots[i]? = some (.int u) ∧ (StaticIs s "jdk/internal/util/Preconditions" "SIOOBE_FORMATTER" "Ljava/util/function/BiFunction;" fm ∧ fm.isRef = true)
def E (u : Int32) (r : Option Value) (s w : State) : Prop := XT.PureE (some (.int (chr8 u))) r s w
theorem law (l : Launch) (t : Addr) (V : Cell) (i : Nat) (u : Int32) (fm : Value) : Law l yN 2 2 2 27 yB 2 (some .char) site (P t V i u fm) (E u) [] 0 0 := by
  refine Law.of_walk (plainFor_of_name (by decide +kernel)) (by decide +kernel) (by decide +kernel) (by decide) (fun _ _ h => by rw [h.1]; rfl) (fun _ U U' hal hh h => ⟨h.1, h.2.1.mv hal hh, h.2.2.1, h.2.2.2.1.there hal hh, h.2.2.2.2⟩) (fun r U U' V V' h1 hal h2 h => XT.PureE.mv r U U' V V' h1 hal h2 h) ?_
  intro p e s m args below meth c s₁ X0 hexec hbytes hml hret hlk hnm hown hh0 W hP
  obtain ⟨rfl, hV, hu, s1, rf⟩ := hP
  have v31 := hV.2.2.2
  have hi : i < V.slots.size := (Array.getElem?_eq_some_iff.mp hu).1
  have c1 : Steps p.tables e below (s₁.setTop (entryFrame m #[.ref t, .int (Int32.ofNat i)] 2)) (s₁.setTop (mkF m 0 #[.val (.ref t), .val (.int (Int32.ofNat i))] [])) := entry rfl
  have c2 : Steps p.tables e below (s₁.setTop (entryFrame m #[.ref t, .int (Int32.ofNat i)] 2)) (s₁.setTop (mkF m 3 #[.val (.ref t), .val (.int (Int32.ofNat i))] [.int (Int32.ofNat V.slots.size), .int (Int32.ofNat i)])) := c1.trans (by
    refine XS.iloadN X0.here hexec rfl (hb hbytes d0) rfl ?_
    refine XS.aloadN X0.here hexec rfl (hb hbytes d1) rfl rfl ?_
    refine X0.alen hexec (hV.mv X0.warmed.alike hh0) rfl rfl (hb hbytes d2) ?_
    exact Steps.refl _)
  obtain ⟨v3, T3, X3, E3, g3⟩ := X0.callS hexec (JO.Str_checkIndex.law l (Int32.ofNat i) (Int32.ofNat V.slots.size) fm) hown (wks W (staticW "java/lang/StringLatin1" 9 JO.Str_checkIndex.yN)) (wk W JO.Str_checkIndex.tab) (W := 0) (Nat.le_of_ble_eq_true rfl) (Nat.le_of_ble_eq_true rfl) (Nat.le_refl _) (Nat.le_refl _) (g := (mkF m 3 #[.val (.ref t), .val (.int (Int32.ofNat i))] [.int (Int32.ofNat V.slots.size), .int (Int32.ofNat i)])) rfl (by rw [hml]; rfl) c2 (argsL := [.int (Int32.ofNat i), .int (Int32.ofNat V.slots.size)]) (rest := []) rfl rfl (by show 2 * 0 + 0 ≤ _; decide) (hb hbytes d3) (⟨rfl, rf, s1.there X0.warmed.alike hh0, Int32.ofNat_not_neg (by omega), lt32 v31 hi⟩)
  obtain ⟨rfl, q3⟩ := E3
  have hh3 := q3.trans hh0
  have c4 : Steps p.tables e below (s₁.setTop (entryFrame m #[.ref t, .int (Int32.ofNat i)] 2)) (T3.setTop (mkF m 14 #[.val (.ref t), .val (.int (Int32.ofNat i))] [.int (chr8 u)])) := Steps.trans g3 (by
    refine XS.aloadN X3.here hexec rfl (hb hbytes d6) rfl rfl ?_
    refine XS.iloadN X3.here hexec rfl (hb hbytes d7) rfl ?_
    refine X3.aget hexec (hV.mv X3.warmed.alike hh3) rfl hu rfl rfl (hb hbytes d8) ?_
    refine sipushV X3.here hexec rfl 255 (hb hbytes d9) (by decide) ?_
    refine XS.iand X3.here hexec rfl (hb hbytes d12) rfl ?_
    refine i2c X3.here hexec rfl (hb hbytes d13) rfl ?_
    exact Steps.refl _)
  exact ⟨T3, some (.int (chr8 u)), _, _, _, X3, rfl, rfl, rfl, (fun h => by cases h), ⟨rfl, hh3⟩, fun fs hl => c4.trans (X3.ireturnOut hexec hret (narrow_c _) (Or.inr (Or.inr (Or.inr (Or.inl rfl)))) (hb hbytes d14) hl)⟩
end LChA
end StrChars
namespace StrChars.Road
open Jvm Sem ClassFile Op Lib Jvm.Stand Jvm.Free Jvm.Free.XT
open Jvm.Lib.Cold (StaticIs)
theorem consq {a : Array Value} {s : State} {c : Jvm.Cond} {L : List Jvm.Cond} (h0 : c.before a s = true) (h : ∀ w ∈ L, w.before a s = true) : ∀ w ∈ c :: L, w.before a s = true := fun w hw => (List.mem_cons.mp hw).elim (fun e => e ▸ h0) (h w)
/-- the words of String.length(), either coding -/
abbrev wordsLen : List Jvm.Cond := [.code Len.yN Len.yB 1 (some .int), .initialized ST, .fieldLink ST 9 ST "value" "[B", .fieldLink ST 38 ST "COMPACT_STRINGS" "Z", .fieldLink ST 15 ST "coder" "B", .code Cdr.yN Cdr.yB 1 (some .byte), .methodLink ST 335 Cdr.yN, .declares Cdr.yN, .selects ST Cdr.yN Cdr.yN, .instanceMethod Cdr.yN]
theorem tabLen_of {a : Array Value} {s : State} (h : ∀ w ∈ wordsLen, w.before a s = true) : Len.tab.before a s = true := by
  have hc : Cdr.tab.before a s = true := unparts (wk h (.code Cdr.yN Cdr.yB 1 (some .byte))) (wks h (.initialized Cdr.yN.cls :: Cdr.site))
  have q := consq hc h
  exact unparts (wk q (.code Len.yN Len.yB 1 (some .int))) (wks q (.initialized Len.yN.cls :: Len.site))
theorem movedLen {Z s : State} {a0 args : Array Value} (hZ : Z.Warmed39 s.vm) (hw : ∀ d ∈ wordsLen, d.before a0 Z = true) : ∀ d ∈ wordsLen, d.before args s = true := fun d hd => by
  have q := hw d hd
  have t : ∀ d ∈ wordsLen, d = .arrayClass .byte ∨ (d.onTables && d.keepsFace) = true := by decide +kernel
  rcases t d hd with rfl | t
  · exact RoadKit.mvA hZ q
  · exact RoadKit.mv hZ q t
/-- the bytes of the chars cs, low before high -/
def wideBytes : List Int32 → List Value
  | [] => []
  | c :: cs => .int (lo8 c) :: .int (hi8 c) :: wideBytes cs
theorem wide_lo (d : Value) : ∀ (cs : List Int32) (j : Nat), j < cs.length → (wideBytes cs).getD (2 * j) d = .int (lo8 (cs.getD j 0))
  | [], j, h => absurd h (Nat.not_lt_zero j)
  | c :: cs, 0, _ => rfl
  | c :: cs, j + 1, h => by
    have q := wide_lo d cs j (by simpa using h)
    rw [show 2 * (j + 1) = 2 * j + 1 + 1 from by omega]
    simpa [wideBytes] using q
theorem wide_hi (d : Value) : ∀ (cs : List Int32) (j : Nat), j < cs.length → (wideBytes cs).getD (2 * j + 1) d = .int (hi8 (cs.getD j 0))
  | [], j, h => absurd h (Nat.not_lt_zero j)
  | c :: cs, 0, _ => rfl
  | c :: cs, j + 1, h => by
    have q := wide_hi d cs j (by simpa using h)
    rw [show 2 * (j + 1) + 1 = 2 * j + 1 + 1 + 1 from by omega]
    simpa [wideBytes] using q
theorem low_at (d : Value) (cs : List Int32) (j : Nat) (h : j < cs.length) : (cs.map fun c => Value.int (lo8 c)).getD j d = .int (lo8 (cs.getD j 0)) := by
  simp [List.getD_eq_getElem?_getD, h]
/-- an array of N2 bytes vs codes the chars cs by the coder cd -/
def CodA (cs : List Int32) (cd N2 : Int32) (vs : List Value) : Prop := (cd = 0 ∧ N2 = Int32.ofNat cs.length ∧ vs = (cs.map fun c => Value.int (lo8 c)) ∧ ∀ c ∈ cs, ¬ 255 < c) ∨ (cd = 1 ∧ N2 = Int32.ofNat (2 * cs.length) ∧ vs = wideBytes cs ∧ ∃ c ∈ cs, 255 < c)
theorem CodA.cod {cs : List Int32} {cd N2 : Int32} {vs : List Value} {V : Cell} (h : CodA cs cd N2 vs) (hn : 2 * cs.length < 2 ^ 31) (hs : V.slots.size = N2.toNatClampNeg) (hv : RoadKit.Has V vs (.int 0)) : Cod cd cs.length (fun j => cs.getD j 0) V := by
  rcases h with ⟨rfl, rfl, rfl, h⟩ | ⟨rfl, rfl, rfl, c, hc, hw⟩
  · rw [n32 (by omega)] at hs
    exact Or.inl ⟨rfl, hs, fun j hj => ⟨by rw [hv j (by omega), low_at _ _ _ hj], by
      have e : cs.getD j 0 = cs[j] := by simp [List.getD_eq_getElem?_getD, hj]
      show ¬ 255 < cs.getD j 0
      rw [e]; exact h _ (List.getElem_mem _)⟩⟩
  · rw [n32 (by omega)] at hs
    obtain ⟨j, hj, rfl⟩ := List.getElem_of_mem hc
    exact Or.inr ⟨rfl, hs, fun j hj => ⟨by rw [hv _ (by omega), wide_lo _ _ _ hj], by rw [hv _ (by omega), wide_hi _ _ _ hj]⟩, j, hj, by
      have e : cs.getD j 0 = cs[j] := by simp [List.getD_eq_getElem?_getD, hj]
      show 255 < cs.getD j 0
      rw [e]; exact hw⟩
/-- an object of exactly java/lang/String, its two fields found: as the laws ask it -/
theorem strObj {Z U : State} {a0 : Array Value} {kI : Nat} (wi : (Jvm.Cond.instantiable ST kI).before a0 Z = true) (al : Z.vm.Alike U.vm) {x : Addr} {v0 c0 : Value} (E : RoadKit.Exa Z U.heap x ST) (V : RoadKit.Fld Z U.heap x ST "value" "[B" v0) (C : RoadKit.Fld Z U.heap x ST "coder" "B" c0) :
    ∃ (D : Cell) (fV fC : Field), Blank ST x D U ∧ Found ST "value" "[B" fV U ∧ Found ST "coder" "B" fC U ∧ D.slots[fV.slot]? = some v0 ∧ D.slots[fC.slot]? = some c0 ∧ RoadKit.slotOf Z ST "value" "[B" = fV.slot ∧ RoadKit.slotOf Z ST "coder" "B" = fC.slot := by
  obtain ⟨D, cfV, kV, iV, fV, hD, gV, stV, knV, obV, asV, slV⟩ := V
  obtain ⟨D', cfC, kC, iC, fC, hD', gC, stC, -, -, asC, slC⟩ := C
  cases hD.symm.trans hD'
  obtain ⟨D2, kD, e1, e2, e3, e4, e5⟩ := E
  cases hD.symm.trans e1
  obtain ⟨c2, k2, i1, i2, i3, -⟩ := Cond.instantiable_spec wi
  cases e2.symm.trans i1
  cases e3.symm.trans i2
  obtain ⟨kU, u1, u2⟩ := al.2.2 _ _ e3
  exact ⟨D, fV, fC, ⟨hD, ⟨knV, fun q hq => by rw [hq] at obV; cases obV⟩, by rw [al.findClass]; exact e2, kU, u1, by rw [u2]; exact i3, by rw [u2]; exact e5 i3⟩, ⟨SBG.found_only al ⟨cfV, kV, iV, gV⟩, stV⟩, ⟨SBG.found_only al ⟨cfC, kC, iC, gC⟩, stC⟩, slV, slC, by simp [RoadKit.slotOf, gV], by simp [RoadKit.slotOf, gC]⟩
theorem sta_is {Z U : State} (al : Z.vm.Alike U.vm) {C n d : String} {v : Value} (S : RoadKit.Sta Z U.heap C n d v) : StaticIs U C n d v := by
  obtain ⟨cfS, iS, kS, fS, st, cS, t1, t2, t3, t4, t5, t6, t7⟩ := S
  exact StaticIs.there (s := { Z with heap := U.heap }) ⟨cfS, iS, kS, fS, st, cS, t1, t2, t3, t4, t5, (fun q => by rw [q] at t6; cases t6), t7⟩ al rfl
/-- **length() OF SUCH A STRING** -/
theorem lenW {p : Program} {l : Launch} {e : Env} {R : Room} {s : State} {args : Array Value} {below : List Frame} {len W : Nat} {Z : State} {a0 : Array Value} {h : Heap} (hZ : Z.Warmed39 s.vm) (hw : ∀ d ∈ wordsLen, d.before a0 Z = true) {kI : Nat} (wi : (Jvm.Cond.instantiable ST kI).before a0 Z = true)
    {x t : Addr} {kb : ClassId} {cs : List Int32} {cd N2 z : Int32} {vs : List Value} (E : RoadKit.Exa Z h x ST) (V : RoadKit.Fld Z h x ST "value" "[B" (.ref t)) (C : RoadKit.Fld Z h x ST "coder" "B" (.int cd)) (K : RoadKit.Arv Z h t kb .byte N2 vs (.int 0)) (hc : CodA cs cd N2 vs) (hb : ∀ c ∈ cs, ¬ c < 0 ∧ ¬ (65535 : Int32) < c)
    (S : RoadKit.Sta Z h ST "COMPACT_STRINGS" "Z" (.int z)) (hz : ¬ z = 0) (l2 : cs.length ≤ 4000) (hfr : 2 ≤ R.frames) (hlo : W + 25 ≤ R.locals) :
    Back l R p e below s args (⟨"java/lang/String", "length", "()I"⟩ : MethodName) len W (fun P a => a = #[.ref x] ∧ P.U.heap = h ∧ P.cells + 0 ≤ R.cells ∧ P.slots + 0 ≤ R.slots)
      (fun P _ v B => ∃ L, (v = some (.int (Int32.ofNat cs.length)) ∧ L = [] ∧ B.U.heap = h) ∧ B.locs = P.locs ++ L ∧ B.cells = P.cells + 0 ∧ B.slots = P.slots + 0) := by
  obtain ⟨A, K1, K2, K3, K4, K5, K6⟩ := K
  have hcod := hc.cod (by omega) K3 K5
  intro m meth c P g ig mk a X hg hsize hdg hW hn hp'
  obtain ⟨rfl, rfl, r1, r2⟩ := hp'
  have al : Z.vm.Alike P.U.vm := hZ.alike.trans X.warmed.alike
  obtain ⟨D, fV, fC, hB, F1, F2, g1, g2, -, -⟩ := strObj wi al E V C
  have hx : Txt x t A cd cs.length (fun j => cs.getD j 0) P.U := ⟨⟨_, hB.2.2.1, D, hB.1, rfl, by cases q : D.vm <;> first | rfl | exact absurd q (hB.2.1.2 _)⟩, Has.of hB F1 g1, Has.of hB F2 g2, ⟨K1.1, State.isArrayOf_alike al K1.2.1, K1.2.2, by rcases hcod with ⟨-, q, -⟩ | ⟨-, q, -⟩ <;> omega⟩, hcod, fun j hj => by
    have e : cs.getD j 0 = cs[j] := by simp [List.getD_eq_getElem?_getD, hj]
    show ¬ cs.getD j 0 < 0 ∧ ¬ 65535 < cs.getD j 0
    rw [e]; exact hb _ (List.getElem_mem _)⟩
  obtain ⟨v, B, X', ⟨⟨hv, hh⟩, hl, hk, hs⟩, st⟩ := Len.pays x t A cd cs.length (fun j => cs.getD j 0) z (tabLen_of (movedLen hZ hw)) hfr hlo m meth c P g ig mk _ X hg hsize hdg hW hn ⟨r1, r2, rfl, hx, sta_is al S, hz⟩
  exact ⟨v, B, X', ⟨[], ⟨hv, rfl, hh⟩, hl, hk, hs⟩, st⟩
end StrChars.Road
namespace StrChars.Road
open Jvm Sem ClassFile Op Lib Jvm.Stand Jvm.Free Jvm.Free.XT
open Jvm.Lib.Cold (StaticIs)
/-- the road's facts of a String, as the laws ask it -/
theorem txt_of {Z U : State} {a0 : Array Value} {kI : Nat} (wi : (Jvm.Cond.instantiable ST kI).before a0 Z = true) (al : Z.vm.Alike U.vm) {x t : Addr} {kb : ClassId} {cs : List Int32} {cd N2 : Int32} {vs : List Value} (E : RoadKit.Exa Z U.heap x ST) (V : RoadKit.Fld Z U.heap x ST "value" "[B" (.ref t)) (C : RoadKit.Fld Z U.heap x ST "coder" "B" (.int cd)) (K : RoadKit.Arv Z U.heap t kb .byte N2 vs (.int 0)) (hc : CodA cs cd N2 vs) (hb : ∀ c ∈ cs, ¬ c < 0 ∧ ¬ (65535 : Int32) < c) (l2 : cs.length ≤ 4000) :
    ∃ A, Txt x t A cd cs.length (fun j => cs.getD j 0) U := by
  obtain ⟨A, K1, K2, K3, K4, K5, K6⟩ := K
  have hcod := hc.cod (by omega) K3 K5
  obtain ⟨D, fV, fC, hB, F1, F2, g1, g2, -, -⟩ := strObj wi al E V C
  exact ⟨A, ⟨_, hB.2.2.1, D, hB.1, rfl, by cases q : D.vm <;> first | rfl | exact absurd q (hB.2.1.2 _)⟩, Has.of hB F1 g1, Has.of hB F2 g2, ⟨K1.1, State.isArrayOf_alike al K1.2.1, K1.2.2, by rcases hcod with ⟨-, q, -⟩ | ⟨-, q, -⟩ <;> omega⟩, hcod, fun j hj => by
    have e : cs.getD j 0 = cs[j] := by simp [List.getD_eq_getElem?_getD, hj]
    show ¬ cs.getD j 0 < 0 ∧ ¬ 65535 < cs.getD j 0
    rw [e]; exact hb _ (List.getElem_mem _)⟩
end StrChars.Road
namespace StrChars
open Jvm Sem ClassFile Op Lib Jvm.Stand Jvm.Free.XT Jvm.Free.ALB Jvm.Free.JM Jvm.Free
open Jvm.Lib.Cold (StaticIs)
namespace ChN
def yN : MethodName := ⟨"java/lang/String", "charAt", "(I)C"⟩
abbrev yB : ByteArray := jdk_42_method_56_code
theorem d0 : decode yB 0 = .ok (.aload_n 0, 1) := by decide +kernel
theorem d1 : decode yB 1 = .ok (.invokevirtual 492, 3) := by decide +kernel
theorem d4 : decode yB 4 = .ok (.ifCond (.eq) 12, 3) := by decide +kernel
theorem d7 : decode yB 7 = .ok (.aload_n 0, 1) := by decide +kernel
theorem d8 : decode yB 8 = .ok (.getfield 9, 3) := by decide +kernel
theorem d11 : decode yB 11 = .ok (.iload_n 1, 1) := by decide +kernel
theorem d12 : decode yB 12 = .ok (.invokestatic 495, 3) := by decide +kernel
theorem d15 : decode yB 15 = .ok (.ireturn, 1) := by decide +kernel
def site : List Cond := [.fieldLink "java/lang/String" 9 "java/lang/String" "value" "[B", IsL.tab, LChA.tab] ++ virtW "java/lang/String" 492 "java/lang/String" IsL.yN IsL.yN ++ staticW "java/lang/String" 495 LChA.yN
def tab : Cond := tabOf yN yB 2 (some .char) site
def P (x t : Addr) (V : Cell) (n : Nat) (f : Nat → Int32) (z : Int32) (fm : Value) (i : Nat) (args : Array Value) (s : State) : Prop := args = #[.ref x, .int (Int32.ofNat i)] ∧ Txt x t V 0 n f s ∧ i < n ∧ StaticIs s "java/lang/String" "COMPACT_STRINGS" "Z" (.int z) ∧ ¬ z = 0 ∧ StaticIs s "jdk/internal/util/Preconditions" "SIOOBE_FORMATTER" "Ljava/util/function/BiFunction;" fm ∧ fm.isRef = true
def E (f : Nat → Int32) (i : Nat) (r : Option Value) (s u : State) : Prop := XT.PureE (some (.int (f i))) r s u
/-- charAt(i) of a Latin-1 String of n chars, i < n: f i -/
theorem law (l : Launch) (x t : Addr) (V : Cell) (n : Nat) (f : Nat → Int32) (z : Int32) (fm : Value) (i : Nat) : Law l yN 2 1 3 40 yB 2 (some .char) site (P x t V n f z fm i) (E f i) [] 0 0 := by
  refine Law.of_walk (plainFor_of_name (by decide +kernel)) (by decide +kernel) (by decide +kernel) (by decide) (fun _ _ h => by rw [h.1]; rfl) (fun _ U U' hal hh h => ⟨h.1, h.2.1.mv hal hh, h.2.2.1, h.2.2.2.1.there hal hh, h.2.2.2.2.1, h.2.2.2.2.2.1.there hal hh, h.2.2.2.2.2.2⟩) (fun r U U' V V' h1 hal h2 h => XT.PureE.mv r U U' V V' h1 hal h2 h) ?_
  intro p e s m args below meth c s₁ X0 hexec hbytes hml hret hlk hnm hown hh0 W hP
  obtain ⟨rfl, hx, hi, s1, hz, s3, rf⟩ := hP
  have v31 := hx.2.2.2.1.2.2.2
  have hr := hx.2.2.2.2.2 i hi
  have hx0 := hx.mv X0.warmed.alike hh0
  have c1 : Steps p.tables e below (s₁.setTop (entryFrame m #[.ref x, .int (Int32.ofNat i)] 2)) (s₁.setTop (mkF m 1 #[.val (.ref x), .val (.int (Int32.ofNat i))] [.ref x])) := Steps.trans (entry rfl) (by
    show Steps p.tables e below (s₁.setTop (mkF m 0 #[.val (.ref x), .val (.int (Int32.ofNat i))] [])) _
    refine XS.aloadN X0.here hexec rfl (hb hbytes d0) rfl rfl ?_
    exact Steps.refl _)
  obtain ⟨v2, T2, X2, E2, g2⟩ := X0.callV hexec (IsL.law l x 0 z) hown (wks W (virtW "java/lang/String" 492 "java/lang/String" IsL.yN IsL.yN)) rfl (by decide) (wk W IsL.tab) (W := 0) (Nat.le_of_ble_eq_true rfl) (Nat.le_of_ble_eq_true rfl) (Nat.le_refl _) (Nat.le_refl _) (hx0.1.fc X0.warmed.alike) hx0.1.is (g := (mkF m 1 #[.val (.ref x), .val (.int (Int32.ofNat i))] [.ref x])) rfl (by rw [hml]; rfl) c1 (argsL := []) (rest := []) rfl rfl (by show 2 * 0 + 0 ≤ _; decide) (hb hbytes d1) (⟨rfl, hx0.2.2.1, hx.2.2.2.2.1.cd, s1.there X0.warmed.alike hh0, hz⟩)
  obtain ⟨rfl, q2⟩ := E2
  have hh2 := q2.trans hh0
  have hx2 := hx.mv X2.warmed.alike hh2
  obtain ⟨-, k1, k2⟩ | ⟨k0, -⟩ := hx.2.2.2.2.1
  · have c3 : Steps p.tables e below (s₁.setTop (entryFrame m #[.ref x, .int (Int32.ofNat i)] 2)) (T2.setTop (mkF m 8 #[.val (.ref x), .val (.int (Int32.ofNat i))] [.ref x])) := Steps.trans g2 (by
      refine XS.ifNo X2.here hexec rfl (hb hbytes d4) rfl (i0_eq_f (by decide)) ?_
      refine XS.aloadN X2.here hexec rfl (hb hbytes d7) rfl rfl ?_
      exact Steps.refl _)
    obtain ⟨T4, X4, q4, st4⟩ := X2.hget hexec hown (wk W (.fieldLink "java/lang/String" 9 "java/lang/String" "value" "[B")) hx2.2.1 (g := (mkF m 8 #[.val (.ref x), .val (.int (Int32.ofNat i))] [.ref x])) rfl (rest := []) rfl (hb hbytes d8)
    have hh4 := q4.trans hh2
    have c5 : Steps p.tables e below (s₁.setTop (entryFrame m #[.ref x, .int (Int32.ofNat i)] 2)) (T4.setTop (mkF m 12 #[.val (.ref x), .val (.int (Int32.ofNat i))] [.int (Int32.ofNat i), .ref t])) := (c3.trans (st4 _ (Steps.refl _))).trans (by
      refine XS.iloadN X4.here hexec rfl (hb hbytes d11) rfl ?_
      exact Steps.refl _)
    obtain ⟨v6, T6, X6, E6, g6⟩ := X4.callS hexec (LChA.law l t V i (lo8 (f i)) fm) hown (wks W (staticW "java/lang/String" 495 LChA.yN)) (wk W LChA.tab) (W := 0) (Nat.le_of_ble_eq_true rfl) (Nat.le_of_ble_eq_true rfl) (Nat.le_refl _) (Nat.le_refl _) (g := (mkF m 12 #[.val (.ref x), .val (.int (Int32.ofNat i))] [.int (Int32.ofNat i), .ref t])) rfl (by rw [hml]; rfl) c5 (argsL := [.ref t, .int (Int32.ofNat i)]) (rest := []) rfl rfl (by show 2 * 0 + 0 ≤ _; decide) (hb hbytes d12) (⟨rfl, hx.2.2.2.1.mv X4.warmed.alike hh4, (k2 i hi).1, s3.there X4.warmed.alike hh4, rf⟩)
    obtain ⟨rfl, q6⟩ := E6
    rw [chr8_lo8 hr.1 (k2 i hi).2] at g6
    exact ⟨T6, some (.int (f i)), _, _, _, X6, rfl, rfl, rfl, (fun h => by cases h), ⟨rfl, q6.trans hh4⟩, fun fs hl => Steps.trans g6 (X6.ireturnOut hexec hret (narrow_ch hr.1 hr.2) (Or.inr (Or.inr (Or.inr (Or.inl rfl)))) (hb hbytes d15) hl)⟩
  · exact absurd k0 (by decide)
theorem pays {l : Launch} {R : Room} {p : Program} {e : Env} {below : List Frame} {s : State} {sargs : Array Value} {len W : Nat} (x t : Addr) (V : Cell) (n : Nat) (f : Nat → Int32) (z : Int32) (fm : Value) (i : Nat) (htab : tab.before sargs s = true) (hfr : 4 ≤ R.frames) (hlo : W + 53 ≤ R.locals) :
    Back l R p e below s sargs yN len W (fun A₁ a₁ => A₁.cells + 0 ≤ R.cells ∧ A₁.slots + 0 ≤ R.slots ∧ P x t V n f z fm i a₁ A₁.U) (fun A₁ _ v₁ B₁ => E f i v₁ A₁.U B₁.U ∧ B₁.locs = A₁.locs ++ [] ∧ B₁.cells = A₁.cells + 0 ∧ B₁.slots = A₁.slots + 0) :=
  (law l x t V n f z fm i).pays htab hfr (by omega)
end ChN
end StrChars
namespace StrChars.Road
open Jvm Sem ClassFile Op Lib Jvm.Stand Jvm.Free Jvm.Free.XT
open Jvm.Lib.Cold (StaticIs)
/-- the words of String.charAt(int), the Latin-1 road alone -/
abbrev wordsChN : List Jvm.Cond := [.code ChN.yN ChN.yB 2 (some .char), .initialized ST, .fieldLink ST 9 ST "value" "[B", .fieldLink ST 38 ST "COMPACT_STRINGS" "Z", .fieldLink ST 15 ST "coder" "B", .code IsL.yN IsL.yB 1 (some .boolean), .methodLink ST 492 IsL.yN, .declares IsL.yN, .selects ST IsL.yN IsL.yN, .instanceMethod IsL.yN,
  .methodLink ST 495 LChA.yN, .static LChA.yN, .code LChA.yN LChA.yB 2 (some .char), .initialized "java/lang/StringLatin1", .methodLink "java/lang/StringLatin1" 9 JO.Str_checkIndex.yN, .static JO.Str_checkIndex.yN, .code JO.Str_checkIndex.yN JO.Str_checkIndex.yB 2 none,
  .fieldLink ST 1053 "jdk/internal/util/Preconditions" "SIOOBE_FORMATTER" "Ljava/util/function/BiFunction;", .methodLink ST 1059 JC.PreCheck.yN, .static JC.PreCheck.yN, .code JC.PreCheck.yN JC.PreCheck.yB 3 (some .int), .initialized "jdk/internal/util/Preconditions"]
theorem tabChN_of {a : Array Value} {s : State} (h : ∀ w ∈ wordsChN, w.before a s = true) : ChN.tab.before a s = true := by
  have hp : JC.PreCheck.tab.before a s = true := unparts (wk h (.code JC.PreCheck.yN JC.PreCheck.yB 3 (some .int))) (wks h (.initialized JC.PreCheck.yN.cls :: JC.PreCheck.site))
  have qk := consq hp h
  have hk : JO.Str_checkIndex.tab.before a s = true := unparts (wk qk (.code JO.Str_checkIndex.yN JO.Str_checkIndex.yB 2 none)) (wks qk (.initialized JO.Str_checkIndex.yN.cls :: JO.Str_checkIndex.site))
  have ql := consq hk h
  have hl : LChA.tab.before a s = true := unparts (wk ql (.code LChA.yN LChA.yB 2 (some .char))) (wks ql (.initialized LChA.yN.cls :: LChA.site))
  have hi : IsL.tab.before a s = true := unparts (wk h (.code IsL.yN IsL.yB 1 (some .boolean))) (wks h (.initialized IsL.yN.cls :: IsL.site))
  have q := consq hi (consq hl h)
  exact unparts (wk q (.code ChN.yN ChN.yB 2 (some .char))) (wks q (.initialized ChN.yN.cls :: ChN.site))
theorem movedChN {Z s : State} {a0 args : Array Value} (hZ : Z.Warmed39 s.vm) (hw : ∀ d ∈ wordsChN, d.before a0 Z = true) : ∀ d ∈ wordsChN, d.before args s = true := fun d hd => by
  have t : ∀ d ∈ wordsChN, (d.onTables && d.keepsFace) = true := by decide +kernel
  exact RoadKit.mv hZ (hw d hd) (t d hd)
/-- **charAt(i) OF A LATIN-1 STRING**, i < n: the char -/
theorem chN {p : Program} {l : Launch} {e : Env} {R : Room} {s : State} {args : Array Value} {below : List Frame} {len W : Nat} {Z : State} {a0 : Array Value} {h : Heap} (hZ : Z.Warmed39 s.vm) (hw : ∀ d ∈ wordsChN, d.before a0 Z = true) {kI : Nat} (wi : (Jvm.Cond.instantiable ST kI).before a0 Z = true)
    {x t : Addr} {kb : ClassId} {cs : List Int32} {N2 z : Int32} {vs : List Value} {fm : Value} {i : Nat} {j : Int32} (E : RoadKit.Exa Z h x ST) (V : RoadKit.Fld Z h x ST "value" "[B" (.ref t)) (C : RoadKit.Fld Z h x ST "coder" "B" (.int 0)) (K : RoadKit.Arv Z h t kb .byte N2 vs (.int 0)) (hc : CodA cs 0 N2 vs) (hb : ∀ c ∈ cs, ¬ c < 0 ∧ ¬ (65535 : Int32) < c)
    (S : RoadKit.Sta Z h ST "COMPACT_STRINGS" "Z" (.int z)) (hz : ¬ z = 0) (F : RoadKit.Sta Z h "jdk/internal/util/Preconditions" "SIOOBE_FORMATTER" "Ljava/util/function/BiFunction;" fm) (rf : fm.isRef = true) (l2 : cs.length ≤ 4000) (hi : i < cs.length) (hj : j = Int32.ofNat i) (hfr : 4 ≤ R.frames) (hlo : W + 53 ≤ R.locals) :
    Back l R p e below s args (⟨"java/lang/String", "charAt", "(I)C"⟩ : MethodName) len W (fun P a => a = #[.ref x, .int j] ∧ P.U.heap = h ∧ P.cells + 0 ≤ R.cells ∧ P.slots + 0 ≤ R.slots)
      (fun P _ v B => ∃ L, (v = some (.int (cs.getD i 0)) ∧ L = [] ∧ B.U.heap = h) ∧ B.locs = P.locs ++ L ∧ B.cells = P.cells + 0 ∧ B.slots = P.slots + 0) := by
  subst hj
  intro m meth c P g ig mk a X hg hsize hdg hW hn hp'
  obtain ⟨rfl, rfl, r1, r2⟩ := hp'
  have al : Z.vm.Alike P.U.vm := hZ.alike.trans X.warmed.alike
  obtain ⟨A, hx⟩ := txt_of wi al E V C K hc hb l2
  obtain ⟨v, B, X', ⟨⟨hv, hh⟩, hl, hk, hs⟩, st⟩ := ChN.pays x t A cs.length (fun j => cs.getD j 0) z fm i (tabChN_of (movedChN hZ hw)) hfr hlo m meth c P g ig mk _ X hg hsize hdg hW hn ⟨r1, r2, rfl, hx, hi, sta_is al S, hz, sta_is al F, rf⟩
  exact ⟨v, B, X', ⟨[], ⟨hv, rfl, hh⟩, hl, hk, hs⟩, st⟩
/-- what backV says of its String, as the contracts of this text ask it: cs's low bytes, coder 0 -/
theorem codOf {cs : List Int32} {n : Nat} (hn : cs.length = n) (hb : ∀ c ∈ cs, ¬ 255 < c) : CodA cs 0 (Int32.ofNat n) ((cs.map lo8).map Value.int) := Or.inl ⟨rfl, by rw [hn], by simp [List.map_map, Function.comp_def], hb⟩
end StrChars.Road
end Jvm.Pilot.@@N@@
namespace Jvm.Pilot.@@N@@
open Jvm Jvm.ClassFile Sem Op Lib Jvm.Free Jvm.Stand Jvm.LawKit Jvm.RoadKit Bundle Jvm.OwnK Jvm.Pilot.@@N@@.Jvm.D
def EL1 : List (String × Nat) := [("java/lang/String", 7), ("java/lang/StringLatin1", 151)]
def Env1 (Z : State) (a0 : Array Value) : Prop := (∀ d ∈ tables_1, d.before a0 Z = true) ∧ EW Z a0 EL1 ∧ (∃ z : Int32, Sta Z Z.heap "java/lang/String" "COMPACT_STRINGS" "Z" (.int z) ∧ ¬ z = 0) ∧ (∃ fm : Value, Sta Z Z.heap "jdk/internal/util/Preconditions" "SIOOBE_FORMATTER" "Ljava/util/function/BiFunction;" fm ∧ fm.isRef = true)
theorem wd {Z : State} {a0 : Array Value} (G : Env1 Z a0) (i : Nat) {d : Jvm.Cond} (h : tables_1[i]? = some d) : d.before a0 Z = true := G.1 d (List.mem_of_getElem? h)
theorem wS_in : ∀ a ∈ Bundle.stringAtoms, a ∈ tables_1 := by decide +kernel
theorem wS {Z : State} {a0 : Array Value} (G : Env1 Z a0) : ∀ a ∈ Bundle.stringAtoms, a.before a0 Z = true := fun a ha => G.1 a (wS_in a ha)
abbrev STN : String := "java/lang/String"
/-- a String that spells the chars cs -/
def Str (Z : State) (h : Heap) (a : Addr) (cs : List Int32) : Prop := ∃ (b : Addr) (kb : ClassId) (cd N2 : Int32) (vs : List Value), Exa Z h a STN ∧ Fld Z h a STN "value" "[B" (.ref b) ∧ Fld Z h a STN "coder" "B" (.int cd) ∧ Arv Z h b kb .byte N2 vs (.int 0) ∧ StrChars.Road.CodA cs cd N2 vs ∧ (∀ c ∈ cs, ¬ c < 0 ∧ ¬ (65535 : Int32) < c) ∧ cs.length ≤ 4000
theorem Str.ext {Z : State} {h h' : Heap} {a : Addr} {cs : List Int32} (F : Str Z h a cs) (E : Ext h h') : Str Z h' a cs := by
  obtain ⟨b, kb, cd, N2, vs, f1, f2, f3, f4, r⟩ := F
  exact ⟨b, kb, cd, N2, vs, f1.ext E, f2.ext E, f3.ext E, f4.ext E, r⟩
theorem Str.exa {Z : State} {h : Heap} {a : Addr} {cs : List Int32} (F : Str Z h a cs) : Exa Z h a STN := by obtain ⟨b, kb, cd, N2, vs, f1, -⟩ := F; exact f1
theorem Str.lt {Z : State} {h : Heap} {a : Addr} {cs : List Int32} (F : Str Z h a cs) : a < h.size := F.exa.lt
theorem le16 {cs : List Int32} (h : ∀ c ∈ cs, ¬ c < 0 ∧ ¬ (255 : Int32) < c) : ∀ c ∈ cs, ¬ c < 0 ∧ ¬ (65535 : Int32) < c := fun c hc => ⟨(h c hc).1, fun q => (h c hc).2 (Int32.lt_trans (by decide) q)⟩
theorem and255 (x : Int32) : ¬ (x &&& 255) < 0 ∧ ¬ (255 : Int32) < (x &&& 255) := by
  have h := c_and x 255 (by decide)
  have e : (255 : Int32).toInt = 255 := by decide
  have e0 : (0 : Int32).toInt = 0 := by decide
  rw [Int32.lt_iff_toInt_lt, Int32.lt_iff_toInt_lt, e, e0]; omega
theorem wBackV : ∀ d ∈ StrChars.Road.words, d ∈ tables_1 := by decide +kernel
theorem pays_str {l : Launch} {R : Room} {Z : State} {a0 : Array Value} {sf : List Addr} {W : Nat} (G : Env1 Z a0) {x b : Addr} {kc : ClassId} (cs : List Int32) {d v0 c0 : Value} {N : Int32} (n : Nat) (h : Heap) (E : Exa Z h x STN) (V : Fld Z h x STN "value" "[B" v0) (C : Fld Z h x STN "coder" "B" c0) (K : Arv Z h b kc .char N (cs.map Value.int) d)
    (hn : cs.length = n) (hN : N = Int32.ofNat n) (l0 : 0 < n) (l2 : n ≤ 4000) (hp : ∀ c ∈ cs, ¬ c < 0 ∧ ¬ (255 : Int32) < c) (hsf : x ∈ sf) (hfr : 4 ≤ R.frames) (hlo : W + 65 ≤ R.locals) :
    Pays l R Z a0 EL1 sf (⟨"java/lang/String", "<init>", "([C)V"⟩ : MethodName) 3 W #[.ref x, .ref b] h 1 n (fun v h' => v = none ∧ Keep h h' [x] ∧ Str Z h' x cs) := by
  obtain ⟨z, hS, hz⟩ := G.2.2.1
  refine Pays.of_back (ws := [x]) (fun p e below s args hZ hE hsz => StrChars.Road.backV (n0 := Z.heap.size) (bs := cs.map (fun c => c.toInt8.toInt32)) hZ (fun d hd => G.1 d (wBackV d hd)) (kI := 4) (wd G 7 rfl) (hsz x hsf) hE.1 E V C K (hS.ext hE) hz hn hN l0 l2 hp rfl hfr hlo) (allS hsf all0) ?_
  intro v h' L hE q
  obtain ⟨q1, q2, q3, q4, q5, t, kb, -, -, -, q6, q7⟩ := q
  refine ⟨q2, q3, q1, q3, t, kb, 0, N, _, q4, q6, q5, q7, ?_, le16 hp, by omega⟩
  subst hN
  exact StrChars.Road.codOf hn (fun c hc => (hp c hc).2)
theorem wLen : ∀ d ∈ StrChars.Road.wordsLen, d ∈ tables_1 := by decide +kernel
theorem pays_len {l : Launch} {R : Room} {Z : State} {a0 : Array Value} {sf : List Addr} {W : Nat} (G : Env1 Z a0) {x : Addr} {cs : List Int32} (h : Heap) (F : Str Z h x cs) (hfr : 2 ≤ R.frames) (hlo : W + 25 ≤ R.locals) :
    Pays l R Z a0 EL1 sf (⟨"java/lang/String", "length", "()I"⟩ : MethodName) 3 W #[.ref x] h 0 0 (fun v h' => v = some (.int (Int32.ofNat cs.length)) ∧ h = h') := by
  obtain ⟨z, hS, hz⟩ := G.2.2.1
  obtain ⟨b, kb, cd, N2, vs, f1, f2, f3, f4, f5, f6, f7⟩ := F
  refine Pays.of_back (ws := []) (QL := fun v h' L => v = some (.int (Int32.ofNat cs.length)) ∧ L = [] ∧ h' = h) (fun p e below s args hZ hE hsz => StrChars.Road.lenW hZ (fun d hd => G.1 d (wLen d hd)) (kI := 4) (wd G 7 rfl) f1 f2 f3 f4 f5 f6 (hS.ext hE) hz f7 hfr hlo) all0 ?_
  intro v h' L hE q
  obtain ⟨q1, q2, q3⟩ := q
  subst q2 q3
  exact ⟨Fr.nil _, Keep.refl _ _, q1, rfl⟩
theorem wChr : ∀ d ∈ StrChars.Road.wordsChN, d ∈ tables_1 := by decide +kernel
theorem Str.cd0 {cs : List Int32} {cd N2 : Int32} {vs : List Value} (h : StrChars.Road.CodA cs cd N2 vs) (hl : ∀ c ∈ cs, ¬ (255 : Int32) < c) : cd = 0 := by
  rcases h with h | ⟨-, -, -, c, hc, q⟩
  · exact h.1
  · exact absurd q (hl c hc)
theorem pays_chr {l : Launch} {R : Room} {Z : State} {a0 : Array Value} {sf : List Addr} {W : Nat} (G : Env1 Z a0) {x : Addr} {cs : List Int32} (h : Heap) (i : Nat) {j : Int32} (F : Str Z h x cs) (hl : ∀ c ∈ cs, ¬ (255 : Int32) < c) (hi : i < cs.length) (hj : j = Int32.ofNat i) (hfr : 4 ≤ R.frames) (hlo : W + 53 ≤ R.locals) :
    Pays l R Z a0 EL1 sf (⟨"java/lang/String", "charAt", "(I)C"⟩ : MethodName) 3 W #[.ref x, .int j] h 0 0 (fun v h' => v = some (.int (cs.getD i 0)) ∧ h = h') := by
  obtain ⟨z, hS, hz⟩ := G.2.2.1
  obtain ⟨fm, hF, rf⟩ := G.2.2.2
  obtain ⟨b, kb, cd, N2, vs, f1, f2, f3, f4, f5, f6, f7⟩ := F
  obtain rfl : cd = 0 := Str.cd0 f5 hl
  refine Pays.of_back (ws := []) (QL := fun v h' L => v = some (.int (cs.getD i 0)) ∧ L = [] ∧ h' = h) (fun p e below s args hZ hE hsz => StrChars.Road.chN hZ (fun d hd => G.1 d (wChr d hd)) (kI := 4) (wd G 7 rfl) f1 f2 f3 f4 f5 f6 (hS.ext hE) hz (hF.ext hE) rf f7 hi hj hfr hlo) all0 ?_
  intro v h' L hE q
  obtain ⟨q1, q2, q3⟩ := q
  subst q2 q3
  exact ⟨Fr.nil _, Keep.refl _ _, q1, rfl⟩
theorem narrow_obj (C : String) (v : Value) : narrow (.object C) v = v := by cases v <;> rfl
theorem fits_obj {C : String} {v : Value} (h : v.isRef = true) : fits (.object C) v = true := by cases v <;> simp_all [Value.isRef, fits]
theorem narrow_bool {r : Int32} (h : r = 0 ∨ r = 1) : narrow .boolean (.int r) = .int r := by rcases h with rfl | rfl <;> rfl
theorem fits_bool {r : Int32} (h : r = 0 ∨ r = 1) : fits .boolean (.int r) = true := by rcases h with rfl | rfl <;> rfl
theorem and3 (x : Int32) : (x &&& 3) = 0 ∨ (x &&& 3) = 1 ∨ (x &&& 3) = 2 ∨ (x &&& 3) = 3 := by
  have h := c_and x 3 (by decide)
  have e : (3 : Int32).toInt = 3 := by decide
  rw [e] at h
  obtain ⟨i, hi, q⟩ := toInt_cases (n := 4) h.1 (by omega) (by decide)
  rw [q]
  match i, hi with
  | 0, _ => decide
  | 1, _ => decide
  | 2, _ => decide
  | 3, _ => decide
theorem and1 (x : Int32) : (x &&& 1) = 0 ∨ (x &&& 1) = 1 := and_one x
theorem mask31 (x : Int32) : 0 ≤ (x &&& 2147483647).toInt := (c_and x 2147483647 (by decide)).1
theorem rem3 (x : Int32) : ((x &&& 2147483647) % 3) = 0 ∨ ((x &&& 2147483647) % 3) = 1 ∨ ((x &&& 2147483647) % 3) = 2 := by
  have h := (c_iremV (x &&& 2147483647) 3).1 (mask31 x) (by decide)
  have e : (3 : Int32).toInt = 3 := by decide
  rw [e] at h
  obtain ⟨i, hi, q⟩ := toInt_cases (n := 3) h.1 (by omega) (by decide)
  rw [q]
  match i, hi with
  | 0, _ => decide
  | 1, _ => decide
  | 2, _ => decide
theorem nar255 {u : Int32} (h : ¬ u < 0 ∧ ¬ (255 : Int32) < u) : nar .char u = u := by
  have q := c_i2c u
  refine Int32.toInt_inj.mp ?_
  rw [Int32.lt_iff_toInt_lt, Int32.lt_iff_toInt_lt] at h
  have e : (255 : Int32).toInt = 255 := by decide
  have e0 : (0 : Int32).toInt = 0 := by decide
  rw [e, e0] at h
  show u.toUInt32.toUInt16.toUInt32.toInt32.toInt = u.toInt
  omega
theorem rem5 (x : Int32) : ((x &&& 2147483647) % 5) = 0 ∨ ((x &&& 2147483647) % 5) = 1 ∨ ((x &&& 2147483647) % 5) = 2 ∨ ((x &&& 2147483647) % 5) = 3 ∨ ((x &&& 2147483647) % 5) = 4 := by
  have h := (c_iremV (x &&& 2147483647) 5).1 (mask31 x) (by decide)
  have e : (5 : Int32).toInt = 5 := by decide
  rw [e] at h
  obtain ⟨i, hi, q⟩ := toInt_cases (n := 5) h.1 (by omega) (by decide)
  rw [q]
  match i, hi with
  | 0, _ => decide
  | 1, _ => decide
  | 2, _ => decide
  | 3, _ => decide
  | 4, _ => decide
theorem d3_0 : decode jdk_42_method_149_code 0 = .ok (.aload_n 0, 1) := by decide +kernel
theorem d3_1 : decode jdk_42_method_149_code 1 = .ok (.invokespecial 1, 3) := by decide +kernel
theorem d3_4 : decode jdk_42_method_149_code 4 = .ok (.iload_n 3, 1) := by decide +kernel
theorem d3_5 : decode jdk_42_method_149_code 5 = .ok (.ifCond .ne 22, 3) := by decide +kernel
theorem d3_8 : decode jdk_42_method_149_code 8 = .ok (.aload_n 0, 1) := by decide +kernel
theorem d3_9 : decode jdk_42_method_149_code 9 = .ok (.ldc 7, 2) := by decide +kernel
theorem d3_11 : decode jdk_42_method_149_code 11 = .ok (.getfield 9, 3) := by decide +kernel
theorem d3_14 : decode jdk_42_method_149_code 14 = .ok (.putfield 9, 3) := by decide +kernel
theorem d3_17 : decode jdk_42_method_149_code 17 = .ok (.aload_n 0, 1) := by decide +kernel
theorem d3_18 : decode jdk_42_method_149_code 18 = .ok (.ldc 7, 2) := by decide +kernel
theorem d3_20 : decode jdk_42_method_149_code 20 = .ok (.getfield 15, 3) := by decide +kernel
theorem d3_23 : decode jdk_42_method_149_code 23 = .ok (.putfield 15, 3) := by decide +kernel
theorem d3_26 : decode jdk_42_method_149_code 26 = .ok (.return_, 1) := by decide +kernel
theorem pn_java_lang_String : plainName "java/lang/String" = true := by first | (simp [plainName, overriddenIn]; done) | decide +kernel
theorem ef_ct_si4e (x : Addr) (b : Addr) (v0 : Value) (c0 : Value) (m : MethodId) : entryFrame m #[(.ref x), (.ref b), (.int (0 : Int32)), (.int (0 : Int32)), Value.null] 6 = mkF m 0 #[.val (.ref x), .val (.ref b), .val (.int (0 : Int32)), .val (.int (0 : Int32)), .val Value.null, .unset] [] := by first | (simp [entryFrame, mkF, argsToLocals, Value.category]; done) | rfl
set_option maxRecDepth 65536 in
set_option maxHeartbeats 4000000 in
theorem ct_si4e {l : Launch} {Z : State} {a0 : Array Value} (G : Env1 Z a0) (x : Addr) (b : Addr) (v0 : Value) (c0 : Value) (h0 : Heap) (A : Exa Z h0 x STN) (F0 : Fld Z h0 x STN "value" "[B" v0) (F1 : Fld Z h0 x STN "coder" "B" c0) :
    Ct l Z EL1 [x] [] (⟨"java/lang/String", "<init>", "([CIILjava/lang/Void;)V"⟩ : MethodName) jdk_42_method_149_code 6 none ({ frames := 1, cells := 4, slots := 8, locals := 12 } : Room) #[(.ref x), (.ref b), (.int (0 : Int32)), (.int (0 : Int32)), Value.null] h0 (fun v h => v = none ∧ Keep h0 h [x] ∧ Str Z h x []) := by
  refine Ct.of_seg (a0 := a0) (plainFor_of_name pn_java_lang_String) G.2.1 (ef_ct_si4e x b v0 c0) ?_
  refine Seg.aloadN d3_0 rfl rfl (pc' := 1) rfl ?_
  refine Seg.initO (wd G 16 rfl) (wd G 17 rfl) (wd G 18 rfl) rfl d3_1 (pc' := 4) rfl (by decide) (W := 0) (Nat.le_of_eq rfl) (by decide) ?_
  refine Seg.iloadN d3_4 rfl (pc' := 5) rfl ?_
  refine Seg.ifN d3_5 (by decide) (pc' := 8) rfl ?_
  refine Seg.aloadN d3_8 rfl rfl (pc' := 9) rfl ?_
  refine Seg.ldcS (text := "") (vs := []) (z := 0) (nn := 0) (wd G 19 rfl) (wS G) (by decide) (by decide +kernel) (by decide) (by decide) d3_9 (pc' := 11) rfl (by decide) (by decide) (k' := 2) (n' := 4) rfl rfl (by decide) (by decide) ?_
  intro a_1 h_10 b_2 kb_3 E_4 A_5 F_6 F_7 A_8 ne_9
  refine Seg.getF (host := "") (Or.inl (wd G 25 rfl)) Via.refl F_7 d3_11 (pc' := 14) rfl ?_
  have F_11 := F0.ext E_4
  have F_12 := A.ext E_4
  refine Seg.putF (host := "") (ty := (.array .byte)) (v' := (.ref b_2)) (wd G 25 rfl) Via.refl F_11 F_12 (Or.inr ⟨(wd G 21 rfl), rfl, rfl⟩) (wd G 7 rfl) (by decide) rfl rfl (List.mem_of_getElem? (i := 0) rfl) d3_14 (pc' := 17) rfl ?_
  intro h_15 W_13 F_14
  refine Seg.aloadN d3_17 rfl rfl (pc' := 18) rfl ?_
  refine Seg.ldcS (text := "") (vs := []) (z := 0) (nn := 0) (wd G 19 rfl) (wS G) (by decide) (by decide +kernel) (by decide) (by decide) d3_18 (pc' := 20) rfl (by decide) (by decide) (k' := 4) (n' := 8) rfl rfl (by decide) (by decide) ?_
  intro a_16 h_25 b_17 kb_18 E_19 A_20 F_21 F_22 A_23 ne_24
  refine Seg.getF (host := "") (Or.inl (wd G 26 rfl)) Via.refl F_21 d3_20 (pc' := 23) rfl ?_
  have F_26 := (((F1.ext E_4).other W_13 (Or.inr (slot_ne (Or.inr (wd G 22 rfl)) (Or.inr (wd G 21 rfl)) (by decide) (t := .byte) (t' := (.array .byte)) (by decide) (by decide)))).ext E_19)
  have F_27 := ((F_12.wr W_13).ext E_19)
  refine Seg.putF (host := "") (ty := .byte) (v' := (.int (0 : Int32))) (wd G 26 rfl) Via.refl F_26 F_27 (Or.inr ⟨(wd G 22 rfl), rfl, rfl⟩) (wd G 7 rfl) (by decide) rfl rfl (List.mem_of_getElem? (i := 0) rfl) d3_23 (pc' := 26) rfl ?_
  intro h_30 W_28 F_29
  have F_31 := (F_27.wr W_28)
  have F_32 := ((F_14.ext E_19).other W_28 (Or.inr (slot_ne (Or.inr (wd G 21 rfl)) (Or.inr (wd G 22 rfl)) (by decide) (t := (.array .byte)) (t' := .byte) (by decide) (by decide))))
  have F_33 := (((A_8.keep (Keep.of_wr W_13) (ninS (ne_9 x (List.mem_of_getElem? (i := 0) rfl)).2.symm nin0)).ext E_19).keep (Keep.of_wr W_28) (ninS (ne_9 x (List.mem_of_getElem? (i := 0) rfl)).2.symm nin0))
  exact Seg.ret0 rfl d3_26 (by decide) (by decide) ⟨rfl, (((((Keep.refl h0 [x]).ext E_4).wr W_13 (Or.inl (List.mem_of_getElem? (i := 0) rfl))).ext E_19).wr W_28 (Or.inl (List.mem_of_getElem? (i := 0) rfl))), b_2, kb_3, 0, 0, [], F_31, F_32, F_29, F_33, Or.inl ⟨rfl, rfl, rfl, (fun c q => nomatch q)⟩, (fun c q => nomatch q), (by decide)⟩
theorem d2_0 : decode jdk_42_method_3_code 0 = .ok (.aload_n 0, 1) := by decide +kernel
theorem d2_1 : decode jdk_42_method_3_code 1 = .ok (.aload_n 1, 1) := by decide +kernel
theorem d2_2 : decode jdk_42_method_3_code 2 = .ok (.iconst 0, 1) := by decide +kernel
theorem d2_3 : decode jdk_42_method_3_code 3 = .ok (.aload_n 1, 1) := by decide +kernel
theorem d2_4 : decode jdk_42_method_3_code 4 = .ok (.arraylength, 1) := by decide +kernel
theorem d2_5 : decode jdk_42_method_3_code 5 = .ok (.aconst_null, 1) := by decide +kernel
theorem d2_6 : decode jdk_42_method_3_code 6 = .ok (.invokespecial 27, 3) := by decide +kernel
theorem pd_0 : parseMethodDescriptor "([CIILjava/lang/Void;)V" = some ⟨[(.array .char), .int, .int, (.object "java/lang/Void")], none⟩ := by decide +kernel
theorem d2_9 : decode jdk_42_method_3_code 9 = .ok (.return_, 1) := by decide +kernel
theorem ef_ct_sie (x : Addr) (b : Addr) (v0 : Value) (c0 : Value) (kc : ClassId) (d : Value) (m : MethodId) : entryFrame m #[(.ref x), (.ref b)] 2 = mkF m 0 #[.val (.ref x), .val (.ref b)] [] := by first | (simp [entryFrame, mkF, argsToLocals, Value.category]; done) | rfl
set_option maxRecDepth 65536 in
set_option maxHeartbeats 4000000 in
theorem ct_sie {l : Launch} {Z : State} {a0 : Array Value} (G : Env1 Z a0) (x : Addr) (b : Addr) (v0 : Value) (c0 : Value) (kc : ClassId) (d : Value) (h0 : Heap) (A : Exa Z h0 x STN) (F0 : Fld Z h0 x STN "value" "[B" v0) (F1 : Fld Z h0 x STN "coder" "B" c0) (Ab : Arv Z h0 b kc .char 0 [] d) :
    Ct l Z EL1 [x] [] (⟨"java/lang/String", "<init>", "([C)V"⟩ : MethodName) jdk_42_method_3_code 2 none ({ frames := 2, cells := 4, slots := 8, locals := 29 } : Room) #[(.ref x), (.ref b)] h0 (fun v h => v = none ∧ Keep h0 h [x] ∧ Str Z h x []) := by
  refine Ct.of_seg (a0 := a0) (plainFor_of_name pn_java_lang_String) G.2.1 (ef_ct_sie x b v0 c0 kc d) ?_
  refine Seg.aloadN d2_0 rfl rfl (pc' := 1) rfl ?_
  refine Seg.aloadN d2_1 rfl rfl (pc' := 2) rfl ?_
  refine Seg.iconst (v := 0) d2_2 (by decide) (pc' := 3) rfl ?_
  refine Seg.aloadN d2_3 rfl rfl (pc' := 4) rfl ?_
  refine Seg.alen Ab d2_4 (pc' := 5) rfl ?_
  refine Seg.anull d2_5 (pc' := 6) rfl ?_
  refine Seg.callN (y' := (⟨"java/lang/String", "<init>", "([CIILjava/lang/Void;)V"⟩ : MethodName)) (a := x) rfl (wd G 12 rfl) (wd G 13 rfl) (wd G 15 rfl) ⟨by decide, by decide⟩ (Pays.of_ct (W := 0) (ct_si4e G x b v0 c0 h0 A F0 F1) (allS (List.mem_of_getElem? (i := 0) rfl) all0) (wd G 15 rfl) (wd G 8 rfl) (by decide) (by decide) rfl rfl) (argsL := [(.ref b), (.int (0 : Int32)), (.int (0 : Int32)), Value.null]) (rest := []) rfl (lenOf pd_0 rfl) rfl (Nat.le_of_eq rfl) rfl d2_6 (pc' := 9) rfl (k' := 4) (n' := 8) rfl rfl (by decide) (by decide) ?_
  intro v_1 h_4 sz_2 q_3
  obtain ⟨rfl, K, F⟩ := q_3
  exact Seg.ret0 rfl d2_9 (by decide) (by decide) ⟨rfl, K, F⟩
theorem d16_0 : decode jdk_42_method_154_code 0 = .ok (.getstatic 38, 3) := by decide +kernel
theorem d16_3 : decode jdk_42_method_154_code 3 = .ok (.ifCond .eq 14, 3) := by decide +kernel
theorem d16_6 : decode jdk_42_method_154_code 6 = .ok (.aload_n 0, 1) := by decide +kernel
theorem d16_7 : decode jdk_42_method_154_code 7 = .ok (.getfield 15, 3) := by decide +kernel
theorem d16_10 : decode jdk_42_method_154_code 10 = .ok (.ifCond .ne 7, 3) := by decide +kernel
theorem d16_13 : decode jdk_42_method_154_code 13 = .ok (.iconst 1, 1) := by decide +kernel
theorem d16_14 : decode jdk_42_method_154_code 14 = .ok (.goto 4, 3) := by decide +kernel
theorem d16_18 : decode jdk_42_method_154_code 18 = .ok (.ireturn, 1) := by decide +kernel
theorem ef_ct_isL (a : Addr) (m : MethodId) : entryFrame m #[(.ref a)] 1 = mkF m 0 #[.val (.ref a)] [] := by first | (simp [entryFrame, mkF, argsToLocals, Value.category]; done) | rfl
set_option maxRecDepth 65536 in
set_option maxHeartbeats 4000000 in
theorem ct_isL {l : Launch} {Z : State} {a0 : Array Value} (G : Env1 Z a0) (a : Addr) (h0 : Heap) (F : Fld Z h0 a STN "coder" "B" (.int 0)) :
    Ct l Z EL1 [] [] (⟨"java/lang/String", "isLatin1", "()Z"⟩ : MethodName) jdk_42_method_154_code 1 (some .boolean) ({ frames := 0, cells := 0, slots := 0, locals := 0 } : Room) #[(.ref a)] h0 (fun v h => v = some (.int 1) ∧ h0 = h) := by
  refine Ct.of_seg (a0 := a0) (plainFor_of_name pn_java_lang_String) G.2.1 (ef_ct_isL a) ?_
  obtain ⟨zc, Sc, hz⟩ := G.2.2.1
  refine Seg.getS (wd G 41 rfl) Via.refl Sc d16_0 (pc' := 3) rfl ?_
  refine Seg.ifN d16_3 (XT.i0_eq_f hz) (pc' := 6) rfl ?_
  refine Seg.aloadN d16_6 rfl rfl (pc' := 7) rfl ?_
  refine Seg.getF (host := "") (Or.inl (wd G 26 rfl)) Via.refl F d16_7 (pc' := 10) rfl ?_
  refine Seg.ifN d16_10 (by decide) (pc' := 13) rfl ?_
  refine Seg.iconst (v := 1) d16_13 (by decide) (pc' := 14) rfl ?_
  refine Seg.goto (pc' := 18) d16_14 (by decide) (by decide) ?_
  exact Seg.retN (t := .boolean) (w := (1 : Int32)) rfl (by decide) (by decide) d16_18 (by decide) (by decide) ⟨rfl, rfl⟩
theorem d25_0 : decode jdk_42_method_151_code 0 = .ok (.aload_n 0, 1) := by decide +kernel
theorem d25_1 : decode jdk_42_method_151_code 1 = .ok (.invokespecial 1, 3) := by decide +kernel
theorem d25_4 : decode jdk_42_method_151_code 4 = .ok (.aload_n 0, 1) := by decide +kernel
theorem d25_5 : decode jdk_42_method_151_code 5 = .ok (.aload_n 1, 1) := by decide +kernel
theorem d25_6 : decode jdk_42_method_151_code 6 = .ok (.putfield 9, 3) := by decide +kernel
theorem d25_9 : decode jdk_42_method_151_code 9 = .ok (.aload_n 0, 1) := by decide +kernel
theorem d25_10 : decode jdk_42_method_151_code 10 = .ok (.iload_n 2, 1) := by decide +kernel
theorem d25_11 : decode jdk_42_method_151_code 11 = .ok (.putfield 15, 3) := by decide +kernel
theorem d25_14 : decode jdk_42_method_151_code 14 = .ok (.return_, 1) := by decide +kernel
theorem ef_ct_sibb (x : Addr) (b : Addr) (v0 : Value) (c0 : Value) (m : MethodId) : entryFrame m #[(.ref x), (.ref b), (.int (0 : Int32))] 3 = mkF m 0 #[.val (.ref x), .val (.ref b), .val (.int (0 : Int32))] [] := by first | (simp [entryFrame, mkF, argsToLocals, Value.category]; done) | rfl
set_option maxRecDepth 65536 in
set_option maxHeartbeats 4000000 in
theorem ct_sibb {l : Launch} {Z : State} {a0 : Array Value} (G : Env1 Z a0) (x : Addr) (b : Addr) (v0 : Value) (c0 : Value) (h0 : Heap) (A : Exa Z h0 x STN) (F0 : Fld Z h0 x STN "value" "[B" v0) (F1 : Fld Z h0 x STN "coder" "B" c0) :
    Ct l Z EL1 [x] [] (⟨"java/lang/String", "<init>", "([BB)V"⟩ : MethodName) jdk_42_method_151_code 3 none ({ frames := 1, cells := 0, slots := 0, locals := 12 } : Room) #[(.ref x), (.ref b), (.int (0 : Int32))] h0 (fun v h => v = none ∧ Keep h0 h [x] ∧ Fld Z h x STN "value" "[B" (.ref b) ∧ Fld Z h x STN "coder" "B" (.int 0)) := by
  refine Ct.of_seg (a0 := a0) (plainFor_of_name pn_java_lang_String) G.2.1 (ef_ct_sibb x b v0 c0) ?_
  refine Seg.aloadN d25_0 rfl rfl (pc' := 1) rfl ?_
  refine Seg.initO (wd G 16 rfl) (wd G 17 rfl) (wd G 18 rfl) rfl d25_1 (pc' := 4) rfl (by decide) (W := 0) (Nat.le_of_eq rfl) (by decide) ?_
  refine Seg.aloadN d25_4 rfl rfl (pc' := 5) rfl ?_
  refine Seg.aloadN d25_5 rfl rfl (pc' := 6) rfl ?_
  refine Seg.putF (host := "") (ty := (.array .byte)) (v' := (.ref b)) (wd G 25 rfl) Via.refl F0 A (Or.inr ⟨(wd G 21 rfl), rfl, rfl⟩) (wd G 7 rfl) (by decide) rfl rfl (List.mem_of_getElem? (i := 0) rfl) d25_6 (pc' := 9) rfl ?_
  intro h_3 W_1 F_2
  refine Seg.aloadN d25_9 rfl rfl (pc' := 10) rfl ?_
  refine Seg.iloadN d25_10 rfl (pc' := 11) rfl ?_
  have F_4 := (F1.other W_1 (Or.inr (slot_ne (Or.inr (wd G 22 rfl)) (Or.inr (wd G 21 rfl)) (by decide) (t := .byte) (t' := (.array .byte)) (by decide) (by decide))))
  have F_5 := (A.wr W_1)
  refine Seg.putF (host := "") (ty := .byte) (v' := (.int (0 : Int32))) (wd G 26 rfl) Via.refl F_4 F_5 (Or.inr ⟨(wd G 22 rfl), rfl, rfl⟩) (wd G 7 rfl) (by decide) rfl rfl (List.mem_of_getElem? (i := 0) rfl) d25_11 (pc' := 14) rfl ?_
  intro h_8 W_6 F_7
  have F_9 := (F_2.other W_6 (Or.inr (slot_ne (Or.inr (wd G 21 rfl)) (Or.inr (wd G 22 rfl)) (by decide) (t := (.array .byte)) (t' := .byte) (by decide) (by decide))))
  exact Seg.ret0 rfl d25_14 (by decide) (by decide) ⟨rfl, (((Keep.refl h0 [x]).wr W_1 (Or.inl (List.mem_of_getElem? (i := 0) rfl))).wr W_6 (Or.inl (List.mem_of_getElem? (i := 0) rfl))), F_9, F_7⟩
theorem d10_0 : decode jdk_41_method_12_code 0 = .ok (.iload_n 0, 1) := by decide +kernel
theorem d10_1 : decode jdk_41_method_12_code 1 = .ok (.ifCond .lt 13, 3) := by decide +kernel
theorem d10_4 : decode jdk_41_method_12_code 4 = .ok (.iload_n 0, 1) := by decide +kernel
theorem d10_5 : decode jdk_41_method_12_code 5 = .ok (.iload_n 1, 1) := by decide +kernel
theorem d10_6 : decode jdk_41_method_12_code 6 = .ok (.if_icmp .gt 8, 3) := by decide +kernel
theorem d10_9 : decode jdk_41_method_12_code 9 = .ok (.iload_n 1, 1) := by decide +kernel
theorem d10_10 : decode jdk_41_method_12_code 10 = .ok (.iload_n 2, 1) := by decide +kernel
theorem d10_11 : decode jdk_41_method_12_code 11 = .ok (.if_icmp .le 11, 3) := by decide +kernel
theorem d10_22 : decode jdk_41_method_12_code 22 = .ok (.iload_n 0, 1) := by decide +kernel
theorem d10_23 : decode jdk_41_method_12_code 23 = .ok (.ireturn, 1) := by decide +kernel
theorem pn_jdk_internal_util_Preconditions : plainName "jdk/internal/util/Preconditions" = true := by first | (simp [plainName, overriddenIn]; done) | decide +kernel
theorem ef_ct_cft (e : Nat) (n : Nat) (fm : Value) (hfm : (fm).isRef = true) (m : MethodId) : entryFrame m #[(.int (0 : Int32)), (.int (Int32.ofNat e)), (.int (Int32.ofNat n)), fm] 4 = mkF m 0 #[.val (.int (0 : Int32)), .val (.int (Int32.ofNat e)), .val (.int (Int32.ofNat n)), .val fm] [] := by
  rcases ref_cases hfm with rfl | ⟨_, rfl⟩ <;> rfl
set_option maxRecDepth 65536 in
set_option maxHeartbeats 4000000 in
theorem ct_cft {l : Launch} {Z : State} {a0 : Array Value} (G : Env1 Z a0) (e : Nat) (n : Nat) (fm : Value) (h0 : Heap) (he : e ≤ n) (hn : n ≤ 4) (hfm : fm.isRef = true) :
    Ct l Z EL1 [] [] (⟨"jdk/internal/util/Preconditions", "checkFromToIndex", "(IIILjava/util/function/BiFunction;)I"⟩ : MethodName) jdk_41_method_12_code 4 (some .int) ({ frames := 0, cells := 0, slots := 0, locals := 0 } : Room) #[(.int (0 : Int32)), (.int (Int32.ofNat e)), (.int (Int32.ofNat n)), fm] h0 (fun v h => v = some (.int 0) ∧ h0 = h) := by
  refine Ct.of_seg (a0 := a0) (plainFor_of_name pn_jdk_internal_util_Preconditions) G.2.1 (ef_ct_cft e n fm hfm) ?_
  refine Seg.iloadN d10_0 rfl (pc' := 1) rfl ?_
  refine Seg.ifN d10_1 (by decide) (pc' := 4) rfl ?_
  refine Seg.iloadN d10_4 rfl (pc' := 5) rfl ?_
  refine Seg.iloadN d10_5 rfl (pc' := 6) rfl ?_
  refine Seg.icN d10_6 (XT.ii_gt_f (n32nn (by omega))) (pc' := 9) rfl ?_
  refine Seg.iloadN d10_9 rfl (pc' := 10) rfl ?_
  refine Seg.iloadN d10_10 rfl (pc' := 11) rfl ?_
  refine Seg.icY (pc' := 22) d10_11 (XT.ii_le_t (n32nlt (i := n) (n := e) he (by omega))) (by decide) (by decide) ?_
  refine Seg.iloadN d10_22 rfl (pc' := 23) rfl ?_
  exact Seg.retI rfl d10_23 (by decide) (by decide) ⟨rfl, rfl⟩
theorem d9_0 : decode jdk_42_method_158_code 0 = .ok (.iload_n 0, 1) := by decide +kernel
theorem d9_1 : decode jdk_42_method_158_code 1 = .ok (.iload_n 1, 1) := by decide +kernel
theorem d9_2 : decode jdk_42_method_158_code 2 = .ok (.iload_n 2, 1) := by decide +kernel
theorem d9_3 : decode jdk_42_method_158_code 3 = .ok (.getstatic 1053, 3) := by decide +kernel
theorem d9_6 : decode jdk_42_method_158_code 6 = .ok (.invokestatic 1062, 3) := by decide +kernel
theorem pd_1 : parseMethodDescriptor "(IIILjava/util/function/BiFunction;)I" = some ⟨[.int, .int, .int, (.object "java/util/function/BiFunction")], some .int⟩ := by decide +kernel
theorem d9_9 : decode jdk_42_method_158_code 9 = .ok (.pop, 1) := by decide +kernel
theorem d9_10 : decode jdk_42_method_158_code 10 = .ok (.return_, 1) := by decide +kernel
theorem ef_ct_cbe (e : Nat) (n : Nat) (m : MethodId) : entryFrame m #[(.int (0 : Int32)), (.int (Int32.ofNat e)), (.int (Int32.ofNat n))] 3 = mkF m 0 #[.val (.int (0 : Int32)), .val (.int (Int32.ofNat e)), .val (.int (Int32.ofNat n))] [] := by first | (simp [entryFrame, mkF, argsToLocals, Value.category]; done) | rfl
set_option maxRecDepth 65536 in
set_option maxHeartbeats 4000000 in
theorem ct_cbe {l : Launch} {Z : State} {a0 : Array Value} (G : Env1 Z a0) (e : Nat) (n : Nat) (h0 : Heap) (he : e ≤ n) (hn : n ≤ 4) :
    Ct l Z EL1 [] [] (⟨"java/lang/String", "checkBoundsBeginEnd", "(III)V"⟩ : MethodName) jdk_42_method_158_code 3 none ({ frames := 1, cells := 0, slots := 0, locals := 15 } : Room) #[(.int (0 : Int32)), (.int (Int32.ofNat e)), (.int (Int32.ofNat n))] h0 (fun v h => v = none ∧ h0 = h) := by
  refine Ct.of_seg (a0 := a0) (plainFor_of_name pn_java_lang_String) G.2.1 (ef_ct_cbe e n) ?_
  obtain ⟨fm, Sf, hfm⟩ := G.2.2.2
  refine Seg.iloadN d9_0 rfl (pc' := 1) rfl ?_
  refine Seg.iloadN d9_1 rfl (pc' := 2) rfl ?_
  refine Seg.iloadN d9_2 rfl (pc' := 3) rfl ?_
  refine Seg.getS (wd G 51 rfl) Via.refl Sf d9_3 (pc' := 6) rfl ?_
  refine Seg.callS (y' := (⟨"jdk/internal/util/Preconditions", "checkFromToIndex", "(IIILjava/util/function/BiFunction;)I"⟩ : MethodName)) (wd G 53 rfl) (wd G 54 rfl) (wd G 52 rfl) (wd G 55 rfl) ⟨by decide, by decide⟩ (Pays.of_ct (W := 0) (ct_cft G e n fm h0 he hn hfm) all0 (wd G 55 rfl) (wd G 52 rfl) (by decide) (by decide) rfl rfl) (argsL := [(.int (0 : Int32)), (.int (Int32.ofNat e)), (.int (Int32.ofNat n)), fm]) (rest := []) rfl (lenOf pd_1 rfl) rfl (Nat.le_of_eq rfl) rfl d9_6 (pc' := 9) rfl (k' := 0) (n' := 0) rfl rfl (by decide) (by decide) ?_
  intro v_1 h_4 sz_2 q_3
  obtain ⟨rfl, rfl⟩ := q_3
  refine Seg.pop d9_9 rfl (pc' := 10) rfl ?_
  exact Seg.ret0 rfl d9_10 (by decide) (by decide) ⟨rfl, rfl⟩
theorem d23_0 : decode jdk_65_method_131_code 0 = .ok (.iload_n 1, 1) := by decide +kernel
theorem d23_1 : decode jdk_65_method_131_code 1 = .ok (.iload_n 0, 1) := by decide +kernel
theorem d23_2 : decode jdk_65_method_131_code 2 = .ok (.if_icmp .ge 35, 3) := by decide +kernel
theorem d23_37 : decode jdk_65_method_131_code 37 = .ok (.return_, 1) := by decide +kernel
theorem pn_java_util_Arrays : plainName "java/util/Arrays" = true := by first | (simp [plainName, overriddenIn]; done) | decide +kernel
theorem ef_ct_cl (e : Nat) (m : MethodId) : entryFrame m #[(.int (0 : Int32)), (.int (Int32.ofNat e))] 2 = mkF m 0 #[.val (.int (0 : Int32)), .val (.int (Int32.ofNat e))] [] := by first | (simp [entryFrame, mkF, argsToLocals, Value.category]; done) | rfl
set_option maxRecDepth 65536 in
set_option maxHeartbeats 4000000 in
theorem ct_cl {l : Launch} {Z : State} {a0 : Array Value} (G : Env1 Z a0) (e : Nat) (h0 : Heap) (hn : e ≤ 4) :
    Ct l Z EL1 [] [] (⟨"java/util/Arrays", "checkLength", "(II)V"⟩ : MethodName) jdk_65_method_131_code 2 none ({ frames := 0, cells := 0, slots := 0, locals := 0 } : Room) #[(.int (0 : Int32)), (.int (Int32.ofNat e))] h0 (fun v h => v = none ∧ h0 = h) := by
  refine Ct.of_seg (a0 := a0) (plainFor_of_name pn_java_util_Arrays) G.2.1 (ef_ct_cl e) ?_
  refine Seg.iloadN d23_0 rfl (pc' := 1) rfl ?_
  refine Seg.iloadN d23_1 rfl (pc' := 2) rfl ?_
  refine Seg.icY (pc' := 37) d23_2 (XT.ii_ge_t (n32nn (by omega))) (by decide) (by decide) ?_
  exact Seg.ret0 rfl d23_37 (by decide) (by decide) ⟨rfl, rfl⟩
theorem d24_0 : decode jdk_29_method_69_code 0 = .ok (.iload_n 0, 1) := by decide +kernel
theorem d24_1 : decode jdk_29_method_69_code 1 = .ok (.iload_n 1, 1) := by decide +kernel
theorem d24_2 : decode jdk_29_method_69_code 2 = .ok (.if_icmp .gt 7, 3) := by decide +kernel
theorem d24_9 : decode jdk_29_method_69_code 9 = .ok (.iload_n 1, 1) := by decide +kernel
theorem d24_10 : decode jdk_29_method_69_code 10 = .ok (.ireturn, 1) := by decide +kernel
theorem pf_java_lang_Math_min__II_I : plainFor (⟨"java/lang/Math", "min", "(II)I"⟩ : MethodName) = true := by decide +kernel
theorem ef_ct_minE (e : Nat) (n : Nat) (m : MethodId) : entryFrame m #[(.int (Int32.ofNat n)), (.int (Int32.ofNat e))] 2 = mkF m 0 #[.val (.int (Int32.ofNat n)), .val (.int (Int32.ofNat e))] [] := by first | (simp [entryFrame, mkF, argsToLocals, Value.category]; done) | rfl
set_option maxRecDepth 65536 in
set_option maxHeartbeats 4000000 in
theorem ct_minE {l : Launch} {Z : State} {a0 : Array Value} (G : Env1 Z a0) (e : Nat) (n : Nat) (h0 : Heap) (he : e < n) (hn : n ≤ 4) :
    Ct l Z EL1 [] [] (⟨"java/lang/Math", "min", "(II)I"⟩ : MethodName) jdk_29_method_69_code 2 (some .int) ({ frames := 0, cells := 0, slots := 0, locals := 0 } : Room) #[(.int (Int32.ofNat n)), (.int (Int32.ofNat e))] h0 (fun v h => v = some (.int (Int32.ofNat e)) ∧ h0 = h) := by
  refine Ct.of_seg (a0 := a0) pf_java_lang_Math_min__II_I G.2.1 (ef_ct_minE e n) ?_
  refine Seg.iloadN d24_0 rfl (pc' := 1) rfl ?_
  refine Seg.iloadN d24_1 rfl (pc' := 2) rfl ?_
  refine Seg.icY (pc' := 9) d24_2 (XT.ii_gt_t (n32lt he (by omega))) (by decide) (by decide) ?_
  refine Seg.iloadN d24_9 rfl (pc' := 10) rfl ?_
  exact Seg.retI rfl d24_10 (by decide) (by decide) ⟨rfl, rfl⟩
theorem d22_0 : decode jdk_65_method_133_code 0 = .ok (.iload_n 1, 1) := by decide +kernel
theorem d22_1 : decode jdk_65_method_133_code 1 = .ok (.iload_n 2, 1) := by decide +kernel
theorem d22_2 : decode jdk_65_method_133_code 2 = .ok (.invokestatic 343, 3) := by decide +kernel
theorem pd_2 : parseMethodDescriptor "(II)V" = some ⟨[.int, .int], none⟩ := by decide +kernel
theorem d22_5 : decode jdk_65_method_133_code 5 = .ok (.iload_n 2, 1) := by decide +kernel
theorem d22_6 : decode jdk_65_method_133_code 6 = .ok (.iload_n 1, 1) := by decide +kernel
theorem d22_7 : decode jdk_65_method_133_code 7 = .ok (.isub, 1) := by decide +kernel
theorem d22_8 : decode jdk_65_method_133_code 8 = .ok (.istore_n 3, 1) := by decide +kernel
theorem d22_9 : decode jdk_65_method_133_code 9 = .ok (.iload_n 3, 1) := by decide +kernel
theorem d22_10 : decode jdk_65_method_133_code 10 = .ok (.newarray .byte, 2) := by decide +kernel
theorem d22_12 : decode jdk_65_method_133_code 12 = .ok (.astore 4, 2) := by decide +kernel
theorem d22_14 : decode jdk_65_method_133_code 14 = .ok (.aload_n 0, 1) := by decide +kernel
theorem d22_15 : decode jdk_65_method_133_code 15 = .ok (.iload_n 1, 1) := by decide +kernel
theorem d22_16 : decode jdk_65_method_133_code 16 = .ok (.aload 4, 2) := by decide +kernel
theorem d22_18 : decode jdk_65_method_133_code 18 = .ok (.iconst 0, 1) := by decide +kernel
theorem d22_19 : decode jdk_65_method_133_code 19 = .ok (.aload_n 0, 1) := by decide +kernel
theorem d22_20 : decode jdk_65_method_133_code 20 = .ok (.arraylength, 1) := by decide +kernel
theorem d22_21 : decode jdk_65_method_133_code 21 = .ok (.iload_n 1, 1) := by decide +kernel
theorem d22_22 : decode jdk_65_method_133_code 22 = .ok (.isub, 1) := by decide +kernel
theorem d22_23 : decode jdk_65_method_133_code 23 = .ok (.iload_n 3, 1) := by decide +kernel
theorem d22_24 : decode jdk_65_method_133_code 24 = .ok (.invokestatic 304, 3) := by decide +kernel
theorem pd_3 : parseMethodDescriptor "(II)I" = some ⟨[.int, .int], some .int⟩ := by decide +kernel
theorem d22_27 : decode jdk_65_method_133_code 27 = .ok (.invokestatic 150, 3) := by decide +kernel
theorem d22_30 : decode jdk_65_method_133_code 30 = .ok (.aload 4, 2) := by decide +kernel
theorem d22_32 : decode jdk_65_method_133_code 32 = .ok (.areturn, 1) := by decide +kernel
theorem ef_ct_corb (b : Addr) (kb : ClassId) (cs : List Int32) (e : Nat) (m : MethodId) : entryFrame m #[(.ref b), (.int (0 : Int32)), (.int (Int32.ofNat e))] 5 = mkF m 0 #[.val (.ref b), .val (.int (0 : Int32)), .val (.int (Int32.ofNat e)), .unset, .unset] [] := by first | (simp [entryFrame, mkF, argsToLocals, Value.category]; done) | rfl
set_option maxRecDepth 65536 in
set_option maxHeartbeats 4000000 in
theorem ct_corb {l : Launch} {Z : State} {a0 : Array Value} (G : Env1 Z a0) (b : Addr) (kb : ClassId) (cs : List Int32) (e : Nat) (h0 : Heap) (K : Arv Z h0 b kb .byte (Int32.ofNat cs.length) (cs.map (fun c => Value.int c.toInt8.toInt32)) (.int 0)) (hl : cs.length ≤ 4) (he : e < cs.length) :
    Ct l Z EL1 [] [] (⟨"java/util/Arrays", "copyOfRangeByte", "([BII)[B"⟩ : MethodName) jdk_65_method_133_code 5 (some (.array .byte)) ({ frames := 1, cells := 1, slots := 4, locals := 18 } : Room) #[(.ref b), (.int (0 : Int32)), (.int (Int32.ofNat e))] h0 (fun v h => ∃ (r : Addr) (kr : ClassId), v = some (.ref r) ∧ Ext h0 h ∧ h0.size ≤ r ∧ Arv Z h r kr .byte (Int32.ofNat e) ((cs.take e).map (fun c => Value.int c.toInt8.toInt32)) (.int 0)) := by
  refine Ct.of_seg (a0 := a0) (plainFor_of_name pn_java_util_Arrays) G.2.1 (ef_ct_corb b kb cs e) ?_
  refine Seg.iloadN d22_0 rfl (pc' := 1) rfl ?_
  refine Seg.iloadN d22_1 rfl (pc' := 2) rfl ?_
  refine Seg.callS (y' := (⟨"java/util/Arrays", "checkLength", "(II)V"⟩ : MethodName)) (wd G 103 rfl) (wd G 104 rfl) (wd G 98 rfl) (wd G 105 rfl) ⟨by decide, by decide⟩ (Pays.of_ct (W := 0) (ct_cl G e h0 (by omega)) all0 (wd G 105 rfl) (wd G 98 rfl) (by decide) (by decide) rfl rfl) (argsL := [(.int (0 : Int32)), (.int (Int32.ofNat e))]) (rest := []) rfl (lenOf pd_2 rfl) rfl (Nat.le_of_eq rfl) rfl d22_2 (pc' := 5) rfl (k' := 0) (n' := 0) rfl rfl (by decide) (by decide) ?_
  intro v_1 h_4 sz_2 q_3
  obtain ⟨rfl, rfl⟩ := q_3
  refine Seg.iloadN d22_5 rfl (pc' := 6) rfl ?_
  refine Seg.iloadN d22_6 rfl (pc' := 7) rfl ?_
  refine Seg.isub (v := (Int32.ofNat e)) d22_7 (n32z _) (pc' := 8) rfl ?_
  refine Seg.istoreN (L' := #[.val (.ref b), .val (.int (0 : Int32)), .val (.int (Int32.ofNat e)), .val (.int (Int32.ofNat e)), .unset]) d22_8 rfl (pc' := 9) rfl ?_
  refine Seg.iloadN d22_9 rfl (pc' := 10) rfl ?_
  refine Seg.newP (ty := .byte) (dv := (.int 0)) rfl rfl (wd G 20 rfl) d22_10 (pc' := 12) rfl (n32nn (by omega)) (cap := 4) (by rw [n32c (by omega)]; omega) (by decide) (k' := 1) (n' := 4) rfl rfl (by decide) (by decide) ?_
  intro b_5 h_7 k_b_5 E_6 e_b_5 l_b_5 A_b_5
  replace A_b_5 := A_b_5.pad (pad_rep [] (.int 0) e)
  refine Seg.astore (L' := #[.val (.ref b), .val (.int (0 : Int32)), .val (.int (Int32.ofNat e)), .val (.int (Int32.ofNat e)), .val (.ref b_5)]) d22_12 rfl rfl (pc' := 14) rfl ?_
  refine Seg.aloadN d22_14 rfl rfl (pc' := 15) rfl ?_
  refine Seg.iloadN d22_15 rfl (pc' := 16) rfl ?_
  refine Seg.aload d22_16 rfl rfl (pc' := 18) rfl ?_
  refine Seg.iconst (v := 0) d22_18 (by decide) (pc' := 19) rfl ?_
  refine Seg.aloadN d22_19 rfl rfl (pc' := 20) rfl ?_
  have F_8 := K.ext E_6
  refine Seg.alen F_8 d22_20 (pc' := 21) rfl ?_
  refine Seg.iloadN d22_21 rfl (pc' := 22) rfl ?_
  refine Seg.isub (v := (Int32.ofNat cs.length)) d22_22 (n32z _) (pc' := 23) rfl ?_
  refine Seg.iloadN d22_23 rfl (pc' := 24) rfl ?_
  refine Seg.callS (y' := (⟨"java/lang/Math", "min", "(II)I"⟩ : MethodName)) (wd G 106 rfl) (wd G 107 rfl) (wd G 108 rfl) (wd G 109 rfl) ⟨by decide, by decide⟩ (Pays.of_ct (W := 4) (ct_minE G e cs.length h_7 he hl) all0 (wd G 109 rfl) (wd G 108 rfl) (by decide) (by decide) rfl rfl) (argsL := [(.int (Int32.ofNat cs.length)), (.int (Int32.ofNat e))]) (rest := [(.int (0 : Int32)), (.ref b_5), (.int (0 : Int32)), (.ref b)]) rfl (lenOf pd_3 rfl) rfl (Nat.le_of_eq rfl) rfl d22_24 (pc' := 27) rfl (k' := 1) (n' := 4) rfl rfl (by decide) (by decide) ?_
  intro v_9 h_12 sz_10 q_11
  obtain ⟨rfl, rfl⟩ := q_11
  refine Seg.cpA (us := ((cs.take e).map (fun c => Value.int c.toInt8.toInt32))) (vr := ((cs.take e).map (fun c => Value.int c.toInt8.toInt32))) (wd G 110 rfl) (wd G 113 rfl) (wd G 111 rfl) (wd G 112 rfl) F_8 A_b_5 (Or.inl ⟨rfl, rfl⟩) (by decide) (by decide) (n32nn (by omega)) (by rw [n32c (by omega), n32c (by omega)]; show 0 + e ≤ _; omega) (by rw [n32c (by omega)]; show 0 + e ≤ _; omega) (range_take _ cs e _ (by omega) (by omega)) (by rw [n32c (by omega)]; show 0 + e ≤ ([] ++ List.replicate e _).length; simp) (take_all _ _ e (by simp) (by omega)) (List.mem_of_getElem? (i := 0) rfl) rfl d22_27 (pc' := 30) rfl (by decide) (W := 0) (Nat.le_of_eq rfl) (by decide) ?_
  intro h_15 K_13 A_14
  refine Seg.aload d22_30 rfl rfl (pc' := 32) rfl ?_
  have E_16 : Ext h0 h_15 := ext_kp E_6 K_13 (allS (Nat.le_trans (ext_rfl _).1 (Nat.le_of_eq e_b_5)) all0)
  exact Seg.retA rfl rfl rfl d22_32 (by decide) (by decide) ⟨b_5, k_b_5, rfl, E_16, (Nat.le_trans (ext_rfl _).1 (Nat.le_of_eq e_b_5)), A_14⟩
theorem d21_0 : decode jdk_65_method_132_code 0 = .ok (.iload_n 1, 1) := by decide +kernel
theorem d21_1 : decode jdk_65_method_132_code 1 = .ok (.ifCond .ne 9, 3) := by decide +kernel
theorem d21_4 : decode jdk_65_method_132_code 4 = .ok (.iload_n 2, 1) := by decide +kernel
theorem d21_5 : decode jdk_65_method_132_code 5 = .ok (.aload_n 0, 1) := by decide +kernel
theorem d21_6 : decode jdk_65_method_132_code 6 = .ok (.arraylength, 1) := by decide +kernel
theorem d21_7 : decode jdk_65_method_132_code 7 = .ok (.if_icmp .eq 10, 3) := by decide +kernel
theorem d21_10 : decode jdk_65_method_132_code 10 = .ok (.aload_n 0, 1) := by decide +kernel
theorem d21_11 : decode jdk_65_method_132_code 11 = .ok (.iload_n 1, 1) := by decide +kernel
theorem d21_12 : decode jdk_65_method_132_code 12 = .ok (.iload_n 2, 1) := by decide +kernel
theorem d21_13 : decode jdk_65_method_132_code 13 = .ok (.invokestatic 339, 3) := by decide +kernel
theorem pd_4 : parseMethodDescriptor "([BII)[B" = some ⟨[(.array .byte), .int, .int], some (.array .byte)⟩ := by decide +kernel
theorem d21_16 : decode jdk_65_method_132_code 16 = .ok (.areturn, 1) := by decide +kernel
theorem ef_ct_cor (b : Addr) (kb : ClassId) (cs : List Int32) (e : Nat) (m : MethodId) : entryFrame m #[(.ref b), (.int (0 : Int32)), (.int (Int32.ofNat e))] 3 = mkF m 0 #[.val (.ref b), .val (.int (0 : Int32)), .val (.int (Int32.ofNat e))] [] := by first | (simp [entryFrame, mkF, argsToLocals, Value.category]; done) | rfl
set_option maxRecDepth 65536 in
set_option maxHeartbeats 4000000 in
theorem ct_cor {l : Launch} {Z : State} {a0 : Array Value} (G : Env1 Z a0) (b : Addr) (kb : ClassId) (cs : List Int32) (e : Nat) (h0 : Heap) (K : Arv Z h0 b kb .byte (Int32.ofNat cs.length) (cs.map (fun c => Value.int c.toInt8.toInt32)) (.int 0)) (hl : cs.length ≤ 4) (he : e < cs.length) :
    Ct l Z EL1 [] [] (⟨"java/util/Arrays", "copyOfRange", "([BII)[B"⟩ : MethodName) jdk_65_method_132_code 3 (some (.array .byte)) ({ frames := 2, cells := 1, slots := 4, locals := 34 } : Room) #[(.ref b), (.int (0 : Int32)), (.int (Int32.ofNat e))] h0 (fun v h => ∃ (r : Addr) (kr : ClassId), v = some (.ref r) ∧ Ext h0 h ∧ h0.size ≤ r ∧ Arv Z h r kr .byte (Int32.ofNat e) ((cs.take e).map (fun c => Value.int c.toInt8.toInt32)) (.int 0)) := by
  refine Ct.of_seg (a0 := a0) (plainFor_of_name pn_java_util_Arrays) G.2.1 (ef_ct_cor b kb cs e) ?_
  refine Seg.iloadN d21_0 rfl (pc' := 1) rfl ?_
  refine Seg.ifN d21_1 (by decide) (pc' := 4) rfl ?_
  refine Seg.iloadN d21_4 rfl (pc' := 5) rfl ?_
  refine Seg.aloadN d21_5 rfl rfl (pc' := 6) rfl ?_
  refine Seg.alen K d21_6 (pc' := 7) rfl ?_
  refine Seg.icN d21_7 (XT.ii_eq_f fun q => absurd (n32eq (by omega) (by omega) q) (by omega)) (pc' := 10) rfl ?_
  refine Seg.aloadN d21_10 rfl rfl (pc' := 11) rfl ?_
  refine Seg.iloadN d21_11 rfl (pc' := 12) rfl ?_
  refine Seg.iloadN d21_12 rfl (pc' := 13) rfl ?_
  refine Seg.callS (y' := (⟨"java/util/Arrays", "copyOfRangeByte", "([BII)[B"⟩ : MethodName)) (wd G 100 rfl) (wd G 101 rfl) (wd G 98 rfl) (wd G 102 rfl) ⟨by decide, by decide⟩ (Pays.of_ct (W := 0) (ct_corb G b kb cs e h0 K hl he) all0 (wd G 102 rfl) (wd G 98 rfl) (by decide) (by decide) rfl rfl) (argsL := [(.ref b), (.int (0 : Int32)), (.int (Int32.ofNat e))]) (rest := []) rfl (lenOf pd_4 rfl) rfl (Nat.le_of_eq rfl) rfl d21_13 (pc' := 16) rfl (k' := 1) (n' := 4) rfl rfl (by decide) (by decide) ?_
  intro v_1 h_4 sz_2 q_3
  obtain ⟨r, kr, rfl, E1, g1, A1⟩ := q_3
  exact Seg.retA rfl rfl rfl d21_16 (by decide) (by decide) ⟨r, kr, rfl, E1, g1, A1⟩
theorem d20_0 : decode jdk_43_method_47_code 0 = .ok (.iload_n 2, 1) := by decide +kernel
theorem d20_1 : decode jdk_43_method_47_code 1 = .ok (.ifCond .ne 6, 3) := by decide +kernel
theorem d20_4 : decode jdk_43_method_47_code 4 = .ok (.ldc 151, 2) := by decide +kernel
theorem d20_6 : decode jdk_43_method_47_code 6 = .ok (.areturn, 1) := by decide +kernel
theorem d20_7 : decode jdk_43_method_47_code 7 = .ok (.new 1, 3) := by decide +kernel
theorem d20_10 : decode jdk_43_method_47_code 10 = .ok (.dup, 1) := by decide +kernel
theorem d20_11 : decode jdk_43_method_47_code 11 = .ok (.aload_n 0, 1) := by decide +kernel
theorem d20_12 : decode jdk_43_method_47_code 12 = .ok (.iload_n 1, 1) := by decide +kernel
theorem d20_13 : decode jdk_43_method_47_code 13 = .ok (.iload_n 1, 1) := by decide +kernel
theorem d20_14 : decode jdk_43_method_47_code 14 = .ok (.iload_n 2, 1) := by decide +kernel
theorem d20_15 : decode jdk_43_method_47_code 15 = .ok (.iadd, 1) := by decide +kernel
theorem d20_16 : decode jdk_43_method_47_code 16 = .ok (.invokestatic 232, 3) := by decide +kernel
theorem d20_19 : decode jdk_43_method_47_code 19 = .ok (.iconst 0, 1) := by decide +kernel
theorem d20_20 : decode jdk_43_method_47_code 20 = .ok (.invokespecial 112, 3) := by decide +kernel
theorem pd_5 : parseMethodDescriptor "([BB)V" = some ⟨[(.array .byte), .byte], none⟩ := by decide +kernel
theorem d20_23 : decode jdk_43_method_47_code 23 = .ok (.areturn, 1) := by decide +kernel
theorem pn_java_lang_StringLatin1 : plainName "java/lang/StringLatin1" = true := by first | (simp [plainName, overriddenIn]; done) | decide +kernel
theorem ef_ct_nstr (b : Addr) (kb : ClassId) (cs : List Int32) (e : Nat) (m : MethodId) : entryFrame m #[(.ref b), (.int (0 : Int32)), (.int (Int32.ofNat e))] 3 = mkF m 0 #[.val (.ref b), .val (.int (0 : Int32)), .val (.int (Int32.ofNat e))] [] := by first | (simp [entryFrame, mkF, argsToLocals, Value.category]; done) | rfl
set_option maxRecDepth 65536 in
set_option maxHeartbeats 4000000 in
theorem ct_nstr {l : Launch} {Z : State} {a0 : Array Value} (G : Env1 Z a0) (b : Addr) (kb : ClassId) (cs : List Int32) (e : Nat) (h0 : Heap) (K : Arv Z h0 b kb .byte (Int32.ofNat cs.length) (cs.map (fun c => Value.int c.toInt8.toInt32)) (.int 0)) (hl : cs.length ≤ 4) (he : e < cs.length) (hc : ∀ c ∈ cs, ¬ c < 0 ∧ ¬ (255 : Int32) < c) :
    Ct l Z EL1 [] [] (⟨"java/lang/StringLatin1", "newString", "([BII)Ljava/lang/String;"⟩ : MethodName) jdk_43_method_47_code 3 (some (.object "java/lang/String")) ({ frames := 3, cells := 2, slots := 8, locals := 50 } : Room) #[(.ref b), (.int (0 : Int32)), (.int (Int32.ofNat e))] h0 (fun v h => ∃ r, v = some (.ref r) ∧ Ext h0 h ∧ Str Z h r (cs.take e)) := by
  refine Ct.of_seg (a0 := a0) (plainFor_of_name pn_java_lang_StringLatin1) G.2.1 (ef_ct_nstr b kb cs e) ?_
  refine Seg.iloadN d20_0 rfl (pc' := 1) rfl ?_
  by_cases h1 : e = 0
  · subst h1
    refine Seg.ifN d20_1 (XT.i0_ne_f rfl) (pc' := 4) rfl ?_
    refine Seg.ldcS (text := "") (vs := []) (z := 0) (nn := 0) (wd G 94 rfl) (wS G) (by decide) (by decide +kernel) (by decide) (by decide) d20_4 (pc' := 6) rfl (by decide) (by decide) (k' := 2) (n' := 4) rfl rfl (by decide) (by decide) ?_
    intro a_1 h_10 b_2 kb_3 E_4 A_5 F_6 F_7 A_8 ne_9
    exact Seg.retA rfl rfl rfl d20_6 (by decide) (by decide) ⟨a_1, rfl, E_4, b_2, kb_3, 0, 0, [], A_5, F_7, F_6, A_8, Or.inl ⟨rfl, rfl, rfl, (fun c q => nomatch q)⟩, (fun c q => nomatch q), (by decide : 0 ≤ 4000)⟩
  · refine Seg.ifY (pc' := 7) d20_1 (XT.i0_ne_t fun q => h1 (n32eq (j := 0) (by omega) (by decide) q)) (by decide) (by decide) ?_
    refine Seg.newO (wd G 95 rfl) (wd G 7 rfl) (wd G 8 rfl) d20_7 (pc' := 10) rfl (k' := 1) (n' := 4) rfl rfl (by decide) (by decide) ?_
    intro b_11 h_13 E_12 e_b_11 l_b_11 A_b_11 D_b_11
    have F_value_b_11 : Fld Z h_13 b_11 "java/lang/String" "value" "[B" Value.null := D_b_11 (Or.inr (wd G 21 rfl)) (ty := (.array .byte)) (by decide)
    have F_coder_b_11 : Fld Z h_13 b_11 "java/lang/String" "coder" "B" (.int (0 : Int32)) := D_b_11 (Or.inr (wd G 22 rfl)) (ty := .byte) (by decide)
    refine Seg.dup d20_10 rfl (pc' := 11) rfl ?_
    refine Seg.aloadN d20_11 rfl rfl (pc' := 12) rfl ?_
    refine Seg.iloadN d20_12 rfl (pc' := 13) rfl ?_
    refine Seg.iloadN d20_13 rfl (pc' := 14) rfl ?_
    refine Seg.iloadN d20_14 rfl (pc' := 15) rfl ?_
    refine Seg.iadd (v := (Int32.ofNat e)) d20_15 (n32zp _) (pc' := 16) rfl ?_
    have F_14 := K.ext E_12
    refine Seg.callS (y' := (⟨"java/util/Arrays", "copyOfRange", "([BII)[B"⟩ : MethodName)) (wd G 96 rfl) (wd G 97 rfl) (wd G 98 rfl) (wd G 99 rfl) ⟨by decide, by decide⟩ (Pays.of_ct (W := 2) (ct_cor G b kb cs e h_13 F_14 hl he) all0 (wd G 99 rfl) (wd G 98 rfl) (by decide) (by decide) rfl rfl) (argsL := [(.ref b), (.int (0 : Int32)), (.int (Int32.ofNat e))]) (rest := [(.ref b_11), (.ref b_11)]) rfl (lenOf pd_4 rfl) rfl (Nat.le_of_eq rfl) rfl d20_16 (pc' := 19) rfl (k' := 2) (n' := 8) rfl rfl (by decide) (by decide) ?_
    intro v_15 h_18 sz_16 q_17
    obtain ⟨r, kr, rfl, E1, g1, A1⟩ := q_17
    refine Seg.iconst (v := 0) d20_19 (by decide) (pc' := 20) rfl ?_
    have F_19 := A_b_11.ext E1
    have F_20 := F_value_b_11.ext E1
    have F_21 := F_coder_b_11.ext E1
    refine Seg.callN (y' := (⟨"java/lang/String", "<init>", "([BB)V"⟩ : MethodName)) (a := b_11) rfl (wd G 114 rfl) (wd G 115 rfl) (wd G 116 rfl) ⟨by decide, by decide⟩ (Pays.of_ct (W := 1) (ct_sibb G b_11 r .null (.int 0) h_18 F_19 F_20 F_21) (allS (List.mem_of_getElem? (i := 0) rfl) all0) (wd G 116 rfl) (wd G 8 rfl) (by decide) (by decide) rfl rfl) (argsL := [(.ref r), (.int (0 : Int32))]) (rest := [(.ref b_11)]) rfl (lenOf pd_5 rfl) rfl (Nat.le_of_eq rfl) rfl d20_20 (pc' := 23) rfl (k' := 2) (n' := 8) rfl rfl (by decide) (by decide) ?_
    intro v_22 h_25 sz_23 q_24
    obtain ⟨rfl, K92, F92, F93⟩ := q_24
    have F_26 := (A1.keep K92 (ninS (Nat.ne_of_gt (Nat.lt_of_lt_of_le l_b_11 (Nat.le_trans (Nat.le_refl _) g1))) nin0))
    have E_27 : Ext h0 h_18 := ext_tr E_12 E1
    have E_28 : Ext h0 h_25 := ext_kp E_27 K92 (allS (Nat.le_trans (ext_rfl _).1 (Nat.le_of_eq e_b_11)) all0)
    have F_29 := (F_19.keep K92)
    exact Seg.retA rfl rfl rfl d20_23 (by decide) (by decide) ⟨b_11, rfl, E_28, r, kr, 0, Int32.ofNat e, _, F_29, F92, F93, F_26, Or.inl ⟨rfl, (by rw [List.length_take, Nat.min_eq_left (by omega)]), rfl, fun c q => (hc c (List.mem_of_mem_take q)).2⟩, le16 (fun c q => hc c (List.mem_of_mem_take q)), (by rw [List.length_take]; omega)⟩
theorem d8_0 : decode jdk_42_method_92_code 0 = .ok (.aload_n 0, 1) := by decide +kernel
theorem d8_1 : decode jdk_42_method_92_code 1 = .ok (.invokevirtual 505, 3) := by decide +kernel
theorem pd_6 : parseMethodDescriptor "()I" = some ⟨[], some .int⟩ := by decide +kernel
theorem d8_4 : decode jdk_42_method_92_code 4 = .ok (.istore_n 3, 1) := by decide +kernel
theorem d8_5 : decode jdk_42_method_92_code 5 = .ok (.iload_n 1, 1) := by decide +kernel
theorem d8_6 : decode jdk_42_method_92_code 6 = .ok (.iload_n 2, 1) := by decide +kernel
theorem d8_7 : decode jdk_42_method_92_code 7 = .ok (.iload_n 3, 1) := by decide +kernel
theorem d8_8 : decode jdk_42_method_92_code 8 = .ok (.invokestatic 521, 3) := by decide +kernel
theorem pd_7 : parseMethodDescriptor "(III)V" = some ⟨[.int, .int, .int], none⟩ := by decide +kernel
theorem d8_11 : decode jdk_42_method_92_code 11 = .ok (.iload_n 1, 1) := by decide +kernel
theorem d8_12 : decode jdk_42_method_92_code 12 = .ok (.ifCond .ne 10, 3) := by decide +kernel
theorem d8_15 : decode jdk_42_method_92_code 15 = .ok (.iload_n 2, 1) := by decide +kernel
theorem d8_16 : decode jdk_42_method_92_code 16 = .ok (.iload_n 3, 1) := by decide +kernel
theorem d8_17 : decode jdk_42_method_92_code 17 = .ok (.if_icmp .ne 5, 3) := by decide +kernel
theorem d8_20 : decode jdk_42_method_92_code 20 = .ok (.aload_n 0, 1) := by decide +kernel
theorem d8_21 : decode jdk_42_method_92_code 21 = .ok (.areturn, 1) := by decide +kernel
theorem d8_22 : decode jdk_42_method_92_code 22 = .ok (.iload_n 2, 1) := by decide +kernel
theorem d8_23 : decode jdk_42_method_92_code 23 = .ok (.iload_n 1, 1) := by decide +kernel
theorem d8_24 : decode jdk_42_method_92_code 24 = .ok (.isub, 1) := by decide +kernel
theorem d8_25 : decode jdk_42_method_92_code 25 = .ok (.istore 4, 2) := by decide +kernel
theorem d8_27 : decode jdk_42_method_92_code 27 = .ok (.aload_n 0, 1) := by decide +kernel
theorem d8_28 : decode jdk_42_method_92_code 28 = .ok (.invokevirtual 492, 3) := by decide +kernel
theorem pd_8 : parseMethodDescriptor "()Z" = some ⟨[], some .boolean⟩ := by decide +kernel
theorem d8_31 : decode jdk_42_method_92_code 31 = .ok (.ifCond .eq 16, 3) := by decide +kernel
theorem d8_34 : decode jdk_42_method_92_code 34 = .ok (.aload_n 0, 1) := by decide +kernel
theorem d8_35 : decode jdk_42_method_92_code 35 = .ok (.getfield 9, 3) := by decide +kernel
theorem d8_38 : decode jdk_42_method_92_code 38 = .ok (.iload_n 1, 1) := by decide +kernel
theorem d8_39 : decode jdk_42_method_92_code 39 = .ok (.iload 4, 2) := by decide +kernel
theorem d8_41 : decode jdk_42_method_92_code 41 = .ok (.invokestatic 685, 3) := by decide +kernel
theorem pd_9 : parseMethodDescriptor "([BII)Ljava/lang/String;" = some ⟨[(.array .byte), .int, .int], some (.object "java/lang/String")⟩ := by decide +kernel
theorem d8_44 : decode jdk_42_method_92_code 44 = .ok (.goto 13, 3) := by decide +kernel
theorem d8_57 : decode jdk_42_method_92_code 57 = .ok (.areturn, 1) := by decide +kernel
theorem ef_ct_sub (a : Addr) (cs : List Int32) (e : Nat) (m : MethodId) : entryFrame m #[(.ref a), (.int (0 : Int32)), (.int (Int32.ofNat e))] 5 = mkF m 0 #[.val (.ref a), .val (.int (0 : Int32)), .val (.int (Int32.ofNat e)), .unset, .unset] [] := by first | (simp [entryFrame, mkF, argsToLocals, Value.category]; done) | rfl
set_option maxRecDepth 65536 in
set_option maxHeartbeats 4000000 in
theorem ct_sub {l : Launch} {Z : State} {a0 : Array Value} (G : Env1 Z a0) (a : Addr) (cs : List Int32) (e : Nat) (h0 : Heap) (F : Str Z h0 a cs) (hc : ∀ c ∈ cs, ¬ c < 0 ∧ ¬ (255 : Int32) < c) (hl : cs.length ≤ 4) (he : e ≤ cs.length) :
    Ct l Z EL1 [] [] (⟨"java/lang/String", "substring", "(II)Ljava/lang/String;"⟩ : MethodName) jdk_42_method_92_code 5 (some (.object "java/lang/String")) ({ frames := 4, cells := 2, slots := 8, locals := 64 } : Room) #[(.ref a), (.int (0 : Int32)), (.int (Int32.ofNat e))] h0 (fun v h => ∃ r, v = some (.ref r) ∧ Ext h0 h ∧ Str Z h r (cs.take e)) := by
  refine Ct.of_seg (a0 := a0) (plainFor_of_name pn_java_lang_String) G.2.1 (ef_ct_sub a cs e) ?_
  obtain ⟨b, kb, cd, N2, vs, f1, f2, f3, f4, f5, f6, f7⟩ := id F
  obtain ⟨rfl, rfl, rfl⟩ : cd = 0 ∧ N2 = Int32.ofNat cs.length ∧ vs = (cs.map fun c => Value.int c.toInt8.toInt32) := by
    rcases f5 with ⟨q1, q2, q3, -⟩ | ⟨-, -, -, c, hc', q⟩
    · exact ⟨q1, q2, q3⟩
    · exact absurd q (hc c hc').2
  refine Seg.aloadN d8_0 rfl rfl (pc' := 1) rfl ?_
  refine Seg.callV (y' := (⟨"java/lang/String", "length", "()I"⟩ : MethodName)) (z := (⟨"java/lang/String", "length", "()I"⟩ : MethodName)) (a := a) (wd G 47 rfl) (wd G 32 rfl) (nf_sel (wd G 34 rfl)) (wd G 34 rfl) (wd G 33 rfl) ⟨by decide, by decide⟩ f1 (pays_len (W := 0) G h0 F (by decide) (by decide)) (argsL := []) (rest := []) rfl (lenOf pd_6 rfl) rfl (Nat.le_of_eq rfl) rfl d8_1 (pc' := 4) rfl (k' := 0) (n' := 0) rfl rfl (by decide) (by decide) ?_
  intro v_1 h_4 sz_2 q_3
  obtain ⟨rfl, rfl⟩ := q_3
  refine Seg.istoreN (L' := #[.val (.ref a), .val (.int (0 : Int32)), .val (.int (Int32.ofNat e)), .val (.int (Int32.ofNat cs.length)), .unset]) d8_4 rfl (pc' := 5) rfl ?_
  refine Seg.iloadN d8_5 rfl (pc' := 6) rfl ?_
  refine Seg.iloadN d8_6 rfl (pc' := 7) rfl ?_
  refine Seg.iloadN d8_7 rfl (pc' := 8) rfl ?_
  refine Seg.callS (y' := (⟨"java/lang/String", "checkBoundsBeginEnd", "(III)V"⟩ : MethodName)) (wd G 48 rfl) (wd G 49 rfl) (wd G 8 rfl) (wd G 50 rfl) ⟨by decide, by decide⟩ (Pays.of_ct (W := 0) (ct_cbe G e cs.length h0 he hl) all0 (wd G 50 rfl) (wd G 8 rfl) (by decide) (by decide) rfl rfl) (argsL := [(.int (0 : Int32)), (.int (Int32.ofNat e)), (.int (Int32.ofNat cs.length))]) (rest := []) rfl (lenOf pd_7 rfl) rfl (Nat.le_of_eq rfl) rfl d8_8 (pc' := 11) rfl (k' := 0) (n' := 0) rfl rfl (by decide) (by decide) ?_
  intro v_5 h_8 sz_6 q_7
  obtain ⟨rfl, rfl⟩ := q_7
  refine Seg.iloadN d8_11 rfl (pc' := 12) rfl ?_
  refine Seg.ifN d8_12 (by decide) (pc' := 15) rfl ?_
  refine Seg.iloadN d8_15 rfl (pc' := 16) rfl ?_
  refine Seg.iloadN d8_16 rfl (pc' := 17) rfl ?_
  by_cases h1 : e = cs.length
  · refine Seg.icN d8_17 (XT.ii_ne_f (by rw [h1])) (pc' := 20) rfl ?_
    refine Seg.aloadN d8_20 rfl rfl (pc' := 21) rfl ?_
    exact Seg.retA rfl rfl rfl d8_21 (by decide) (by decide) ⟨a, rfl, ext_rfl _, (by rw [h1, List.take_length]; exact F)⟩
  · refine Seg.icY (pc' := 22) d8_17 (XT.ii_ne_t fun q => h1 (n32eq (by omega) (by omega) q)) (by decide) (by decide) ?_
    refine Seg.iloadN d8_22 rfl (pc' := 23) rfl ?_
    refine Seg.iloadN d8_23 rfl (pc' := 24) rfl ?_
    refine Seg.isub (v := (Int32.ofNat e)) d8_24 (n32z _) (pc' := 25) rfl ?_
    refine Seg.istore (L' := #[.val (.ref a), .val (.int (0 : Int32)), .val (.int (Int32.ofNat e)), .val (.int (Int32.ofNat cs.length)), .val (.int (Int32.ofNat e))]) d8_25 rfl (pc' := 27) rfl ?_
    refine Seg.aloadN d8_27 rfl rfl (pc' := 28) rfl ?_
    refine Seg.callV (y' := (⟨"java/lang/String", "isLatin1", "()Z"⟩ : MethodName)) (z := (⟨"java/lang/String", "isLatin1", "()Z"⟩ : MethodName)) (a := a) (wd G 75 rfl) (wd G 76 rfl) (nf_sel (wd G 78 rfl)) (wd G 78 rfl) (wd G 77 rfl) ⟨by decide, by decide⟩ f1 (Pays.of_ct (W := 0) (ct_isL G a h0 f3) all0 (wd G 79 rfl) (wd G 8 rfl) (by decide) (by decide) rfl rfl) (argsL := []) (rest := []) rfl (lenOf pd_8 rfl) rfl (Nat.le_of_eq rfl) rfl d8_28 (pc' := 31) rfl (k' := 0) (n' := 0) rfl rfl (by decide) (by decide) ?_
    intro v_9 h_12 sz_10 q_11
    obtain ⟨rfl, rfl⟩ := q_11
    refine Seg.ifN d8_31 (by decide) (pc' := 34) rfl ?_
    refine Seg.aloadN d8_34 rfl rfl (pc' := 35) rfl ?_
    refine Seg.getF (host := "") (Or.inl (wd G 25 rfl)) Via.refl f2 d8_35 (pc' := 38) rfl ?_
    refine Seg.iloadN d8_38 rfl (pc' := 39) rfl ?_
    refine Seg.iload d8_39 rfl (pc' := 41) rfl ?_
    refine Seg.callS (y' := (⟨"java/lang/StringLatin1", "newString", "([BII)Ljava/lang/String;"⟩ : MethodName)) (wd G 91 rfl) (wd G 92 rfl) (wd G 82 rfl) (wd G 93 rfl) ⟨by decide, by decide⟩ (Pays.of_ct (W := 0) (ct_nstr G b kb cs e h0 f4 hl (by omega) hc) all0 (wd G 93 rfl) (wd G 82 rfl) (by decide) (by decide) rfl rfl) (argsL := [(.ref b), (.int (0 : Int32)), (.int (Int32.ofNat e))]) (rest := []) rfl (lenOf pd_9 rfl) rfl (Nat.le_of_eq rfl) rfl d8_41 (pc' := 44) rfl (k' := 2) (n' := 8) rfl rfl (by decide) (by decide) ?_
    intro v_13 h_16 sz_14 q_15
    obtain ⟨r, rfl, E1, F1⟩ := q_15
    refine Seg.goto (pc' := 57) d8_44 (by decide) (by decide) ?_
    exact Seg.retA rfl rfl rfl d8_57 (by decide) (by decide) ⟨r, rfl, E1, F1⟩
theorem d5_5 : decode prog_32_method_5_code 5 = .ok (.iload_n 1, 1) := by decide +kernel
theorem d5_6 : decode prog_32_method_5_code 6 = .ok (.ifCond .le 21, 3) := by decide +kernel
theorem d5_27 : decode prog_32_method_5_code 27 = .ok (.aload_n 0, 1) := by decide +kernel
theorem d5_28 : decode prog_32_method_5_code 28 = .ok (.iconst 0, 1) := by decide +kernel
theorem d5_29 : decode prog_32_method_5_code 29 = .ok (.iload_n 1, 1) := by decide +kernel
theorem d5_30 : decode prog_32_method_5_code 30 = .ok (.invokevirtual 191, 3) := by decide +kernel
theorem pd_10 : parseMethodDescriptor "(II)Ljava/lang/String;" = some ⟨[.int, .int], some (.object "java/lang/String")⟩ := by decide +kernel
theorem d5_33 : decode prog_32_method_5_code 33 = .ok (.areturn, 1) := by decide +kernel
theorem d5_9 : decode prog_32_method_5_code 9 = .ok (.aload_n 0, 1) := by decide +kernel
theorem d5_10 : decode prog_32_method_5_code 10 = .ok (.iload_n 1, 1) := by decide +kernel
theorem d5_11 : decode prog_32_method_5_code 11 = .ok (.iconst 1, 1) := by decide +kernel
theorem d5_12 : decode prog_32_method_5_code 12 = .ok (.isub, 1) := by decide +kernel
theorem d5_13 : decode prog_32_method_5_code 13 = .ok (.invokevirtual 187, 3) := by decide +kernel
theorem pd_11 : parseMethodDescriptor "(I)C" = some ⟨[.int], some .char⟩ := by decide +kernel
theorem d5_16 : decode prog_32_method_5_code 16 = .ok (.bipush 32, 2) := by decide +kernel
theorem d5_18 : decode prog_32_method_5_code 18 = .ok (.if_icmp .ne 9, 3) := by decide +kernel
theorem d5_21 : decode prog_32_method_5_code 21 = .ok (.iinc 1 (-1), 3) := by decide +kernel
theorem d5_24 : decode prog_32_method_5_code 24 = .ok (.goto (-19), 3) := by decide +kernel
set_option maxRecDepth 65536 in
set_option maxHeartbeats 4000000 in
theorem lp_wts {l : Launch} {Z : State} {a0 : Array Value} (G : Env1 Z a0) (a : Addr) (cs : List Int32) (h0 : Heap) (F : Str Z h0 a cs) (hc : ∀ c ∈ cs, ¬ c < 0 ∧ ¬ (255 : Int32) < c) (hl : cs.length ≤ 4) (d : Nat) (hd : d ≤ cs.length) (hs : ∀ i, d ≤ i → i < cs.length → cs.getD i 0 = 32) :
    Seg l Z a0 EL1 (⟨"com/example/erne/erne/Values", "withoutTrailingSpaces", "(Ljava/lang/String;)Ljava/lang/String;"⟩ : MethodName) prog_32_method_5_code 2 (some (.object "java/lang/String")) ({ frames := 5, cells := 2, slots := 8, locals := 80 } : Room) (fun v h => ∃ (r : Addr) (e : Nat), v = some (.ref r) ∧ Ext h0 h ∧ e ≤ cs.length ∧ Str Z h r (cs.take e) ∧ (∀ i, e ≤ i → i < cs.length → cs.getD i 0 = 32) ∧ (∀ i, e = i + 1 → ¬ cs.getD i 0 = 32)) h0 0 0 [] 5 #[.val (.ref a), .val (.int (Int32.ofNat d))] [] := by
  induction d with
  | zero =>
    have f1 := F.exa
    refine Seg.iloadN d5_5 rfl (pc' := 6) rfl ?_
    refine Seg.ifY (pc' := 27) d5_6 (XT.i0_le_t (by decide)) (by decide) (by decide) ?_
    refine Seg.aloadN d5_27 rfl rfl (pc' := 28) rfl ?_
    refine Seg.iconst (v := 0) d5_28 (by decide) (pc' := 29) rfl ?_
    refine Seg.iloadN d5_29 rfl (pc' := 30) rfl ?_
    refine Seg.callV (y' := (⟨"java/lang/String", "substring", "(II)Ljava/lang/String;"⟩ : MethodName)) (z := (⟨"java/lang/String", "substring", "(II)Ljava/lang/String;"⟩ : MethodName)) (a := a) (wd G 42 rfl) (wd G 43 rfl) (nf_sel (wd G 45 rfl)) (wd G 45 rfl) (wd G 44 rfl) ⟨by decide, by decide⟩ f1 (Pays.of_ct (W := 0) (ct_sub G a cs 0 h0 F hc hl (by omega)) all0 (wd G 46 rfl) (wd G 8 rfl) (by decide) (by decide) rfl rfl) (argsL := [(.int (0 : Int32)), (.int (Int32.ofNat 0))]) (rest := []) rfl (lenOf pd_10 rfl) rfl (Nat.le_of_eq rfl) rfl d5_30 (pc' := 33) rfl (k' := 2) (n' := 8) rfl rfl (by decide) (by decide) ?_
    intro v_1 h_4 sz_2 q_3
    obtain ⟨r, rfl, E1, F1⟩ := q_3
    exact Seg.retA rfl rfl rfl d5_33 (by decide) (by decide) ⟨r, 0, rfl, E1, (by omega), F1, hs, (fun i q => nomatch q)⟩
  | succ d ih =>
    have f1 := F.exa
    refine Seg.iloadN d5_5 rfl (pc' := 6) rfl ?_
    refine Seg.ifN d5_6 (XT.i0_le_f (n32lt (i := 0) (n := d + 1) (by omega) (by omega))) (pc' := 9) rfl ?_
    refine Seg.aloadN d5_9 rfl rfl (pc' := 10) rfl ?_
    refine Seg.iloadN d5_10 rfl (pc' := 11) rfl ?_
    refine Seg.iconst (v := 1) d5_11 (by decide) (pc' := 12) rfl ?_
    refine Seg.isub (v := (Int32.ofNat d)) d5_12 (n32p d) (pc' := 13) rfl ?_
    refine Seg.callV (y' := (⟨"java/lang/String", "charAt", "(I)C"⟩ : MethodName)) (z := (⟨"java/lang/String", "charAt", "(I)C"⟩ : MethodName)) (a := a) (wd G 70 rfl) (wd G 71 rfl) (nf_sel (wd G 73 rfl)) (wd G 73 rfl) (wd G 72 rfl) ⟨by decide, by decide⟩ f1 (pays_chr (W := 0) G h0 d F (fun c q => (hc c q).2) (by omega) rfl (by decide) (by decide)) (argsL := [(.int (Int32.ofNat d))]) (rest := []) rfl (lenOf pd_11 rfl) rfl (Nat.le_of_eq rfl) rfl d5_13 (pc' := 16) rfl (k' := 0) (n' := 0) rfl rfl (by decide) (by decide) ?_
    intro v_1 h_4 sz_2 q_3
    obtain ⟨rfl, rfl⟩ := q_3
    refine Seg.bipush (v := 32) d5_16 (by decide) (pc' := 18) rfl ?_
    by_cases h1 : cs.getD d 0 = 32
    · refine Seg.icN d5_18 (XT.ii_ne_f h1) (pc' := 21) rfl ?_
      refine Seg.iinc (v := -1) (z := (Int32.ofNat d)) (L' := #[.val (.ref a), .val (.int (Int32.ofNat d))]) d5_21 (by decide) rfl (n32m d) rfl (pc' := 24) rfl ?_
      refine Seg.goto (pc' := 5) d5_24 (by decide) (by decide) ?_
      exact ih (by omega) (fun i q1 q2 => by rcases Nat.lt_or_ge d i with q | q; exact hs i q q2; obtain rfl : i = d := Nat.le_antisymm q q1; exact h1)
    · refine Seg.icY (pc' := 27) d5_18 (XT.ii_ne_t h1) (by decide) (by decide) ?_
      refine Seg.aloadN d5_27 rfl rfl (pc' := 28) rfl ?_
      refine Seg.iconst (v := 0) d5_28 (by decide) (pc' := 29) rfl ?_
      refine Seg.iloadN d5_29 rfl (pc' := 30) rfl ?_
      refine Seg.callV (y' := (⟨"java/lang/String", "substring", "(II)Ljava/lang/String;"⟩ : MethodName)) (z := (⟨"java/lang/String", "substring", "(II)Ljava/lang/String;"⟩ : MethodName)) (a := a) (wd G 42 rfl) (wd G 43 rfl) (nf_sel (wd G 45 rfl)) (wd G 45 rfl) (wd G 44 rfl) ⟨by decide, by decide⟩ f1 (Pays.of_ct (W := 0) (ct_sub G a cs (d + 1) h0 F hc hl (by omega)) all0 (wd G 46 rfl) (wd G 8 rfl) (by decide) (by decide) rfl rfl) (argsL := [(.int (0 : Int32)), (.int (Int32.ofNat (d + 1)))]) (rest := []) rfl (lenOf pd_10 rfl) rfl (Nat.le_of_eq rfl) rfl d5_30 (pc' := 33) rfl (k' := 2) (n' := 8) rfl rfl (by decide) (by decide) ?_
      intro v_5 h_8 sz_6 q_7
      obtain ⟨r, rfl, E1, F1⟩ := q_7
      exact Seg.retA rfl rfl rfl d5_33 (by decide) (by decide) ⟨r, (d + 1), rfl, E1, (by omega), F1, hs, (fun i q => by obtain rfl : d = i := Nat.succ.inj q; exact h1)⟩
theorem d5_0 : decode prog_32_method_5_code 0 = .ok (.aload_n 0, 1) := by decide +kernel
theorem d5_1 : decode prog_32_method_5_code 1 = .ok (.invokevirtual 185, 3) := by decide +kernel
theorem d5_4 : decode prog_32_method_5_code 4 = .ok (.istore_n 1, 1) := by decide +kernel
theorem pn_com_example_erne_erne_Values : plainName "com/example/erne/erne/Values" = true := by first | (simp [plainName, overriddenIn]; done) | decide +kernel
theorem ef_ct_wts (a : Addr) (cs : List Int32) (m : MethodId) : entryFrame m #[(.ref a)] 2 = mkF m 0 #[.val (.ref a), .unset] [] := by first | (simp [entryFrame, mkF, argsToLocals, Value.category]; done) | rfl
set_option maxRecDepth 65536 in
set_option maxHeartbeats 4000000 in
theorem ct_wts {l : Launch} {Z : State} {a0 : Array Value} (G : Env1 Z a0) (a : Addr) (cs : List Int32) (h0 : Heap) (F : Str Z h0 a cs) (hc : ∀ c ∈ cs, ¬ c < 0 ∧ ¬ (255 : Int32) < c) (hl : cs.length ≤ 4) :
    Ct l Z EL1 [] [] (⟨"com/example/erne/erne/Values", "withoutTrailingSpaces", "(Ljava/lang/String;)Ljava/lang/String;"⟩ : MethodName) prog_32_method_5_code 2 (some (.object "java/lang/String")) ({ frames := 5, cells := 2, slots := 8, locals := 80 } : Room) #[(.ref a)] h0 (fun v h => ∃ (r : Addr) (e : Nat), v = some (.ref r) ∧ Ext h0 h ∧ e ≤ cs.length ∧ Str Z h r (cs.take e) ∧ (∀ i, e ≤ i → i < cs.length → cs.getD i 0 = 32) ∧ (∀ i, e = i + 1 → ¬ cs.getD i 0 = 32)) := by
  refine Ct.of_seg (a0 := a0) (plainFor_of_name pn_com_example_erne_erne_Values) G.2.1 (ef_ct_wts a cs) ?_
  have f1 := F.exa
  refine Seg.aloadN d5_0 rfl rfl (pc' := 1) rfl ?_
  refine Seg.callV (y' := (⟨"java/lang/String", "length", "()I"⟩ : MethodName)) (z := (⟨"java/lang/String", "length", "()I"⟩ : MethodName)) (a := a) (wd G 31 rfl) (wd G 32 rfl) (nf_sel (wd G 34 rfl)) (wd G 34 rfl) (wd G 33 rfl) ⟨by decide, by decide⟩ f1 (pays_len (W := 0) G h0 F (by decide) (by decide)) (argsL := []) (rest := []) rfl (lenOf pd_6 rfl) rfl (Nat.le_of_eq rfl) rfl d5_1 (pc' := 4) rfl (k' := 0) (n' := 0) rfl rfl (by decide) (by decide) ?_
  intro v_1 h_4 sz_2 q_3
  obtain ⟨rfl, rfl⟩ := q_3
  refine Seg.istoreN (L' := #[.val (.ref a), .val (.int (Int32.ofNat cs.length))]) d5_4 rfl (pc' := 5) rfl ?_
  exact lp_wts G a cs h0 F hc hl cs.length (Nat.le_refl _) (fun i q1 q2 => absurd q2 (by omega))
theorem d1_0 : decode method_3_code 0 = .ok (.iload_n 0, 1) := by decide +kernel
theorem d1_1 : decode method_3_code 1 = .ok (.bipush 8, 2) := by decide +kernel
theorem d1_3 : decode method_3_code 3 = .ok (.iushr, 1) := by decide +kernel
theorem d1_4 : decode method_3_code 4 = .ok (.iconst 1, 1) := by decide +kernel
theorem d1_5 : decode method_3_code 5 = .ok (.iand, 1) := by decide +kernel
theorem d1_6 : decode method_3_code 6 = .ok (.ifCond .eq 8, 3) := by decide +kernel
theorem d1_14 : decode method_3_code 14 = .ok (.iload_n 0, 1) := by decide +kernel
theorem d1_15 : decode method_3_code 15 = .ok (.sipush 255, 3) := by decide +kernel
theorem d1_18 : decode method_3_code 18 = .ok (.iand, 1) := by decide +kernel
theorem d1_19 : decode method_3_code 19 = .ok (.i2c, 1) := by decide +kernel
theorem d1_20 : decode method_3_code 20 = .ok (.ireturn, 1) := by decide +kernel
theorem d1_9 : decode method_3_code 9 = .ok (.bipush 32, 2) := by decide +kernel
theorem d1_11 : decode method_3_code 11 = .ok (.goto 9, 3) := by decide +kernel
theorem pn_com_example_erne_erne_ValuesWithoutTrailingSpacesPinLaw : plainName "com/example/erne/erne/ValuesWithoutTrailingSpacesPinLaw" = true := by first | (simp [plainName, overriddenIn]; done) | decide +kernel
theorem ef_ct_draw (u : Int32) (m : MethodId) : entryFrame m #[(.int u)] 1 = mkF m 0 #[.val (.int u)] [] := by first | (simp [entryFrame, mkF, argsToLocals, Value.category]; done) | rfl
set_option maxRecDepth 65536 in
set_option maxHeartbeats 4000000 in
theorem ct_draw {l : Launch} {Z : State} {a0 : Array Value} (G : Env1 Z a0) (u : Int32) (h0 : Heap) :
    Ct l Z EL1 [] [] (⟨"com/example/erne/erne/ValuesWithoutTrailingSpacesPinLaw", "draw", "(I)C"⟩ : MethodName) method_3_code 1 (some .char) ({ frames := 0, cells := 0, slots := 0, locals := 0 } : Room) #[(.int u)] h0 (fun v h => ∃ r : Int32, v = some (.int r) ∧ h0 = h ∧ (¬ r < 0 ∧ ¬ (255 : Int32) < r)) := by
  refine Ct.of_seg (a0 := a0) (plainFor_of_name pn_com_example_erne_erne_ValuesWithoutTrailingSpacesPinLaw) G.2.1 (ef_ct_draw u) ?_
  refine Seg.iloadN d1_0 rfl (pc' := 1) rfl ?_
  refine Seg.bipush (v := 8) d1_1 (by decide) (pc' := 3) rfl ?_
  refine Seg.iushr (v := ((u).toUInt32 >>> ((8 : Int32) &&& 31).toUInt32).toInt32) d1_3 rfl (pc' := 4) rfl ?_
  refine Seg.iconst (v := 1) d1_4 (by decide) (pc' := 5) rfl ?_
  refine Seg.iand (v := (((u).toUInt32 >>> ((8 : Int32) &&& 31).toUInt32).toInt32 &&& (1 : Int32))) d1_5 rfl (pc' := 6) rfl ?_
  by_cases h1 : (((u).toUInt32 >>> ((8 : Int32) &&& 31).toUInt32).toInt32 &&& (1 : Int32)) = 0
  · refine Seg.ifY (pc' := 14) d1_6 (XT.i0_eq_t h1) (by decide) (by decide) ?_
    refine Seg.iloadN d1_14 rfl (pc' := 15) rfl ?_
    refine Seg.sipush (v := 255) d1_15 (by decide) (pc' := 18) rfl ?_
    refine Seg.iand (v := (u &&& (255 : Int32))) d1_18 rfl (pc' := 19) rfl ?_
    refine Seg.i2c (v := (u &&& (255 : Int32))) d1_19 (i2c_mask _) (pc' := 20) rfl ?_
    exact Seg.retN (t := .char) (w := (u &&& (255 : Int32))) rfl (by decide) (i2c_mask _) d1_20 (by decide) (by decide) ⟨_, rfl, rfl, and255 _⟩
  · refine Seg.ifN d1_6 (XT.i0_eq_f h1) (pc' := 9) rfl ?_
    refine Seg.bipush (v := 32) d1_9 (by decide) (pc' := 11) rfl ?_
    refine Seg.goto (pc' := 20) d1_11 (by decide) (by decide) ?_
    exact Seg.retN (t := .char) (w := (32 : Int32)) rfl (by decide) (by decide) d1_20 (by decide) (by decide) ⟨_, rfl, rfl, (by decide)⟩
theorem d11_0 : decode method_4_code 0 = .ok (.iload 4, 2) := by decide +kernel
theorem d11_2 : decode method_4_code 2 = .ok (.iload_n 1, 1) := by decide +kernel
theorem d11_3 : decode method_4_code 3 = .ok (.if_icmp .ge 22, 3) := by decide +kernel
theorem d11_6 : decode method_4_code 6 = .ok (.aload_n 0, 1) := by decide +kernel
theorem d11_7 : decode method_4_code 7 = .ok (.iload 4, 2) := by decide +kernel
theorem d11_9 : decode method_4_code 9 = .ok (.invokevirtual 33, 3) := by decide +kernel
theorem d11_12 : decode method_4_code 12 = .ok (.aload_n 3, 1) := by decide +kernel
theorem d11_13 : decode method_4_code 13 = .ok (.iload 4, 2) := by decide +kernel
theorem d11_15 : decode method_4_code 15 = .ok (.caload, 1) := by decide +kernel
theorem d11_16 : decode method_4_code 16 = .ok (.if_icmp .ne 7, 3) := by decide +kernel
theorem d11_19 : decode method_4_code 19 = .ok (.iconst 1, 1) := by decide +kernel
theorem d11_20 : decode method_4_code 20 = .ok (.goto 4, 3) := by decide +kernel
theorem d11_24 : decode method_4_code 24 = .ok (.ireturn, 1) := by decide +kernel
theorem d11_25 : decode method_4_code 25 = .ok (.iload 4, 2) := by decide +kernel
theorem d11_27 : decode method_4_code 27 = .ok (.iload_n 2, 1) := by decide +kernel
theorem d11_28 : decode method_4_code 28 = .ok (.if_icmp .ge 12, 3) := by decide +kernel
theorem d11_31 : decode method_4_code 31 = .ok (.aload_n 3, 1) := by decide +kernel
theorem d11_32 : decode method_4_code 32 = .ok (.iload 4, 2) := by decide +kernel
theorem d11_34 : decode method_4_code 34 = .ok (.caload, 1) := by decide +kernel
theorem d11_35 : decode method_4_code 35 = .ok (.bipush 32, 2) := by decide +kernel
theorem d11_37 : decode method_4_code 37 = .ok (.if_icmp .ne 7, 3) := by decide +kernel
theorem d11_40 : decode method_4_code 40 = .ok (.iconst 1, 1) := by decide +kernel
theorem d11_41 : decode method_4_code 41 = .ok (.goto 4, 3) := by decide +kernel
theorem d11_45 : decode method_4_code 45 = .ok (.ireturn, 1) := by decide +kernel
theorem ef_ct_at (a : Addr) (b : Addr) (kb : ClassId) (ds : List Int32) (e : Nat) (n : Nat) (i : Nat) (m : MethodId) : entryFrame m #[(.ref a), (.int (Int32.ofNat e)), (.int (Int32.ofNat n)), (.ref b), (.int (Int32.ofNat i))] 5 = mkF m 0 #[.val (.ref a), .val (.int (Int32.ofNat e)), .val (.int (Int32.ofNat n)), .val (.ref b), .val (.int (Int32.ofNat i))] [] := by first | (simp [entryFrame, mkF, argsToLocals, Value.category]; done) | rfl
set_option maxRecDepth 65536 in
set_option maxHeartbeats 4000000 in
theorem ct_at {l : Launch} {Z : State} {a0 : Array Value} (G : Env1 Z a0) (a : Addr) (b : Addr) (kb : ClassId) (ds : List Int32) (e : Nat) (n : Nat) (i : Nat) (h0 : Heap) (F : Str Z h0 a (ds.take e)) (hc : ∀ c ∈ ds, ¬ c < 0 ∧ ¬ (255 : Int32) < c) (hd : ds.length = 4) (he : e ≤ n) (hn : n ≤ 4) (hs : ∀ j, e ≤ j → j < n → ds.getD j 0 = 32) (hi : i < 4) (K : Arv Z h0 b kb .char 4 (ds.map Value.int) (.int 0)) :
    Ct l Z EL1 [] [] (⟨"com/example/erne/erne/ValuesWithoutTrailingSpacesPinLaw", "at", "(Ljava/lang/String;II[CI)Z"⟩ : MethodName) method_4_code 5 (some .boolean) ({ frames := 4, cells := 0, slots := 0, locals := 53 } : Room) #[(.ref a), (.int (Int32.ofNat e)), (.int (Int32.ofNat n)), (.ref b), (.int (Int32.ofNat i))] h0 (fun v h => v = some (.int 1) ∧ h0 = h) := by
  refine Ct.of_seg (a0 := a0) (plainFor_of_name pn_com_example_erne_erne_ValuesWithoutTrailingSpacesPinLaw) G.2.1 (ef_ct_at a b kb ds e n i) ?_
  have f1 := F.exa
  refine Seg.iload d11_0 rfl (pc' := 2) rfl ?_
  refine Seg.iloadN d11_2 rfl (pc' := 3) rfl ?_
  by_cases h1 : i < e
  · refine Seg.icN d11_3 (XT.ii_ge_f (n32lt h1 (by omega))) (pc' := 6) rfl ?_
    refine Seg.aloadN d11_6 rfl rfl (pc' := 7) rfl ?_
    refine Seg.iload d11_7 rfl (pc' := 9) rfl ?_
    refine Seg.callV (y' := (⟨"java/lang/String", "charAt", "(I)C"⟩ : MethodName)) (z := (⟨"java/lang/String", "charAt", "(I)C"⟩ : MethodName)) (a := a) (wd G 90 rfl) (wd G 71 rfl) (nf_sel (wd G 73 rfl)) (wd G 73 rfl) (wd G 72 rfl) ⟨by decide, by decide⟩ f1 (pays_chr (W := 0) G h0 i F (fun c q => (hc c (List.mem_of_mem_take q)).2) (by rw [List.length_take]; omega) rfl (by decide) (by decide)) (argsL := [(.int (Int32.ofNat i))]) (rest := []) rfl (lenOf pd_11 rfl) rfl (Nat.le_of_eq rfl) rfl d11_9 (pc' := 12) rfl (k' := 0) (n' := 0) rfl rfl (by decide) (by decide) ?_
    intro v_1 h_4 sz_2 q_3
    obtain ⟨rfl, rfl⟩ := q_3
    refine Seg.aloadN d11_12 rfl rfl (pc' := 13) rfl ?_
    refine Seg.iload d11_13 rfl (pc' := 15) rfl ?_
    refine Seg.caload (v := (.int (ds.getD i 0))) K (n32in (n := 4) hi (by decide)) (by rw [n32c (by omega)]; exact getDmap _ _ _ _ _ (by omega)) d11_15 (pc' := 16) rfl ?_
    refine Seg.icN d11_16 (XT.ii_ne_f (by simp [List.getD_eq_getElem?_getD, List.getElem?_take, h1])) (pc' := 19) rfl ?_
    refine Seg.iconst (v := 1) d11_19 (by decide) (pc' := 20) rfl ?_
    refine Seg.goto (pc' := 24) d11_20 (by decide) (by decide) ?_
    exact Seg.retN (t := .boolean) (w := (1 : Int32)) rfl (by decide) (by decide) d11_24 (by decide) (by decide) ⟨rfl, rfl⟩
  · refine Seg.icY (pc' := 25) d11_3 (XT.ii_ge_t (n32nlt (by omega) (by omega))) (by decide) (by decide) ?_
    refine Seg.iload d11_25 rfl (pc' := 27) rfl ?_
    refine Seg.iloadN d11_27 rfl (pc' := 28) rfl ?_
    by_cases h2 : i < n
    · refine Seg.icN d11_28 (XT.ii_ge_f (n32lt h2 (by omega))) (pc' := 31) rfl ?_
      refine Seg.aloadN d11_31 rfl rfl (pc' := 32) rfl ?_
      refine Seg.iload d11_32 rfl (pc' := 34) rfl ?_
      refine Seg.caload (v := (.int (ds.getD i 0))) K (n32in (n := 4) hi (by decide)) (by rw [n32c (by omega)]; exact getDmap _ _ _ _ _ (by omega)) d11_34 (pc' := 35) rfl ?_
      refine Seg.bipush (v := 32) d11_35 (by decide) (pc' := 37) rfl ?_
      refine Seg.icN d11_37 (XT.ii_ne_f (hs i (by omega) h2)) (pc' := 40) rfl ?_
      refine Seg.iconst (v := 1) d11_40 (by decide) (pc' := 41) rfl ?_
      refine Seg.goto (pc' := 45) d11_41 (by decide) (by decide) ?_
      exact Seg.retN (t := .boolean) (w := (1 : Int32)) rfl (by decide) (by decide) d11_45 (by decide) (by decide) ⟨rfl, rfl⟩
    · refine Seg.icY (pc' := 40) d11_28 (XT.ii_ge_t (n32nlt (by omega) (by omega))) (by decide) (by decide) ?_
      refine Seg.iconst (v := 1) d11_40 (by decide) (pc' := 41) rfl ?_
      refine Seg.goto (pc' := 45) d11_41 (by decide) (by decide) ?_
      exact Seg.retN (t := .boolean) (w := (1 : Int32)) rfl (by decide) (by decide) d11_45 (by decide) (by decide) ⟨rfl, rfl⟩
theorem pd_12 : parseMethodDescriptor "(Ljava/lang/String;II[CI)Z" = some ⟨[(.object "java/lang/String"), .int, .int, (.array .char), .int], some .boolean⟩ := by decide +kernel
set_option maxRecDepth 65536 in
set_option maxHeartbeats 4000000 in
theorem sg128 {l : Launch} {Z : State} {a0 : Array Value} (G : Env1 Z a0) (p1 : Int32) (p2 : Int32) (p3 : Int32) (p4 : Int32) (p5 : Int32) (a : Addr) (b : Addr) (s : Addr) (s2 : Addr) (kb : ClassId) (ds : List Int32) (e : Nat) (n : Nat) (h : Heap) (F : Str Z h a (ds.take e)) (hc : ∀ c ∈ ds, ¬ c < 0 ∧ ¬ (255 : Int32) < c) (hd : ds.length = 4) (he : e ≤ n) (hn : n ≤ 4) (hs : ∀ j, e ≤ j → j < n → ds.getD j 0 = 32) (ht : ∀ i, e = i + 1 → ¬ ds.getD i 0 = 32) (K : Arv Z h b kb .char 4 (ds.map Value.int) (.int 0)) :
    Seg l Z a0 EL1 x code maxLocals ret room_1 (fun v h => v = some (.int 1)) h 20 1000 [] 128 #[.val (.int p1), .val (.int p2), .val (.int p3), .val (.int p4), .val (.int p5), .val (.int (Int32.ofNat n)), .val (.ref b), .val (.ref s), .val (.ref s2), .val (.ref a), .unset] [] := by
  have f1 := F.exa
  refine Seg.aload at_128 rfl rfl (pc' := 130) rfl ?_
  refine Seg.callV (y' := (⟨"java/lang/String", "length", "()I"⟩ : MethodName)) (z := (⟨"java/lang/String", "length", "()I"⟩ : MethodName)) (a := a) (wd G 56 rfl) (wd G 32 rfl) (nf_sel (wd G 34 rfl)) (wd G 34 rfl) (wd G 33 rfl) ⟨by decide, by decide⟩ f1 ((pays_len (W := 0) G h F (by decide) (by decide)).post (Q' := fun v h' => v = some (.int (Int32.ofNat e)) ∧ h = h') fun v h' q => ⟨by rw [q.1, List.length_take, Nat.min_eq_left (by omega)], q.2⟩) (argsL := []) (rest := []) rfl (lenOf pd_6 rfl) rfl (Nat.le_of_eq rfl) rfl at_130 (pc' := 133) rfl (k' := 20) (n' := 1000) rfl rfl (by decide) (by decide) ?_
  intro v_1 h_4 sz_2 q_3
  obtain ⟨rfl, rfl⟩ := q_3
  refine Seg.istore (L' := #[.val (.int p1), .val (.int p2), .val (.int p3), .val (.int p4), .val (.int p5), .val (.int (Int32.ofNat n)), .val (.ref b), .val (.ref s), .val (.ref s2), .val (.ref a), .val (.int (Int32.ofNat e))]) at_133 rfl (pc' := 135) rfl ?_
  refine Seg.iload at_135 rfl (pc' := 137) rfl ?_
  refine Seg.iload at_137 rfl (pc' := 139) rfl ?_
  refine Seg.icY (pc' := 144) at_139 (XT.ii_le_t (n32nlt he (by omega))) (by decide) (by decide) ?_
  refine Seg.iload at_144 rfl (pc' := 146) rfl ?_
  have g1 : Seg l Z a0 EL1 x code maxLocals ret room_1 (fun v h => v = some (.int 1)) h 20 1000 [] 163 #[.val (.int p1), .val (.int p2), .val (.int p3), .val (.int p4), .val (.int p5), .val (.int (Int32.ofNat n)), .val (.ref b), .val (.ref s), .val (.ref s2), .val (.ref a), .val (.int (Int32.ofNat e))] [] := by
    refine Seg.aload at_163 rfl rfl (pc' := 165) rfl ?_
    refine Seg.iload at_165 rfl (pc' := 167) rfl ?_
    refine Seg.iload at_167 rfl (pc' := 169) rfl ?_
    refine Seg.aload at_169 rfl rfl (pc' := 171) rfl ?_
    refine Seg.iconst (v := 0) at_171 (by decide) (pc' := 172) rfl ?_
    refine Seg.callS (y' := (⟨"com/example/erne/erne/ValuesWithoutTrailingSpacesPinLaw", "at", "(Ljava/lang/String;II[CI)Z"⟩ : MethodName)) (wd G 57 rfl) (wd G 58 rfl) (wd G 4 rfl) (wd G 59 rfl) ⟨by decide, by decide⟩ (Pays.of_ct (W := 0) (ct_at G a b kb ds e n 0 h F hc hd he hn hs (by decide) K) all0 (wd G 59 rfl) (wd G 4 rfl) (by decide) (by decide) rfl rfl) (argsL := [(.ref a), (.int (Int32.ofNat e)), (.int (Int32.ofNat n)), (.ref b), (.int (0 : Int32))]) (rest := []) rfl (lenOf pd_12 rfl) rfl (Nat.le_of_eq rfl) rfl at_172 (pc' := 175) rfl (k' := 20) (n' := 1000) rfl rfl (by decide) (by decide) ?_
    intro v_5 h_8 sz_6 q_7
    obtain ⟨rfl, rfl⟩ := q_7
    refine Seg.ifN at_175 (by decide) (pc' := 178) rfl ?_
    refine Seg.aload at_178 rfl rfl (pc' := 180) rfl ?_
    refine Seg.iload at_180 rfl (pc' := 182) rfl ?_
    refine Seg.iload at_182 rfl (pc' := 184) rfl ?_
    refine Seg.aload at_184 rfl rfl (pc' := 186) rfl ?_
    refine Seg.iconst (v := 1) at_186 (by decide) (pc' := 187) rfl ?_
    refine Seg.callS (y' := (⟨"com/example/erne/erne/ValuesWithoutTrailingSpacesPinLaw", "at", "(Ljava/lang/String;II[CI)Z"⟩ : MethodName)) (wd G 57 rfl) (wd G 58 rfl) (wd G 4 rfl) (wd G 59 rfl) ⟨by decide, by decide⟩ (Pays.of_ct (W := 0) (ct_at G a b kb ds e n 1 h F hc hd he hn hs (by decide) K) all0 (wd G 59 rfl) (wd G 4 rfl) (by decide) (by decide) rfl rfl) (argsL := [(.ref a), (.int (Int32.ofNat e)), (.int (Int32.ofNat n)), (.ref b), (.int (1 : Int32))]) (rest := []) rfl (lenOf pd_12 rfl) rfl (Nat.le_of_eq rfl) rfl at_187 (pc' := 190) rfl (k' := 20) (n' := 1000) rfl rfl (by decide) (by decide) ?_
    intro v_9 h_12 sz_10 q_11
    obtain ⟨rfl, rfl⟩ := q_11
    refine Seg.ifN at_190 (by decide) (pc' := 193) rfl ?_
    refine Seg.aload at_193 rfl rfl (pc' := 195) rfl ?_
    refine Seg.iload at_195 rfl (pc' := 197) rfl ?_
    refine Seg.iload at_197 rfl (pc' := 199) rfl ?_
    refine Seg.aload at_199 rfl rfl (pc' := 201) rfl ?_
    refine Seg.iconst (v := 2) at_201 (by decide) (pc' := 202) rfl ?_
    refine Seg.callS (y' := (⟨"com/example/erne/erne/ValuesWithoutTrailingSpacesPinLaw", "at", "(Ljava/lang/String;II[CI)Z"⟩ : MethodName)) (wd G 57 rfl) (wd G 58 rfl) (wd G 4 rfl) (wd G 59 rfl) ⟨by decide, by decide⟩ (Pays.of_ct (W := 0) (ct_at G a b kb ds e n 2 h F hc hd he hn hs (by decide) K) all0 (wd G 59 rfl) (wd G 4 rfl) (by decide) (by decide) rfl rfl) (argsL := [(.ref a), (.int (Int32.ofNat e)), (.int (Int32.ofNat n)), (.ref b), (.int (2 : Int32))]) (rest := []) rfl (lenOf pd_12 rfl) rfl (Nat.le_of_eq rfl) rfl at_202 (pc' := 205) rfl (k' := 20) (n' := 1000) rfl rfl (by decide) (by decide) ?_
    intro v_13 h_16 sz_14 q_15
    obtain ⟨rfl, rfl⟩ := q_15
    refine Seg.ifN at_205 (by decide) (pc' := 208) rfl ?_
    refine Seg.aload at_208 rfl rfl (pc' := 210) rfl ?_
    refine Seg.iload at_210 rfl (pc' := 212) rfl ?_
    refine Seg.iload at_212 rfl (pc' := 214) rfl ?_
    refine Seg.aload at_214 rfl rfl (pc' := 216) rfl ?_
    refine Seg.iconst (v := 3) at_216 (by decide) (pc' := 217) rfl ?_
    refine Seg.callS (y' := (⟨"com/example/erne/erne/ValuesWithoutTrailingSpacesPinLaw", "at", "(Ljava/lang/String;II[CI)Z"⟩ : MethodName)) (wd G 57 rfl) (wd G 58 rfl) (wd G 4 rfl) (wd G 59 rfl) ⟨by decide, by decide⟩ (Pays.of_ct (W := 0) (ct_at G a b kb ds e n 3 h F hc hd he hn hs (by decide) K) all0 (wd G 59 rfl) (wd G 4 rfl) (by decide) (by decide) rfl rfl) (argsL := [(.ref a), (.int (Int32.ofNat e)), (.int (Int32.ofNat n)), (.ref b), (.int (3 : Int32))]) (rest := []) rfl (lenOf pd_12 rfl) rfl (Nat.le_of_eq rfl) rfl at_217 (pc' := 220) rfl (k' := 20) (n' := 1000) rfl rfl (by decide) (by decide) ?_
    intro v_17 h_20 sz_18 q_19
    obtain ⟨rfl, rfl⟩ := q_19
    refine Seg.ifN at_220 (by decide) (pc' := 223) rfl ?_
    refine Seg.iconst (v := 1) at_223 (by decide) (pc' := 224) rfl ?_
    refine Seg.goto (pc' := 228) at_224 (by decide) (by decide) ?_
    exact Seg.retN (t := .boolean) (w := (1 : Int32)) rfl (by decide) (by decide) at_228 (by decide) (by decide) rfl
  rcases Nat.eq_zero_or_pos e with q | q
  · refine Seg.ifY (pc' := 163) at_146 (XT.i0_le_t (by rw [q]; decide)) (by decide) (by decide) ?_
    exact g1
  · obtain ⟨i, rfl⟩ : ∃ i, e = i + 1 := ⟨e - 1, by omega⟩
    refine Seg.ifN at_146 (XT.i0_le_f (n32lt (i := 0) (n := i + 1) (by omega) (by omega))) (pc' := 149) rfl ?_
    refine Seg.aload at_149 rfl rfl (pc' := 151) rfl ?_
    refine Seg.iload at_151 rfl (pc' := 153) rfl ?_
    refine Seg.iconst (v := 1) at_153 (by decide) (pc' := 154) rfl ?_
    refine Seg.isub (v := (Int32.ofNat i)) at_154 (n32p i) (pc' := 155) rfl ?_
    refine Seg.caload (v := (.int (ds.getD i 0))) K (n32in (n := 4) (by omega) (by decide)) (by rw [n32c (by omega)]; exact getDmap _ _ _ _ _ (by omega)) at_155 (pc' := 156) rfl ?_
    refine Seg.bipush (v := 32) at_156 (by decide) (pc' := 158) rfl ?_
    refine Seg.icY (pc' := 163) at_158 (XT.ii_ne_t (ht i rfl)) (by decide) (by decide) ?_
    exact g1
theorem pd_13 : parseMethodDescriptor "([C)V" = some ⟨[(.array .char)], none⟩ := by decide +kernel
theorem pd_14 : parseMethodDescriptor "(Ljava/lang/String;)Ljava/lang/String;" = some ⟨[(.object "java/lang/String")], some (.object "java/lang/String")⟩ := by decide +kernel
set_option maxRecDepth 65536 in
set_option maxHeartbeats 4000000 in
theorem sg42 {l : Launch} {Z : State} {a0 : Array Value} (G : Env1 Z a0) (p1 : Int32) (p2 : Int32) (p3 : Int32) (p4 : Int32) (p5 : Int32) (k : Int32) (b : Addr) (kb : ClassId) (d0 : Int32) (d1 : Int32) (d2 : Int32) (d3 : Int32) (h : Heap) (hn : k = 0 ∨ k = 1 ∨ k = 2 ∨ k = 3 ∨ k = 4) (h1 : ¬ d0 < 0 ∧ ¬ (255 : Int32) < d0) (h2 : ¬ d1 < 0 ∧ ¬ (255 : Int32) < d1) (h3 : ¬ d2 < 0 ∧ ¬ (255 : Int32) < d2) (h4 : ¬ d3 < 0 ∧ ¬ (255 : Int32) < d3) (K : Arv Z h b kb .char 4 [.int d0, .int d1, .int d2, .int d3] (.int 0)) :
    Seg l Z a0 EL1 x code maxLocals ret room_1 (fun v h => v = some (.int 1)) h 1 4 [] 42 #[.val (.int p1), .val (.int p2), .val (.int p3), .val (.int p4), .val (.int p5), .val (.int k), .val (.ref b), .unset, .unset, .unset, .unset] [] := by
  rcases hn with rfl | rfl | rfl | rfl | rfl
  · refine Seg.iload at_42 rfl (pc' := 44) rfl ?_
    refine Seg.newP (ty := .char) (dv := (.int 0)) rfl rfl (wd G 1 rfl) at_44 (pc' := 46) rfl (by decide) (cap := 0) (by decide) (by decide) (k' := 2) (n' := 4) rfl rfl (by decide) (by decide) ?_
    intro b_1 h_3 k_b_1 E_2 e_b_1 l_b_1 A_b_1
    refine Seg.astore (L' := #[.val (.int p1), .val (.int p2), .val (.int p3), .val (.int p4), .val (.int p5), .val (.int (0 : Int32)), .val (.ref b), .val (.ref b_1), .unset, .unset, .unset]) at_46 rfl rfl (pc' := 48) rfl ?_
    refine Seg.iload at_48 rfl (pc' := 50) rfl ?_
    refine Seg.ifY (pc' := 61) at_50 (by decide) (by decide) (by decide) ?_
    refine Seg.iload at_61 rfl (pc' := 63) rfl ?_
    refine Seg.iconst (v := 1) at_63 (by decide) (pc' := 64) rfl ?_
    refine Seg.icY (pc' := 75) at_64 (by decide) (by decide) (by decide) ?_
    refine Seg.iload at_75 rfl (pc' := 77) rfl ?_
    refine Seg.iconst (v := 2) at_77 (by decide) (pc' := 78) rfl ?_
    refine Seg.icY (pc' := 89) at_78 (by decide) (by decide) (by decide) ?_
    refine Seg.iload at_89 rfl (pc' := 91) rfl ?_
    refine Seg.iconst (v := 3) at_91 (by decide) (pc' := 92) rfl ?_
    refine Seg.icY (pc' := 103) at_92 (by decide) (by decide) (by decide) ?_
    refine Seg.newO (wd G 6 rfl) (wd G 7 rfl) (wd G 8 rfl) at_103 (pc' := 106) rfl (k' := 3) (n' := 8) rfl rfl (by decide) (by decide) ?_
    intro b_4 h_6 E_5 e_b_4 l_b_4 A_b_4 D_b_4
    have F_value_b_4 : Fld Z h_6 b_4 "java/lang/String" "value" "[B" Value.null := D_b_4 (Or.inr (wd G 21 rfl)) (ty := (.array .byte)) (by decide)
    have F_coder_b_4 : Fld Z h_6 b_4 "java/lang/String" "coder" "B" (.int (0 : Int32)) := D_b_4 (Or.inr (wd G 22 rfl)) (ty := .byte) (by decide)
    refine Seg.dup at_106 rfl (pc' := 107) rfl ?_
    refine Seg.aload at_107 rfl rfl (pc' := 109) rfl ?_
    have F_7 := A_b_1.ext E_5
    refine Seg.callN (y' := (⟨"java/lang/String", "<init>", "([C)V"⟩ : MethodName)) (a := b_4) rfl (wd G 9 rfl) (wd G 10 rfl) (wd G 11 rfl) ⟨by decide, by decide⟩ (Pays.of_ct (W := 1) (ct_sie G b_4 b_1 .null (.int 0) k_b_1 (.int 0) h_6 A_b_4 F_value_b_4 F_coder_b_4 F_7) (allS (List.mem_of_getElem? (i := 0) rfl) all0) (wd G 11 rfl) (wd G 8 rfl) (by decide) (by decide) rfl rfl) (argsL := [(.ref b_1)]) (rest := [(.ref b_4)]) rfl (lenOf pd_13 rfl) rfl (Nat.le_of_eq rfl) rfl at_109 (pc' := 112) rfl (k' := 7) (n' := 16) rfl rfl (by decide) (by decide) ?_
    intro v_8 h_11 sz_9 q_10
    obtain ⟨rfl, K8, F8⟩ := q_10
    refine Seg.astore (L' := #[.val (.int p1), .val (.int p2), .val (.int p3), .val (.int p4), .val (.int p5), .val (.int (0 : Int32)), .val (.ref b), .val (.ref b_1), .val (.ref b_4), .unset, .unset]) at_112 rfl rfl (pc' := 114) rfl ?_
    refine Seg.aload at_114 rfl rfl (pc' := 116) rfl ?_
    refine Seg.callS (y' := (⟨"com/example/erne/erne/Values", "withoutTrailingSpaces", "(Ljava/lang/String;)Ljava/lang/String;"⟩ : MethodName)) (wd G 27 rfl) (wd G 28 rfl) (wd G 29 rfl) (wd G 30 rfl) ⟨by decide, by decide⟩ (Pays.of_ct (W := 0) (ct_wts G b_4 [] h_11 F8 (fun c q => nomatch q) (by decide : 0 ≤ 4)) all0 (wd G 30 rfl) (wd G 29 rfl) (by decide) (by decide) rfl rfl) (argsL := [(.ref b_4)]) (rest := []) rfl (lenOf pd_14 rfl) rfl (Nat.le_of_eq rfl) rfl at_116 (pc' := 119) rfl (k' := 9) (n' := 24) rfl rfl (by decide) (by decide) ?_
    intro v_12 h_15 sz_13 q_14
    obtain ⟨r, e, rfl, E1, q1, F1, q2, q3⟩ := q_14
    refine Seg.astore (L' := #[.val (.int p1), .val (.int p2), .val (.int p3), .val (.int p4), .val (.int p5), .val (.int (0 : Int32)), .val (.ref b), .val (.ref b_1), .val (.ref b_4), .val (.ref r), .unset]) at_119 rfl rfl (pc' := 121) rfl ?_
    refine Seg.aload at_121 rfl rfl (pc' := 123) rfl ?_
    refine Seg.nonnY (pc' := 128) at_123 (by decide) (by decide) ?_
    have E_16 : Ext h h_6 := ext_tr E_2 E_5
    have E_17 : Ext h h_11 := ext_kp E_16 K8 (allS (Nat.le_trans E_2.1 (Nat.le_of_eq e_b_4)) all0)
    have E_18 : Ext h h_15 := ext_tr E_17 E1
    have F_19 := K.ext E_18
    replace q1 : e ≤ 0 := q1
    have F2 : Str Z h_15 r ([d0, d1, d2, d3].take e) := by
      have := F1
      rwa [show [] = [d0, d1, d2, d3].take 0 from rfl, List.take_take, Nat.min_eq_left q1] at this
    obtain rfl : e = 0 := Nat.le_zero.mp q1
    have hs : ∀ j, 0 ≤ j → j < 0 → [d0, d1, d2, d3].getD j 0 = 32 := fun j j1 j2 => absurd j2 (by omega)
    have ht : ∀ i, 0 = i + 1 → ¬ [d0, d1, d2, d3].getD i 0 = 32 := fun i i1 => nomatch i1
    exact (sg128 G p1 p2 p3 p4 p5 r b b_1 b_4 kb [d0, d1, d2, d3] 0 0 h_15 F2 (by intro c hc; simp only [List.mem_cons, List.not_mem_nil, or_false] at hc; rcases hc with rfl | rfl | rfl | rfl <;> assumption) rfl (Nat.le_refl _) (by decide) hs ht F_19).mono (by decide) (by decide) all0
  · refine Seg.iload at_42 rfl (pc' := 44) rfl ?_
    refine Seg.newP (ty := .char) (dv := (.int 0)) rfl rfl (wd G 1 rfl) at_44 (pc' := 46) rfl (by decide) (cap := 1) (by decide) (by decide) (k' := 2) (n' := 5) rfl rfl (by decide) (by decide) ?_
    intro b_20 h_22 k_b_20 E_21 e_b_20 l_b_20 A_b_20
    replace A_b_20 : Arv Z h_22 b_20 k_b_20 .char (1 : Int32) [(.int (0 : Int32))] (.int 0) := A_b_20.pad (pad_rep [] (.int 0) 1)
    refine Seg.astore (L' := #[.val (.int p1), .val (.int p2), .val (.int p3), .val (.int p4), .val (.int p5), .val (.int (1 : Int32)), .val (.ref b), .val (.ref b_20), .unset, .unset, .unset]) at_46 rfl rfl (pc' := 48) rfl ?_
    refine Seg.iload at_48 rfl (pc' := 50) rfl ?_
    refine Seg.ifN at_50 (by decide) (pc' := 53) rfl ?_
    refine Seg.aload at_53 rfl rfl (pc' := 55) rfl ?_
    refine Seg.iconst (v := 0) at_55 (by decide) (pc' := 56) rfl ?_
    refine Seg.aload at_56 rfl rfl (pc' := 58) rfl ?_
    refine Seg.iconst (v := 0) at_58 (by decide) (pc' := 59) rfl ?_
    have F_23 := K.ext E_21
    refine Seg.caload (v := (.int d0)) F_23 ⟨by decide, by decide⟩ rfl at_59 (pc' := 60) rfl ?_
    refine Seg.castore (v' := d0) (i := 0) A_b_20 ⟨by decide, by decide⟩ rfl (Nat.le_of_ble_eq_true rfl) (nar255 h1) (List.mem_of_getElem? (i := 0) rfl) at_60 (pc' := 61) rfl ?_
    intro h_26 W_24 A_25
    replace A_25 : Arv Z h_26 b_20 k_b_20 .char (1 : Int32) [(.int d0)] (.int 0) := A_25
    refine Seg.iload at_61 rfl (pc' := 63) rfl ?_
    refine Seg.iconst (v := 1) at_63 (by decide) (pc' := 64) rfl ?_
    refine Seg.icY (pc' := 75) at_64 (by decide) (by decide) (by decide) ?_
    refine Seg.iload at_75 rfl (pc' := 77) rfl ?_
    refine Seg.iconst (v := 2) at_77 (by decide) (pc' := 78) rfl ?_
    refine Seg.icY (pc' := 89) at_78 (by decide) (by decide) (by decide) ?_
    refine Seg.iload at_89 rfl (pc' := 91) rfl ?_
    refine Seg.iconst (v := 3) at_91 (by decide) (pc' := 92) rfl ?_
    refine Seg.icY (pc' := 103) at_92 (by decide) (by decide) (by decide) ?_
    refine Seg.newO (wd G 6 rfl) (wd G 7 rfl) (wd G 8 rfl) at_103 (pc' := 106) rfl (k' := 3) (n' := 9) rfl rfl (by decide) (by decide) ?_
    intro b_27 h_29 E_28 e_b_27 l_b_27 A_b_27 D_b_27
    have F_value_b_27 : Fld Z h_29 b_27 "java/lang/String" "value" "[B" Value.null := D_b_27 (Or.inr (wd G 21 rfl)) (ty := (.array .byte)) (by decide)
    have F_coder_b_27 : Fld Z h_29 b_27 "java/lang/String" "coder" "B" (.int (0 : Int32)) := D_b_27 (Or.inr (wd G 22 rfl)) (ty := .byte) (by decide)
    refine Seg.dup at_106 rfl (pc' := 107) rfl ?_
    refine Seg.aload at_107 rfl rfl (pc' := 109) rfl ?_
    have F_30 := A_25.ext E_28
    refine Seg.callN (y' := (⟨"java/lang/String", "<init>", "([C)V"⟩ : MethodName)) (a := b_27) rfl (wd G 9 rfl) (wd G 10 rfl) (wd G 11 rfl) ⟨by decide, by decide⟩ (pays_str (W := 1) G [d0] 1 h_29 A_b_27 F_value_b_27 F_coder_b_27 F_30 rfl rfl (by decide) (by decide) (by intro c hc; simp only [List.mem_cons, List.not_mem_nil, or_false] at hc; rcases hc with rfl <;> assumption) (List.mem_of_getElem? (i := 0) rfl) (by decide) (by decide)) (argsL := [(.ref b_20)]) (rest := [(.ref b_27)]) rfl (lenOf pd_13 rfl) rfl (Nat.le_of_eq rfl) rfl at_109 (pc' := 112) rfl (k' := 4) (n' := 10) rfl rfl (by decide) (by decide) ?_
    intro v_31 h_34 sz_32 q_33
    obtain ⟨rfl, K8, F8⟩ := q_33
    refine Seg.astore (L' := #[.val (.int p1), .val (.int p2), .val (.int p3), .val (.int p4), .val (.int p5), .val (.int (1 : Int32)), .val (.ref b), .val (.ref b_20), .val (.ref b_27), .unset, .unset]) at_112 rfl rfl (pc' := 114) rfl ?_
    refine Seg.aload at_114 rfl rfl (pc' := 116) rfl ?_
    refine Seg.callS (y' := (⟨"com/example/erne/erne/Values", "withoutTrailingSpaces", "(Ljava/lang/String;)Ljava/lang/String;"⟩ : MethodName)) (wd G 27 rfl) (wd G 28 rfl) (wd G 29 rfl) (wd G 30 rfl) ⟨by decide, by decide⟩ (Pays.of_ct (W := 0) (ct_wts G b_27 [d0] h_34 F8 (by intro c hc; simp only [List.mem_cons, List.not_mem_nil, or_false] at hc; rcases hc with rfl <;> assumption) (by decide : 1 ≤ 4)) all0 (wd G 30 rfl) (wd G 29 rfl) (by decide) (by decide) rfl rfl) (argsL := [(.ref b_27)]) (rest := []) rfl (lenOf pd_14 rfl) rfl (Nat.le_of_eq rfl) rfl at_116 (pc' := 119) rfl (k' := 6) (n' := 18) rfl rfl (by decide) (by decide) ?_
    intro v_35 h_38 sz_36 q_37
    obtain ⟨r, e, rfl, E1, q1, F1, q2, q3⟩ := q_37
    refine Seg.astore (L' := #[.val (.int p1), .val (.int p2), .val (.int p3), .val (.int p4), .val (.int p5), .val (.int (1 : Int32)), .val (.ref b), .val (.ref b_20), .val (.ref b_27), .val (.ref r), .unset]) at_119 rfl rfl (pc' := 121) rfl ?_
    refine Seg.aload at_121 rfl rfl (pc' := 123) rfl ?_
    refine Seg.nonnY (pc' := 128) at_123 (by decide) (by decide) ?_
    have E_39 : Ext h h_26 := ext_wr E_21 W_24 (Nat.le_trans (ext_rfl _).1 (Nat.le_of_eq e_b_20))
    have E_40 : Ext h h_29 := ext_tr E_39 E_28
    have E_41 : Ext h h_34 := ext_kp E_40 K8 (allS (Nat.le_trans E_39.1 (Nat.le_of_eq e_b_27)) all0)
    have E_42 : Ext h h_38 := ext_tr E_41 E1
    have F_43 := K.ext E_42
    replace q1 : e ≤ 1 := q1
    have F2 : Str Z h_38 r ([d0, d1, d2, d3].take e) := by
      have := F1
      rwa [show [d0] = [d0, d1, d2, d3].take 1 from rfl, List.take_take, Nat.min_eq_left q1] at this
    have hs : ∀ j, e ≤ j → j < 1 → [d0, d1, d2, d3].getD j 0 = 32 := fun j j1 j2 => by match j, j2 with
        | 0, _ => exact q2 0 j1 (by decide : 0 < 1)
    have ht : ∀ i, e = i + 1 → ¬ [d0, d1, d2, d3].getD i 0 = 32 := fun i i1 => by
        match i, i1, q1 with
        | 0, i1, _ => exact q3 0 i1
        | i + 1, _, q1 => omega
    exact (sg128 G p1 p2 p3 p4 p5 r b b_20 b_27 kb [d0, d1, d2, d3] e 1 h_38 F2 (by intro c hc; simp only [List.mem_cons, List.not_mem_nil, or_false] at hc; rcases hc with rfl | rfl | rfl | rfl <;> assumption) rfl q1 (by decide) hs ht F_43).mono (by decide) (by decide) all0
  · refine Seg.iload at_42 rfl (pc' := 44) rfl ?_
    refine Seg.newP (ty := .char) (dv := (.int 0)) rfl rfl (wd G 1 rfl) at_44 (pc' := 46) rfl (by decide) (cap := 2) (by decide) (by decide) (k' := 2) (n' := 6) rfl rfl (by decide) (by decide) ?_
    intro b_44 h_46 k_b_44 E_45 e_b_44 l_b_44 A_b_44
    replace A_b_44 : Arv Z h_46 b_44 k_b_44 .char (2 : Int32) [(.int (0 : Int32)), (.int (0 : Int32))] (.int 0) := A_b_44.pad (pad_rep [] (.int 0) 2)
    refine Seg.astore (L' := #[.val (.int p1), .val (.int p2), .val (.int p3), .val (.int p4), .val (.int p5), .val (.int (2 : Int32)), .val (.ref b), .val (.ref b_44), .unset, .unset, .unset]) at_46 rfl rfl (pc' := 48) rfl ?_
    refine Seg.iload at_48 rfl (pc' := 50) rfl ?_
    refine Seg.ifN at_50 (by decide) (pc' := 53) rfl ?_
    refine Seg.aload at_53 rfl rfl (pc' := 55) rfl ?_
    refine Seg.iconst (v := 0) at_55 (by decide) (pc' := 56) rfl ?_
    refine Seg.aload at_56 rfl rfl (pc' := 58) rfl ?_
    refine Seg.iconst (v := 0) at_58 (by decide) (pc' := 59) rfl ?_
    have F_47 := K.ext E_45
    refine Seg.caload (v := (.int d0)) F_47 ⟨by decide, by decide⟩ rfl at_59 (pc' := 60) rfl ?_
    refine Seg.castore (v' := d0) (i := 0) A_b_44 ⟨by decide, by decide⟩ rfl (Nat.le_of_ble_eq_true rfl) (nar255 h1) (List.mem_of_getElem? (i := 0) rfl) at_60 (pc' := 61) rfl ?_
    intro h_50 W_48 A_49
    replace A_49 : Arv Z h_50 b_44 k_b_44 .char (2 : Int32) [(.int d0), (.int (0 : Int32))] (.int 0) := A_49
    refine Seg.iload at_61 rfl (pc' := 63) rfl ?_
    refine Seg.iconst (v := 1) at_63 (by decide) (pc' := 64) rfl ?_
    refine Seg.icN at_64 (by decide) (pc' := 67) rfl ?_
    refine Seg.aload at_67 rfl rfl (pc' := 69) rfl ?_
    refine Seg.iconst (v := 1) at_69 (by decide) (pc' := 70) rfl ?_
    refine Seg.aload at_70 rfl rfl (pc' := 72) rfl ?_
    refine Seg.iconst (v := 1) at_72 (by decide) (pc' := 73) rfl ?_
    have E_51 : Ext h h_50 := ext_wr E_45 W_48 (Nat.le_trans (ext_rfl _).1 (Nat.le_of_eq e_b_44))
    have F_52 := K.ext E_51
    refine Seg.caload (v := (.int d1)) F_52 ⟨by decide, by decide⟩ rfl at_73 (pc' := 74) rfl ?_
    refine Seg.castore (v' := d1) (i := 1) A_49 ⟨by decide, by decide⟩ rfl (Nat.le_of_ble_eq_true rfl) (nar255 h2) (List.mem_of_getElem? (i := 0) rfl) at_74 (pc' := 75) rfl ?_
    intro h_55 W_53 A_54
    replace A_54 : Arv Z h_55 b_44 k_b_44 .char (2 : Int32) [(.int d0), (.int d1)] (.int 0) := A_54
    refine Seg.iload at_75 rfl (pc' := 77) rfl ?_
    refine Seg.iconst (v := 2) at_77 (by decide) (pc' := 78) rfl ?_
    refine Seg.icY (pc' := 89) at_78 (by decide) (by decide) (by decide) ?_
    refine Seg.iload at_89 rfl (pc' := 91) rfl ?_
    refine Seg.iconst (v := 3) at_91 (by decide) (pc' := 92) rfl ?_
    refine Seg.icY (pc' := 103) at_92 (by decide) (by decide) (by decide) ?_
    refine Seg.newO (wd G 6 rfl) (wd G 7 rfl) (wd G 8 rfl) at_103 (pc' := 106) rfl (k' := 3) (n' := 10) rfl rfl (by decide) (by decide) ?_
    intro b_56 h_58 E_57 e_b_56 l_b_56 A_b_56 D_b_56
    have F_value_b_56 : Fld Z h_58 b_56 "java/lang/String" "value" "[B" Value.null := D_b_56 (Or.inr (wd G 21 rfl)) (ty := (.array .byte)) (by decide)
    have F_coder_b_56 : Fld Z h_58 b_56 "java/lang/String" "coder" "B" (.int (0 : Int32)) := D_b_56 (Or.inr (wd G 22 rfl)) (ty := .byte) (by decide)
    refine Seg.dup at_106 rfl (pc' := 107) rfl ?_
    refine Seg.aload at_107 rfl rfl (pc' := 109) rfl ?_
    have F_59 := A_54.ext E_57
    refine Seg.callN (y' := (⟨"java/lang/String", "<init>", "([C)V"⟩ : MethodName)) (a := b_56) rfl (wd G 9 rfl) (wd G 10 rfl) (wd G 11 rfl) ⟨by decide, by decide⟩ (pays_str (W := 1) G [d0, d1] 2 h_58 A_b_56 F_value_b_56 F_coder_b_56 F_59 rfl rfl (by decide) (by decide) (by intro c hc; simp only [List.mem_cons, List.not_mem_nil, or_false] at hc; rcases hc with rfl | rfl <;> assumption) (List.mem_of_getElem? (i := 0) rfl) (by decide) (by decide)) (argsL := [(.ref b_44)]) (rest := [(.ref b_56)]) rfl (lenOf pd_13 rfl) rfl (Nat.le_of_eq rfl) rfl at_109 (pc' := 112) rfl (k' := 4) (n' := 12) rfl rfl (by decide) (by decide) ?_
    intro v_60 h_63 sz_61 q_62
    obtain ⟨rfl, K8, F8⟩ := q_62
    refine Seg.astore (L' := #[.val (.int p1), .val (.int p2), .val (.int p3), .val (.int p4), .val (.int p5), .val (.int (2 : Int32)), .val (.ref b), .val (.ref b_44), .val (.ref b_56), .unset, .unset]) at_112 rfl rfl (pc' := 114) rfl ?_
    refine Seg.aload at_114 rfl rfl (pc' := 116) rfl ?_
    refine Seg.callS (y' := (⟨"com/example/erne/erne/Values", "withoutTrailingSpaces", "(Ljava/lang/String;)Ljava/lang/String;"⟩ : MethodName)) (wd G 27 rfl) (wd G 28 rfl) (wd G 29 rfl) (wd G 30 rfl) ⟨by decide, by decide⟩ (Pays.of_ct (W := 0) (ct_wts G b_56 [d0, d1] h_63 F8 (by intro c hc; simp only [List.mem_cons, List.not_mem_nil, or_false] at hc; rcases hc with rfl | rfl <;> assumption) (by decide : 2 ≤ 4)) all0 (wd G 30 rfl) (wd G 29 rfl) (by decide) (by decide) rfl rfl) (argsL := [(.ref b_56)]) (rest := []) rfl (lenOf pd_14 rfl) rfl (Nat.le_of_eq rfl) rfl at_116 (pc' := 119) rfl (k' := 6) (n' := 20) rfl rfl (by decide) (by decide) ?_
    intro v_64 h_67 sz_65 q_66
    obtain ⟨r, e, rfl, E1, q1, F1, q2, q3⟩ := q_66
    refine Seg.astore (L' := #[.val (.int p1), .val (.int p2), .val (.int p3), .val (.int p4), .val (.int p5), .val (.int (2 : Int32)), .val (.ref b), .val (.ref b_44), .val (.ref b_56), .val (.ref r), .unset]) at_119 rfl rfl (pc' := 121) rfl ?_
    refine Seg.aload at_121 rfl rfl (pc' := 123) rfl ?_
    refine Seg.nonnY (pc' := 128) at_123 (by decide) (by decide) ?_
    have E_68 : Ext h h_55 := ext_wr E_51 W_53 (Nat.le_trans (ext_rfl _).1 (Nat.le_of_eq e_b_44))
    have E_69 : Ext h h_58 := ext_tr E_68 E_57
    have E_70 : Ext h h_63 := ext_kp E_69 K8 (allS (Nat.le_trans E_68.1 (Nat.le_of_eq e_b_56)) all0)
    have E_71 : Ext h h_67 := ext_tr E_70 E1
    have F_72 := K.ext E_71
    replace q1 : e ≤ 2 := q1
    have F2 : Str Z h_67 r ([d0, d1, d2, d3].take e) := by
      have := F1
      rwa [show [d0, d1] = [d0, d1, d2, d3].take 2 from rfl, List.take_take, Nat.min_eq_left q1] at this
    have hs : ∀ j, e ≤ j → j < 2 → [d0, d1, d2, d3].getD j 0 = 32 := fun j j1 j2 => by match j, j2 with
        | 0, _ => exact q2 0 j1 (by decide : 0 < 2)
        | 1, _ => exact q2 1 j1 (by decide : 1 < 2)
    have ht : ∀ i, e = i + 1 → ¬ [d0, d1, d2, d3].getD i 0 = 32 := fun i i1 => by
        match i, i1, q1 with
        | 0, i1, _ => exact q3 0 i1
        | 1, i1, _ => exact q3 1 i1
        | i + 2, _, q1 => omega
    exact (sg128 G p1 p2 p3 p4 p5 r b b_44 b_56 kb [d0, d1, d2, d3] e 2 h_67 F2 (by intro c hc; simp only [List.mem_cons, List.not_mem_nil, or_false] at hc; rcases hc with rfl | rfl | rfl | rfl <;> assumption) rfl q1 (by decide) hs ht F_72).mono (by decide) (by decide) all0
  · refine Seg.iload at_42 rfl (pc' := 44) rfl ?_
    refine Seg.newP (ty := .char) (dv := (.int 0)) rfl rfl (wd G 1 rfl) at_44 (pc' := 46) rfl (by decide) (cap := 3) (by decide) (by decide) (k' := 2) (n' := 7) rfl rfl (by decide) (by decide) ?_
    intro b_73 h_75 k_b_73 E_74 e_b_73 l_b_73 A_b_73
    replace A_b_73 : Arv Z h_75 b_73 k_b_73 .char (3 : Int32) [(.int (0 : Int32)), (.int (0 : Int32)), (.int (0 : Int32))] (.int 0) := A_b_73.pad (pad_rep [] (.int 0) 3)
    refine Seg.astore (L' := #[.val (.int p1), .val (.int p2), .val (.int p3), .val (.int p4), .val (.int p5), .val (.int (3 : Int32)), .val (.ref b), .val (.ref b_73), .unset, .unset, .unset]) at_46 rfl rfl (pc' := 48) rfl ?_
    refine Seg.iload at_48 rfl (pc' := 50) rfl ?_
    refine Seg.ifN at_50 (by decide) (pc' := 53) rfl ?_
    refine Seg.aload at_53 rfl rfl (pc' := 55) rfl ?_
    refine Seg.iconst (v := 0) at_55 (by decide) (pc' := 56) rfl ?_
    refine Seg.aload at_56 rfl rfl (pc' := 58) rfl ?_
    refine Seg.iconst (v := 0) at_58 (by decide) (pc' := 59) rfl ?_
    have F_76 := K.ext E_74
    refine Seg.caload (v := (.int d0)) F_76 ⟨by decide, by decide⟩ rfl at_59 (pc' := 60) rfl ?_
    refine Seg.castore (v' := d0) (i := 0) A_b_73 ⟨by decide, by decide⟩ rfl (Nat.le_of_ble_eq_true rfl) (nar255 h1) (List.mem_of_getElem? (i := 0) rfl) at_60 (pc' := 61) rfl ?_
    intro h_79 W_77 A_78
    replace A_78 : Arv Z h_79 b_73 k_b_73 .char (3 : Int32) [(.int d0), (.int (0 : Int32)), (.int (0 : Int32))] (.int 0) := A_78
    refine Seg.iload at_61 rfl (pc' := 63) rfl ?_
    refine Seg.iconst (v := 1) at_63 (by decide) (pc' := 64) rfl ?_
    refine Seg.icN at_64 (by decide) (pc' := 67) rfl ?_
    refine Seg.aload at_67 rfl rfl (pc' := 69) rfl ?_
    refine Seg.iconst (v := 1) at_69 (by decide) (pc' := 70) rfl ?_
    refine Seg.aload at_70 rfl rfl (pc' := 72) rfl ?_
    refine Seg.iconst (v := 1) at_72 (by decide) (pc' := 73) rfl ?_
    have E_80 : Ext h h_79 := ext_wr E_74 W_77 (Nat.le_trans (ext_rfl _).1 (Nat.le_of_eq e_b_73))
    have F_81 := K.ext E_80
    refine Seg.caload (v := (.int d1)) F_81 ⟨by decide, by decide⟩ rfl at_73 (pc' := 74) rfl ?_
    refine Seg.castore (v' := d1) (i := 1) A_78 ⟨by decide, by decide⟩ rfl (Nat.le_of_ble_eq_true rfl) (nar255 h2) (List.mem_of_getElem? (i := 0) rfl) at_74 (pc' := 75) rfl ?_
    intro h_84 W_82 A_83
    replace A_83 : Arv Z h_84 b_73 k_b_73 .char (3 : Int32) [(.int d0), (.int d1), (.int (0 : Int32))] (.int 0) := A_83
    refine Seg.iload at_75 rfl (pc' := 77) rfl ?_
    refine Seg.iconst (v := 2) at_77 (by decide) (pc' := 78) rfl ?_
    refine Seg.icN at_78 (by decide) (pc' := 81) rfl ?_
    refine Seg.aload at_81 rfl rfl (pc' := 83) rfl ?_
    refine Seg.iconst (v := 2) at_83 (by decide) (pc' := 84) rfl ?_
    refine Seg.aload at_84 rfl rfl (pc' := 86) rfl ?_
    refine Seg.iconst (v := 2) at_86 (by decide) (pc' := 87) rfl ?_
    have E_85 : Ext h h_84 := ext_wr E_80 W_82 (Nat.le_trans (ext_rfl _).1 (Nat.le_of_eq e_b_73))
    have F_86 := K.ext E_85
    refine Seg.caload (v := (.int d2)) F_86 ⟨by decide, by decide⟩ rfl at_87 (pc' := 88) rfl ?_
    refine Seg.castore (v' := d2) (i := 2) A_83 ⟨by decide, by decide⟩ rfl (Nat.le_of_ble_eq_true rfl) (nar255 h3) (List.mem_of_getElem? (i := 0) rfl) at_88 (pc' := 89) rfl ?_
    intro h_89 W_87 A_88
    replace A_88 : Arv Z h_89 b_73 k_b_73 .char (3 : Int32) [(.int d0), (.int d1), (.int d2)] (.int 0) := A_88
    refine Seg.iload at_89 rfl (pc' := 91) rfl ?_
    refine Seg.iconst (v := 3) at_91 (by decide) (pc' := 92) rfl ?_
    refine Seg.icY (pc' := 103) at_92 (by decide) (by decide) (by decide) ?_
    refine Seg.newO (wd G 6 rfl) (wd G 7 rfl) (wd G 8 rfl) at_103 (pc' := 106) rfl (k' := 3) (n' := 11) rfl rfl (by decide) (by decide) ?_
    intro b_90 h_92 E_91 e_b_90 l_b_90 A_b_90 D_b_90
    have F_value_b_90 : Fld Z h_92 b_90 "java/lang/String" "value" "[B" Value.null := D_b_90 (Or.inr (wd G 21 rfl)) (ty := (.array .byte)) (by decide)
    have F_coder_b_90 : Fld Z h_92 b_90 "java/lang/String" "coder" "B" (.int (0 : Int32)) := D_b_90 (Or.inr (wd G 22 rfl)) (ty := .byte) (by decide)
    refine Seg.dup at_106 rfl (pc' := 107) rfl ?_
    refine Seg.aload at_107 rfl rfl (pc' := 109) rfl ?_
    have F_93 := A_88.ext E_91
    refine Seg.callN (y' := (⟨"java/lang/String", "<init>", "([C)V"⟩ : MethodName)) (a := b_90) rfl (wd G 9 rfl) (wd G 10 rfl) (wd G 11 rfl) ⟨by decide, by decide⟩ (pays_str (W := 1) G [d0, d1, d2] 3 h_92 A_b_90 F_value_b_90 F_coder_b_90 F_93 rfl rfl (by decide) (by decide) (by intro c hc; simp only [List.mem_cons, List.not_mem_nil, or_false] at hc; rcases hc with rfl | rfl | rfl <;> assumption) (List.mem_of_getElem? (i := 0) rfl) (by decide) (by decide)) (argsL := [(.ref b_73)]) (rest := [(.ref b_90)]) rfl (lenOf pd_13 rfl) rfl (Nat.le_of_eq rfl) rfl at_109 (pc' := 112) rfl (k' := 4) (n' := 14) rfl rfl (by decide) (by decide) ?_
    intro v_94 h_97 sz_95 q_96
    obtain ⟨rfl, K8, F8⟩ := q_96
    refine Seg.astore (L' := #[.val (.int p1), .val (.int p2), .val (.int p3), .val (.int p4), .val (.int p5), .val (.int (3 : Int32)), .val (.ref b), .val (.ref b_73), .val (.ref b_90), .unset, .unset]) at_112 rfl rfl (pc' := 114) rfl ?_
    refine Seg.aload at_114 rfl rfl (pc' := 116) rfl ?_
    refine Seg.callS (y' := (⟨"com/example/erne/erne/Values", "withoutTrailingSpaces", "(Ljava/lang/String;)Ljava/lang/String;"⟩ : MethodName)) (wd G 27 rfl) (wd G 28 rfl) (wd G 29 rfl) (wd G 30 rfl) ⟨by decide, by decide⟩ (Pays.of_ct (W := 0) (ct_wts G b_90 [d0, d1, d2] h_97 F8 (by intro c hc; simp only [List.mem_cons, List.not_mem_nil, or_false] at hc; rcases hc with rfl | rfl | rfl <;> assumption) (by decide : 3 ≤ 4)) all0 (wd G 30 rfl) (wd G 29 rfl) (by decide) (by decide) rfl rfl) (argsL := [(.ref b_90)]) (rest := []) rfl (lenOf pd_14 rfl) rfl (Nat.le_of_eq rfl) rfl at_116 (pc' := 119) rfl (k' := 6) (n' := 22) rfl rfl (by decide) (by decide) ?_
    intro v_98 h_101 sz_99 q_100
    obtain ⟨r, e, rfl, E1, q1, F1, q2, q3⟩ := q_100
    refine Seg.astore (L' := #[.val (.int p1), .val (.int p2), .val (.int p3), .val (.int p4), .val (.int p5), .val (.int (3 : Int32)), .val (.ref b), .val (.ref b_73), .val (.ref b_90), .val (.ref r), .unset]) at_119 rfl rfl (pc' := 121) rfl ?_
    refine Seg.aload at_121 rfl rfl (pc' := 123) rfl ?_
    refine Seg.nonnY (pc' := 128) at_123 (by decide) (by decide) ?_
    have E_102 : Ext h h_89 := ext_wr E_85 W_87 (Nat.le_trans (ext_rfl _).1 (Nat.le_of_eq e_b_73))
    have E_103 : Ext h h_92 := ext_tr E_102 E_91
    have E_104 : Ext h h_97 := ext_kp E_103 K8 (allS (Nat.le_trans E_102.1 (Nat.le_of_eq e_b_90)) all0)
    have E_105 : Ext h h_101 := ext_tr E_104 E1
    have F_106 := K.ext E_105
    replace q1 : e ≤ 3 := q1
    have F2 : Str Z h_101 r ([d0, d1, d2, d3].take e) := by
      have := F1
      rwa [show [d0, d1, d2] = [d0, d1, d2, d3].take 3 from rfl, List.take_take, Nat.min_eq_left q1] at this
    have hs : ∀ j, e ≤ j → j < 3 → [d0, d1, d2, d3].getD j 0 = 32 := fun j j1 j2 => by match j, j2 with
        | 0, _ => exact q2 0 j1 (by decide : 0 < 3)
        | 1, _ => exact q2 1 j1 (by decide : 1 < 3)
        | 2, _ => exact q2 2 j1 (by decide : 2 < 3)
    have ht : ∀ i, e = i + 1 → ¬ [d0, d1, d2, d3].getD i 0 = 32 := fun i i1 => by
        match i, i1, q1 with
        | 0, i1, _ => exact q3 0 i1
        | 1, i1, _ => exact q3 1 i1
        | 2, i1, _ => exact q3 2 i1
        | i + 3, _, q1 => omega
    exact (sg128 G p1 p2 p3 p4 p5 r b b_73 b_90 kb [d0, d1, d2, d3] e 3 h_101 F2 (by intro c hc; simp only [List.mem_cons, List.not_mem_nil, or_false] at hc; rcases hc with rfl | rfl | rfl | rfl <;> assumption) rfl q1 (by decide) hs ht F_106).mono (by decide) (by decide) all0
  · refine Seg.iload at_42 rfl (pc' := 44) rfl ?_
    refine Seg.newP (ty := .char) (dv := (.int 0)) rfl rfl (wd G 1 rfl) at_44 (pc' := 46) rfl (by decide) (cap := 4) (by decide) (by decide) (k' := 2) (n' := 8) rfl rfl (by decide) (by decide) ?_
    intro b_107 h_109 k_b_107 E_108 e_b_107 l_b_107 A_b_107
    replace A_b_107 : Arv Z h_109 b_107 k_b_107 .char (4 : Int32) [(.int (0 : Int32)), (.int (0 : Int32)), (.int (0 : Int32)), (.int (0 : Int32))] (.int 0) := A_b_107.pad (pad_rep [] (.int 0) 4)
    refine Seg.astore (L' := #[.val (.int p1), .val (.int p2), .val (.int p3), .val (.int p4), .val (.int p5), .val (.int (4 : Int32)), .val (.ref b), .val (.ref b_107), .unset, .unset, .unset]) at_46 rfl rfl (pc' := 48) rfl ?_
    refine Seg.iload at_48 rfl (pc' := 50) rfl ?_
    refine Seg.ifN at_50 (by decide) (pc' := 53) rfl ?_
    refine Seg.aload at_53 rfl rfl (pc' := 55) rfl ?_
    refine Seg.iconst (v := 0) at_55 (by decide) (pc' := 56) rfl ?_
    refine Seg.aload at_56 rfl rfl (pc' := 58) rfl ?_
    refine Seg.iconst (v := 0) at_58 (by decide) (pc' := 59) rfl ?_
    have F_110 := K.ext E_108
    refine Seg.caload (v := (.int d0)) F_110 ⟨by decide, by decide⟩ rfl at_59 (pc' := 60) rfl ?_
    refine Seg.castore (v' := d0) (i := 0) A_b_107 ⟨by decide, by decide⟩ rfl (Nat.le_of_ble_eq_true rfl) (nar255 h1) (List.mem_of_getElem? (i := 0) rfl) at_60 (pc' := 61) rfl ?_
    intro h_113 W_111 A_112
    replace A_112 : Arv Z h_113 b_107 k_b_107 .char (4 : Int32) [(.int d0), (.int (0 : Int32)), (.int (0 : Int32)), (.int (0 : Int32))] (.int 0) := A_112
    refine Seg.iload at_61 rfl (pc' := 63) rfl ?_
    refine Seg.iconst (v := 1) at_63 (by decide) (pc' := 64) rfl ?_
    refine Seg.icN at_64 (by decide) (pc' := 67) rfl ?_
    refine Seg.aload at_67 rfl rfl (pc' := 69) rfl ?_
    refine Seg.iconst (v := 1) at_69 (by decide) (pc' := 70) rfl ?_
    refine Seg.aload at_70 rfl rfl (pc' := 72) rfl ?_
    refine Seg.iconst (v := 1) at_72 (by decide) (pc' := 73) rfl ?_
    have E_114 : Ext h h_113 := ext_wr E_108 W_111 (Nat.le_trans (ext_rfl _).1 (Nat.le_of_eq e_b_107))
    have F_115 := K.ext E_114
    refine Seg.caload (v := (.int d1)) F_115 ⟨by decide, by decide⟩ rfl at_73 (pc' := 74) rfl ?_
    refine Seg.castore (v' := d1) (i := 1) A_112 ⟨by decide, by decide⟩ rfl (Nat.le_of_ble_eq_true rfl) (nar255 h2) (List.mem_of_getElem? (i := 0) rfl) at_74 (pc' := 75) rfl ?_
    intro h_118 W_116 A_117
    replace A_117 : Arv Z h_118 b_107 k_b_107 .char (4 : Int32) [(.int d0), (.int d1), (.int (0 : Int32)), (.int (0 : Int32))] (.int 0) := A_117
    refine Seg.iload at_75 rfl (pc' := 77) rfl ?_
    refine Seg.iconst (v := 2) at_77 (by decide) (pc' := 78) rfl ?_
    refine Seg.icN at_78 (by decide) (pc' := 81) rfl ?_
    refine Seg.aload at_81 rfl rfl (pc' := 83) rfl ?_
    refine Seg.iconst (v := 2) at_83 (by decide) (pc' := 84) rfl ?_
    refine Seg.aload at_84 rfl rfl (pc' := 86) rfl ?_
    refine Seg.iconst (v := 2) at_86 (by decide) (pc' := 87) rfl ?_
    have E_119 : Ext h h_118 := ext_wr E_114 W_116 (Nat.le_trans (ext_rfl _).1 (Nat.le_of_eq e_b_107))
    have F_120 := K.ext E_119
    refine Seg.caload (v := (.int d2)) F_120 ⟨by decide, by decide⟩ rfl at_87 (pc' := 88) rfl ?_
    refine Seg.castore (v' := d2) (i := 2) A_117 ⟨by decide, by decide⟩ rfl (Nat.le_of_ble_eq_true rfl) (nar255 h3) (List.mem_of_getElem? (i := 0) rfl) at_88 (pc' := 89) rfl ?_
    intro h_123 W_121 A_122
    replace A_122 : Arv Z h_123 b_107 k_b_107 .char (4 : Int32) [(.int d0), (.int d1), (.int d2), (.int (0 : Int32))] (.int 0) := A_122
    refine Seg.iload at_89 rfl (pc' := 91) rfl ?_
    refine Seg.iconst (v := 3) at_91 (by decide) (pc' := 92) rfl ?_
    refine Seg.icN at_92 (by decide) (pc' := 95) rfl ?_
    refine Seg.aload at_95 rfl rfl (pc' := 97) rfl ?_
    refine Seg.iconst (v := 3) at_97 (by decide) (pc' := 98) rfl ?_
    refine Seg.aload at_98 rfl rfl (pc' := 100) rfl ?_
    refine Seg.iconst (v := 3) at_100 (by decide) (pc' := 101) rfl ?_
    have E_124 : Ext h h_123 := ext_wr E_119 W_121 (Nat.le_trans (ext_rfl _).1 (Nat.le_of_eq e_b_107))
    have F_125 := K.ext E_124
    refine Seg.caload (v := (.int d3)) F_125 ⟨by decide, by decide⟩ rfl at_101 (pc' := 102) rfl ?_
    refine Seg.castore (v' := d3) (i := 3) A_122 ⟨by decide, by decide⟩ rfl (Nat.le_of_ble_eq_true rfl) (nar255 h4) (List.mem_of_getElem? (i := 0) rfl) at_102 (pc' := 103) rfl ?_
    intro h_128 W_126 A_127
    replace A_127 : Arv Z h_128 b_107 k_b_107 .char (4 : Int32) [(.int d0), (.int d1), (.int d2), (.int d3)] (.int 0) := A_127
    refine Seg.newO (wd G 6 rfl) (wd G 7 rfl) (wd G 8 rfl) at_103 (pc' := 106) rfl (k' := 3) (n' := 12) rfl rfl (by decide) (by decide) ?_
    intro b_129 h_131 E_130 e_b_129 l_b_129 A_b_129 D_b_129
    have F_value_b_129 : Fld Z h_131 b_129 "java/lang/String" "value" "[B" Value.null := D_b_129 (Or.inr (wd G 21 rfl)) (ty := (.array .byte)) (by decide)
    have F_coder_b_129 : Fld Z h_131 b_129 "java/lang/String" "coder" "B" (.int (0 : Int32)) := D_b_129 (Or.inr (wd G 22 rfl)) (ty := .byte) (by decide)
    refine Seg.dup at_106 rfl (pc' := 107) rfl ?_
    refine Seg.aload at_107 rfl rfl (pc' := 109) rfl ?_
    have F_132 := A_127.ext E_130
    refine Seg.callN (y' := (⟨"java/lang/String", "<init>", "([C)V"⟩ : MethodName)) (a := b_129) rfl (wd G 9 rfl) (wd G 10 rfl) (wd G 11 rfl) ⟨by decide, by decide⟩ (pays_str (W := 1) G [d0, d1, d2, d3] 4 h_131 A_b_129 F_value_b_129 F_coder_b_129 F_132 rfl rfl (by decide) (by decide) (by intro c hc; simp only [List.mem_cons, List.not_mem_nil, or_false] at hc; rcases hc with rfl | rfl | rfl | rfl <;> assumption) (List.mem_of_getElem? (i := 0) rfl) (by decide) (by decide)) (argsL := [(.ref b_107)]) (rest := [(.ref b_129)]) rfl (lenOf pd_13 rfl) rfl (Nat.le_of_eq rfl) rfl at_109 (pc' := 112) rfl (k' := 4) (n' := 16) rfl rfl (by decide) (by decide) ?_
    intro v_133 h_136 sz_134 q_135
    obtain ⟨rfl, K8, F8⟩ := q_135
    refine Seg.astore (L' := #[.val (.int p1), .val (.int p2), .val (.int p3), .val (.int p4), .val (.int p5), .val (.int (4 : Int32)), .val (.ref b), .val (.ref b_107), .val (.ref b_129), .unset, .unset]) at_112 rfl rfl (pc' := 114) rfl ?_
    refine Seg.aload at_114 rfl rfl (pc' := 116) rfl ?_
    refine Seg.callS (y' := (⟨"com/example/erne/erne/Values", "withoutTrailingSpaces", "(Ljava/lang/String;)Ljava/lang/String;"⟩ : MethodName)) (wd G 27 rfl) (wd G 28 rfl) (wd G 29 rfl) (wd G 30 rfl) ⟨by decide, by decide⟩ (Pays.of_ct (W := 0) (ct_wts G b_129 [d0, d1, d2, d3] h_136 F8 (by intro c hc; simp only [List.mem_cons, List.not_mem_nil, or_false] at hc; rcases hc with rfl | rfl | rfl | rfl <;> assumption) (by decide : 4 ≤ 4)) all0 (wd G 30 rfl) (wd G 29 rfl) (by decide) (by decide) rfl rfl) (argsL := [(.ref b_129)]) (rest := []) rfl (lenOf pd_14 rfl) rfl (Nat.le_of_eq rfl) rfl at_116 (pc' := 119) rfl (k' := 6) (n' := 24) rfl rfl (by decide) (by decide) ?_
    intro v_137 h_140 sz_138 q_139
    obtain ⟨r, e, rfl, E1, q1, F1, q2, q3⟩ := q_139
    refine Seg.astore (L' := #[.val (.int p1), .val (.int p2), .val (.int p3), .val (.int p4), .val (.int p5), .val (.int (4 : Int32)), .val (.ref b), .val (.ref b_107), .val (.ref b_129), .val (.ref r), .unset]) at_119 rfl rfl (pc' := 121) rfl ?_
    refine Seg.aload at_121 rfl rfl (pc' := 123) rfl ?_
    refine Seg.nonnY (pc' := 128) at_123 (by decide) (by decide) ?_
    have E_141 : Ext h h_128 := ext_wr E_124 W_126 (Nat.le_trans (ext_rfl _).1 (Nat.le_of_eq e_b_107))
    have E_142 : Ext h h_131 := ext_tr E_141 E_130
    have E_143 : Ext h h_136 := ext_kp E_142 K8 (allS (Nat.le_trans E_141.1 (Nat.le_of_eq e_b_129)) all0)
    have E_144 : Ext h h_140 := ext_tr E_143 E1
    have F_145 := K.ext E_144
    replace q1 : e ≤ 4 := q1
    have F2 : Str Z h_140 r ([d0, d1, d2, d3].take e) := by
      have := F1
      rwa [show [d0, d1, d2, d3] = [d0, d1, d2, d3].take 4 from rfl, List.take_take, Nat.min_eq_left q1] at this
    have hs : ∀ j, e ≤ j → j < 4 → [d0, d1, d2, d3].getD j 0 = 32 := fun j j1 j2 => by match j, j2 with
        | 0, _ => exact q2 0 j1 (by decide : 0 < 4)
        | 1, _ => exact q2 1 j1 (by decide : 1 < 4)
        | 2, _ => exact q2 2 j1 (by decide : 2 < 4)
        | 3, _ => exact q2 3 j1 (by decide : 3 < 4)
    have ht : ∀ i, e = i + 1 → ¬ [d0, d1, d2, d3].getD i 0 = 32 := fun i i1 => by
        match i, i1, q1 with
        | 0, i1, _ => exact q3 0 i1
        | 1, i1, _ => exact q3 1 i1
        | 2, i1, _ => exact q3 2 i1
        | 3, i1, _ => exact q3 3 i1
        | i + 4, _, q1 => omega
    exact (sg128 G p1 p2 p3 p4 p5 r b b_107 b_129 kb [d0, d1, d2, d3] e 4 h_140 F2 (by intro c hc; simp only [List.mem_cons, List.not_mem_nil, or_false] at hc; rcases hc with rfl | rfl | rfl | rfl <;> assumption) rfl q1 (by decide) hs ht F_145).mono (by decide) (by decide) all0
set_option maxRecDepth 65536 in
set_option maxHeartbeats 4000000 in
theorem sg0 {l : Launch} {Z : State} {a0 : Array Value} (G : Env1 Z a0) (p1 : Int32) (p2 : Int32) (p3 : Int32) (p4 : Int32) (p5 : Int32) (h0 : Heap) :
    Seg l Z a0 EL1 x code maxLocals ret room_1 (fun v h => v = some (.int 1)) h0 0 0 [] 0 #[.val (.int p1), .val (.int p2), .val (.int p3), .val (.int p4), .val (.int p5), .unset, .unset, .unset, .unset, .unset, .unset] [] := by
  refine Seg.iloadN at_0 rfl (pc' := 1) rfl ?_
  refine Seg.ldcI (wd G 0 rfl) at_1 (pc' := 3) rfl ?_
  refine Seg.iand (v := (p1 &&& (2147483647 : Int32))) at_3 rfl (pc' := 4) rfl ?_
  refine Seg.iconst (v := 5) at_4 (by decide) (pc' := 5) rfl ?_
  refine Seg.irem (v := ((p1 &&& (2147483647 : Int32)) % (5 : Int32))) at_5 (by decide) rfl (pc' := 6) rfl ?_
  refine Seg.istore (L' := #[.val (.int p1), .val (.int p2), .val (.int p3), .val (.int p4), .val (.int p5), .val (.int ((p1 &&& (2147483647 : Int32)) % (5 : Int32))), .unset, .unset, .unset, .unset, .unset]) at_6 rfl (pc' := 8) rfl ?_
  refine Seg.iconst (v := 4) at_8 (by decide) (pc' := 9) rfl ?_
  refine Seg.newP (ty := .char) (dv := (.int 0)) rfl rfl (wd G 1 rfl) at_9 (pc' := 11) rfl (by decide) (cap := 4) (by decide) (by decide) (k' := 1) (n' := 4) rfl rfl (by decide) (by decide) ?_
  intro b_1 h_3 k_b_1 E_2 e_b_1 l_b_1 A_b_1
  replace A_b_1 : Arv Z h_3 b_1 k_b_1 .char (4 : Int32) [(.int (0 : Int32)), (.int (0 : Int32)), (.int (0 : Int32)), (.int (0 : Int32))] (.int 0) := A_b_1.pad (pad_rep [] (.int 0) 4)
  refine Seg.dup at_11 rfl (pc' := 12) rfl ?_
  refine Seg.iconst (v := 0) at_12 (by decide) (pc' := 13) rfl ?_
  refine Seg.iloadN at_13 rfl (pc' := 14) rfl ?_
  refine Seg.callS (y' := (⟨"com/example/erne/erne/ValuesWithoutTrailingSpacesPinLaw", "draw", "(I)C"⟩ : MethodName)) (wd G 2 rfl) (wd G 3 rfl) (wd G 4 rfl) (wd G 5 rfl) ⟨by decide, by decide⟩ (Pays.of_ct (W := 3) (ct_draw G p2 h_3) all0 (wd G 5 rfl) (wd G 4 rfl) (by decide) (by decide) rfl rfl) (argsL := [(.int p2)]) (rest := [(.int (0 : Int32)), (.ref b_1), (.ref b_1)]) rfl (lenOf pd_11 rfl) rfl (Nat.le_of_eq rfl) rfl at_14 (pc' := 17) rfl (k' := 1) (n' := 4) rfl rfl (by decide) (by decide) ?_
  intro v_4 h_7 sz_5 q_6
  obtain ⟨d0, rfl, rfl, z0⟩ := q_6
  refine Seg.castore (v' := d0) (i := 0) A_b_1 ⟨by decide, by decide⟩ rfl (Nat.le_of_ble_eq_true rfl) (nar255 z0) (List.mem_of_getElem? (i := 0) rfl) at_17 (pc' := 18) rfl ?_
  intro h_10 W_8 A_9
  replace A_9 : Arv Z h_10 b_1 k_b_1 .char (4 : Int32) [(.int d0), (.int (0 : Int32)), (.int (0 : Int32)), (.int (0 : Int32))] (.int 0) := A_9
  refine Seg.dup at_18 rfl (pc' := 19) rfl ?_
  refine Seg.iconst (v := 1) at_19 (by decide) (pc' := 20) rfl ?_
  refine Seg.iloadN at_20 rfl (pc' := 21) rfl ?_
  refine Seg.callS (y' := (⟨"com/example/erne/erne/ValuesWithoutTrailingSpacesPinLaw", "draw", "(I)C"⟩ : MethodName)) (wd G 2 rfl) (wd G 3 rfl) (wd G 4 rfl) (wd G 5 rfl) ⟨by decide, by decide⟩ (Pays.of_ct (W := 3) (ct_draw G p3 h_10) all0 (wd G 5 rfl) (wd G 4 rfl) (by decide) (by decide) rfl rfl) (argsL := [(.int p3)]) (rest := [(.int (1 : Int32)), (.ref b_1), (.ref b_1)]) rfl (lenOf pd_11 rfl) rfl (Nat.le_of_eq rfl) rfl at_21 (pc' := 24) rfl (k' := 1) (n' := 4) rfl rfl (by decide) (by decide) ?_
  intro v_11 h_14 sz_12 q_13
  obtain ⟨d1, rfl, rfl, z1⟩ := q_13
  refine Seg.castore (v' := d1) (i := 1) A_9 ⟨by decide, by decide⟩ rfl (Nat.le_of_ble_eq_true rfl) (nar255 z1) (List.mem_of_getElem? (i := 0) rfl) at_24 (pc' := 25) rfl ?_
  intro h_17 W_15 A_16
  replace A_16 : Arv Z h_17 b_1 k_b_1 .char (4 : Int32) [(.int d0), (.int d1), (.int (0 : Int32)), (.int (0 : Int32))] (.int 0) := A_16
  refine Seg.dup at_25 rfl (pc' := 26) rfl ?_
  refine Seg.iconst (v := 2) at_26 (by decide) (pc' := 27) rfl ?_
  refine Seg.iloadN at_27 rfl (pc' := 28) rfl ?_
  refine Seg.callS (y' := (⟨"com/example/erne/erne/ValuesWithoutTrailingSpacesPinLaw", "draw", "(I)C"⟩ : MethodName)) (wd G 2 rfl) (wd G 3 rfl) (wd G 4 rfl) (wd G 5 rfl) ⟨by decide, by decide⟩ (Pays.of_ct (W := 3) (ct_draw G p4 h_17) all0 (wd G 5 rfl) (wd G 4 rfl) (by decide) (by decide) rfl rfl) (argsL := [(.int p4)]) (rest := [(.int (2 : Int32)), (.ref b_1), (.ref b_1)]) rfl (lenOf pd_11 rfl) rfl (Nat.le_of_eq rfl) rfl at_28 (pc' := 31) rfl (k' := 1) (n' := 4) rfl rfl (by decide) (by decide) ?_
  intro v_18 h_21 sz_19 q_20
  obtain ⟨d2, rfl, rfl, z2⟩ := q_20
  refine Seg.castore (v' := d2) (i := 2) A_16 ⟨by decide, by decide⟩ rfl (Nat.le_of_ble_eq_true rfl) (nar255 z2) (List.mem_of_getElem? (i := 0) rfl) at_31 (pc' := 32) rfl ?_
  intro h_24 W_22 A_23
  replace A_23 : Arv Z h_24 b_1 k_b_1 .char (4 : Int32) [(.int d0), (.int d1), (.int d2), (.int (0 : Int32))] (.int 0) := A_23
  refine Seg.dup at_32 rfl (pc' := 33) rfl ?_
  refine Seg.iconst (v := 3) at_33 (by decide) (pc' := 34) rfl ?_
  refine Seg.iload at_34 rfl (pc' := 36) rfl ?_
  refine Seg.callS (y' := (⟨"com/example/erne/erne/ValuesWithoutTrailingSpacesPinLaw", "draw", "(I)C"⟩ : MethodName)) (wd G 2 rfl) (wd G 3 rfl) (wd G 4 rfl) (wd G 5 rfl) ⟨by decide, by decide⟩ (Pays.of_ct (W := 3) (ct_draw G p5 h_24) all0 (wd G 5 rfl) (wd G 4 rfl) (by decide) (by decide) rfl rfl) (argsL := [(.int p5)]) (rest := [(.int (3 : Int32)), (.ref b_1), (.ref b_1)]) rfl (lenOf pd_11 rfl) rfl (Nat.le_of_eq rfl) rfl at_36 (pc' := 39) rfl (k' := 1) (n' := 4) rfl rfl (by decide) (by decide) ?_
  intro v_25 h_28 sz_26 q_27
  obtain ⟨d3, rfl, rfl, z3⟩ := q_27
  refine Seg.castore (v' := d3) (i := 3) A_23 ⟨by decide, by decide⟩ rfl (Nat.le_of_ble_eq_true rfl) (nar255 z3) (List.mem_of_getElem? (i := 0) rfl) at_39 (pc' := 40) rfl ?_
  intro h_31 W_29 A_30
  replace A_30 : Arv Z h_31 b_1 k_b_1 .char (4 : Int32) [(.int d0), (.int d1), (.int d2), (.int d3)] (.int 0) := A_30
  refine Seg.astore (L' := #[.val (.int p1), .val (.int p2), .val (.int p3), .val (.int p4), .val (.int p5), .val (.int ((p1 &&& (2147483647 : Int32)) % (5 : Int32))), .val (.ref b_1), .unset, .unset, .unset, .unset]) at_40 rfl rfl (pc' := 42) rfl ?_
  exact (sg42 G p1 p2 p3 p4 p5 _ b_1 k_b_1 d0 d1 d2 d3 h_31 (rem5 p1) z0 z1 z2 z3 A_30).mono (by decide) (by decide) all0
theorem ef_law (i1 : Int32) (i2 : Int32) (i3 : Int32) (i4 : Int32) (i5 : Int32) (m : MethodId) : entryFrame m #[(.int i1), (.int i2), (.int i3), (.int i4), (.int i5)] maxLocals = mkF m 0 #[.val (.int i1), .val (.int i2), .val (.int i3), .val (.int i4), .val (.int i5), .unset, .unset, .unset, .unset, .unset, .unset] [] := by first | (simp [entryFrame, mkF, argsToLocals, Value.category, maxLocals]; done) | rfl
set_option maxRecDepth 65536 in
set_option maxHeartbeats 40000000 in
theorem comes_1 {Post : Tables → Env → Array Value → State → Outcome → State → Prop} (hpost : ∀ tb e args s v u, (limb_1_1.after args s (.returned v) u = true ∧ limb_1_2.after args s (.returned v) u = true ∧ True) → Jvm.Pilot.@@N@@.Jvm.D.FramedW s (.returned v) u (Jvm.fieldLocs frame_1_writes args s ++ Jvm.arrayLocs frame_1_arrays args s ++ Jvm.staticLocs frame_1_statics s) 24 2176 → Post tb e args s (.returned v) u) :
    Jvm.Pilot.@@N@@.Jvm.D.ArmFor flags0 classFile x code maxLocals ret World_1 tables_1 room_1 Calls_1 rest_1 Pre_1 Post := by
  intro l hfl _ _ p e ha hc hk s m args below hf hA hF happ hP
  obtain ⟨hcalls, hrest, hpre⟩ := hP
  obtain ⟨-, -, -, hnamed, -, -, -, hat⟩ := (Spec.applies_iff hf).mp happ
  obtain ⟨hg, hn⟩ := and_e (Cond.before_iff.mp (show (Jvm.Cond.and given_1 narrow_1).before args s = true from hpre))
  obtain ⟨hc0, g1⟩ := and_e hg
  obtain ⟨a1, g2⟩ := and_e g1
  obtain ⟨a2, g3⟩ := and_e g2
  obtain ⟨a3, g4⟩ := and_e g3
  obtain ⟨a4, g5⟩ := and_e g4
  obtain ⟨w0, w1, w2, w3, w4, rfl⟩ : ∃ w0 w1 w2 w3 w4 : Value, args = #[w0, w1, w2, w3, w4] := by
    have hs : args.size = 5 := by simpa [Cond.value, given_1] using hc0
    obtain ⟨L⟩ := args
    match L, hs with
    | [w0, w1, w2, w3, w4], _ => exact ⟨w0, w1, w2, w3, w4, rfl⟩
  have hw := fun d (hd : d ∈ tables_1) => atoms_spec (ws := Jvm.Cond.code x code maxLocals ret :: tables_1) hat d (List.mem_cons_of_mem _ hd)
  obtain ⟨hsets, hown0⟩ := atoms_of _ (rest_1_c_eq ▸ (show rest_1_c.before _ s = true from hrest))
  have hfit : Fit s := fun {y c} hc i hi => by
    obtain ⟨ha, rfl⟩ := Array.getElem?_eq_some_iff.mp hc
    have q := List.all_eq_true.mp ((Array.all_eq_true_iff_forall_mem.mp hF) _ (Array.getElem_mem ha)) i (List.mem_range.mpr hi)
    simpa [Array.getElem?_eq_getElem hi] using q
  obtain ⟨i1, u0⟩ := is_v a1
  obtain rfl : w0 = (.int i1) := Option.some.inj u0
  obtain ⟨i2, u1⟩ := is_v a2
  obtain rfl : w1 = (.int i2) := Option.some.inj u1
  obtain ⟨i3, u2⟩ := is_v a3
  obtain rfl : w2 = (.int i3) := Option.some.inj u2
  obtain ⟨i4, u3⟩ := is_v a4
  obtain rfl : w3 = (.int i4) := Option.some.inj u3
  obtain ⟨i5, u4⟩ := is_v g5
  obtain rfl : w4 = (.int i5) := Option.some.inj u4
  obtain ⟨zc, ec⟩ := is_v (Cond.before_iff.mp (hsets _ (List.mem_of_getElem? (i := 1) rfl)))
  have Sc : Sta s s.heap "java/lang/String" "COMPACT_STRINGS" "Z" (.int zc) := Sta.start ec (Or.inl (hsets _ (List.mem_of_getElem? (i := 0) rfl)))
  have hcw := hsets _ (List.mem_of_getElem? (i := 2) rfl)
  have hzc : ¬ (zc = (0 : Int32)) := gotF (Cond.eq_ints ec (Term.int_eval (0))) (not_v (Cond.before_iff.mp hcw))
  have hEW : EW s #[(.int i1), (.int i2), (.int i3), (.int i4), (.int i5)] EL1 := (EW.cons (hw _ (List.mem_of_getElem? (i := 19) rfl)) (by decide) (EW.cons (hw _ (List.mem_of_getElem? (i := 94) rfl)) (by decide) EW.nil))
  obtain ⟨fm, ef0, hfm⟩ := isR_v (Cond.before_iff.mp (hsets _ (List.mem_of_getElem? (i := 8) rfl)))
  have Sfm : Sta s s.heap "jdk/internal/util/Preconditions" "SIOOBE_FORMATTER" "Ljava/util/function/BiFunction;" fm := Sta.start ef0 (Or.inl (hsets _ (List.mem_of_getElem? (i := 7) rfl)))
  have G : Env1 s #[(.int i1), (.int i2), (.int i3), (.int i4), (.int i5)] := ⟨hw, hEW, ⟨zc, Sc, hzc⟩, ⟨fm, Sfm, hfm⟩⟩
  have hH : CHv s EL1 s.vm s.heap := CHv.start hEW (fun p hp => hcalls.1 p hp) hcw (hw _ (List.mem_of_getElem? (i := 20) rfl)) (hw _ (List.mem_of_getElem? (i := 7) rfl))
  have ct : Ct l s EL1 [] tables_1 x code maxLocals ret room_1 #[(.int i1), (.int i2), (.int i3), (.int i4), (.int i5)] s.heap (fun v h => v = some (.int 1)) := Ct.of_seg (a0 := #[(.int i1), (.int i2), (.int i3), (.int i4), (.int i5)]) (plainFor_of_name pn_com_example_erne_erne_ValuesWithoutTrailingSpacesPinLaw) G.2.1 (ef_law i1 i2 i3 i4 i5) (sg0 G i1 i2 i3 i4 i5 s.heap)
  obtain ⟨n, o, h1, h2, h3, v, L, rfl, ⟨N, -, rfl⟩, -, hq⟩ := ct p e ha hc hk s m _ below hf ((Spec.applies_iff_loose hf).mp happ).1 ⟨rfl, State.Warmed39.refl s, rfl, hH, (fun x q => nomatch q), ext_rfl _⟩ trivial
  refine ⟨n, _, h1, h2, h3, hpost _ _ _ _ _ _ ⟨Cond.after_iff.mpr rfl, Cond.after_iff.mpr (eq_i res_at (Term.int_eval (1)) rfl), trivial⟩ ?_⟩
  exact ⟨hq.1, hq.2.1, hq.2.2.1, (hq.2.2.2.sift fun y hy => Or.inr (N y hy)).mono (by decide) (by decide)⟩
theorem main_1_1 : Claimed_1_1 := comes_1 fun _ _ _ _ _ _ h hF => ⟨h.1, hF⟩
theorem main_1_2 : Claimed_1_2 := comes_1 fun _ _ _ _ _ _ h hF => ⟨h.2.1, hF⟩
end Jvm.Pilot.@@N@@
namespace Jvm.Pilot.@@N@@
open Jvm Jvm.ClassFile Sem Op Lib Jvm.Free Jvm.Stand Jvm.Pilot.@@N@@.Jvm.D
/-! MADE BY PROGRAM (witnessworld.py) out of the Statement's table words and the real class files: 23 classes; the members and pool entries that the words name. The judged class is class 1, her method 1. -/
namespace start1
open Jvm.ClassFile
def u (s : String) : CpInfo := .utf8 (stringToUtf16 s)
/-- a pool by its gaps: so many unusable entries, then the entry; so many at the end -/
def gap : Nat → List CpInfo → List CpInfo
  | 0, r => r
  | n + 1, r => .unusable :: gap n r
def poolList (es : List (Nat × CpInfo)) (last : Nat) : List CpInfo := es.foldr (fun e r => gap e.1 (e.2 :: r)) (gap last [])
def pool (es : List (Nat × CpInfo)) (last : Nat) : Array CpInfo := ⟨poolList es last⟩
def fileOf (pool : Array CpInfo) (this : Nat) (attrs : Array Attribute := #[]) (ms : Array MethodInfo := #[]) (fl : Nat := 33) (sup : Nat := 0) (ifs : Array Nat := #[]) (fds : Array FieldInfo := #[]) : ClassFile where
  minorVersion := 0
  majorVersion := 65
  constantPool := pool
  accessFlags := fl
  thisClass := this
  superClass := sup
  interfaces := ifs
  fields := fds
  methods := ms
  attributes := attrs
def plain (name : String) (sup : Option ClassId) : Class where
  name := name
  kind := .ordinary
  loader := none
  accessFlags := 33
  super := sup
  interfaces := #[]
  cf := none
  fields := #[]
  methods := #[]
  instanceTypes := #[]
  staticTypes := #[]
  resolved := #[]
  callSites := []
  init := .initialized
  statics := none
  mirror := none

def pool0 : Array CpInfo := pool [(5, u "<init>"), (0, u "()V"), (1, .class_ 10), (1, u "java/lang/Object")] 113

def k0c0 : Code := { maxStack := 0, maxLocals := 1, code := object_method_1_code, exceptionTable := #[], attributes := #[] }
def k0m0 : Method := { name := "<init>", desc := "()V", sig := { parameters := [], returnType := none }, accessFlags := 1, code := some k0c0 }
/-- java/lang/Object -/
def k0 : Class := { plain "java/lang/Object" none with
  accessFlags := 33
  interfaces := #[]
  cf := some (fileOf pool0 8 #[] #[{ accessFlags := 1, nameIndex := 5, descriptorIndex := 6, attributes := #[] }] 33 0 #[] #[])
  fields := #[]
  methods := #[k0m0]
  instanceTypes := #[]
  staticTypes := #[]
  resolved := Array.replicate 124 none
  statics := none }

def pool1 : Array CpInfo := pool [(2, .class_ 4), (1, u "java/lang/Object"), (0, u "<init>"), (0, u "()V"), (0, .integer 2147483647), (0, .methodref 9 10), (0, .class_ 11), (0, .nameAndType 12 13), (0, u "com/example/erne/erne/ValuesWithoutTrailingSpacesPinLaw"), (0, u "draw"), (0, u "(I)C"), (0, .class_ 15), (0, u "java/lang/String"), (0, .methodref 14 17), (0, .nameAndType 5 18), (0, u "([C)V"), (0, .methodref 20 21), (0, .class_ 22), (0, .nameAndType 23 24), (0, u "com/example/erne/erne/Values"), (0, u "withoutTrailingSpaces"), (0, u "(Ljava/lang/String;)Ljava/lang/String;"), (0, .methodref 14 26), (0, .nameAndType 27 28), (0, u "length"), (0, u "()I"), (0, .methodref 9 30), (0, .nameAndType 31 32), (0, u "at"), (0, u "(Ljava/lang/String;II[CI)Z"), (0, .methodref 14 34), (0, .nameAndType 35 13), (0, u "charAt"), (2, u "law"), (0, u "(IIIII)Z")] 5

def k1m0 : Method := { name := "<init>", desc := "()V", sig := { parameters := [], returnType := none }, accessFlags := 1, code := none }
def k1c1 : Code := { maxStack := 5, maxLocals := 11, code := code, exceptionTable := #[], attributes := #[] }
def k1m1 : Method := { name := "law", desc := "(IIIII)Z", sig := { parameters := [.int, .int, .int, .int, .int], returnType := some .boolean }, accessFlags := 9, code := some k1c1 }
def k1c2 : Code := { maxStack := 2, maxLocals := 1, code := method_3_code, exceptionTable := #[], attributes := #[] }
def k1m2 : Method := { name := "draw", desc := "(I)C", sig := { parameters := [.int], returnType := some .char }, accessFlags := 10, code := some k1c2 }
def k1c3 : Code := { maxStack := 3, maxLocals := 5, code := method_4_code, exceptionTable := #[], attributes := #[] }
def k1m3 : Method := { name := "at", desc := "(Ljava/lang/String;II[CI)Z", sig := { parameters := [(.object "java/lang/String"), .int, .int, (.array .char), .int], returnType := some .boolean }, accessFlags := 10, code := some k1c3 }
/-- com/example/erne/erne/ValuesWithoutTrailingSpacesPinLaw -/
def k1 : Class := { plain "com/example/erne/erne/ValuesWithoutTrailingSpacesPinLaw" (some 0) with
  accessFlags := 49
  interfaces := #[]
  cf := some (fileOf pool1 9 #[] #[{ accessFlags := 1, nameIndex := 5, descriptorIndex := 6, attributes := #[] }, { accessFlags := 9, nameIndex := 38, descriptorIndex := 39, attributes := #[] }, { accessFlags := 10, nameIndex := 12, descriptorIndex := 13, attributes := #[] }, { accessFlags := 10, nameIndex := 31, descriptorIndex := 32, attributes := #[] }] 49 2 #[] #[])
  fields := #[]
  methods := #[k1m0, k1m1, k1m2, k1m3]
  instanceTypes := #[]
  staticTypes := #[]
  resolved := Array.replicate 45 none
  statics := none }

def pool2 : Array CpInfo := pool [(1, .class_ 2), (0, u "java/io/Serializable"), (0, .class_ 4), (0, u "java/lang/Object")] 2

/-- java/io/Serializable -/
def k2 : Class := { plain "java/io/Serializable" (some 0) with
  accessFlags := 1537
  interfaces := #[]
  cf := some (fileOf pool2 1 #[] #[] 1537 3 #[] #[])
  fields := #[]
  methods := #[]
  instanceTypes := #[]
  staticTypes := #[]
  resolved := Array.replicate 7 none
  statics := none }

def pool3 : Array CpInfo := pool [(1, .class_ 2), (0, u "java/lang/Comparable"), (0, .class_ 4), (0, u "java/lang/Object")] 7

/-- java/lang/Comparable -/
def k3 : Class := { plain "java/lang/Comparable" (some 0) with
  accessFlags := 1537
  interfaces := #[]
  cf := some (fileOf pool3 1 #[] #[] 1537 3 #[] #[])
  fields := #[]
  methods := #[]
  instanceTypes := #[]
  staticTypes := #[]
  resolved := Array.replicate 12 none
  statics := none }

def pool4 : Array CpInfo := pool [(2, .class_ 4), (1, u "java/lang/CharSequence"), (42, .class_ 48), (0, u "java/lang/CharSequence$1CodePointIterator"), (10, .class_ 60), (0, u "java/lang/CharSequence$1CharIterator"), (5, .class_ 67), (0, u "java/lang/Object")] 63

/-- java/lang/CharSequence -/
def k4 : Class := { plain "java/lang/CharSequence" (some 0) with
  accessFlags := 1537
  interfaces := #[]
  cf := some (fileOf pool4 2 #[.nestMembers #[47, 59]] #[] 1537 66 #[] #[])
  fields := #[]
  methods := #[]
  instanceTypes := #[]
  staticTypes := #[]
  resolved := Array.replicate 131 none
  statics := none }

def pool5 : Array CpInfo := pool [(1, .class_ 2), (0, u "java/lang/constant/Constable"), (0, .class_ 4), (0, u "java/lang/Object")] 6

/-- java/lang/constant/Constable -/
def k5 : Class := { plain "java/lang/constant/Constable" (some 0) with
  accessFlags := 1537
  interfaces := #[]
  cf := some (fileOf pool5 1 #[] #[] 1537 3 #[] #[])
  fields := #[]
  methods := #[]
  instanceTypes := #[]
  staticTypes := #[]
  resolved := Array.replicate 11 none
  statics := none }

def pool6 : Array CpInfo := pool [(1, .class_ 2), (0, u "java/lang/constant/ConstantDesc"), (0, .class_ 4), (0, u "java/lang/Object")] 32

/-- java/lang/constant/ConstantDesc -/
def k6 : Class := { plain "java/lang/constant/ConstantDesc" (some 0) with
  accessFlags := 1537
  interfaces := #[]
  cf := some (fileOf pool6 1 #[] #[] 1537 3 #[] #[])
  fields := #[]
  methods := #[]
  instanceTypes := #[]
  staticTypes := #[]
  resolved := Array.replicate 37 none
  statics := none }

def pool7 : Array CpInfo := pool [(1, .methodref 2 3), (0, .class_ 4), (0, .nameAndType 5 6), (0, u "java/lang/Object"), (0, u "<init>"), (0, u "()V"), (0, .string 8), (0, u ""), (0, .fieldref 10 11), (0, .class_ 12), (0, .nameAndType 13 14), (0, u "java/lang/String"), (0, u "value"), (0, u "[B"), (0, .fieldref 10 16), (0, .nameAndType 17 18), (0, u "coder"), (0, u "B"), (2, u "hash"), (0, u "I"), (2, u "hashIsZero"), (0, u "Z"), (0, .methodref 10 28), (0, .nameAndType 5 29), (0, u "([CIILjava/lang/Void;)V"), (8, .fieldref 10 39), (0, .nameAndType 40 26), (0, u "COMPACT_STRINGS"), (1, .class_ 44), (1, u "java/lang/StringUTF16"), (0, u "compress"), (1, .methodref 42 48), (0, .nameAndType 49 50), (0, u "coderFromArrayLen"), (0, u "([BI)B"), (56, .class_ 109), (1, u "java/lang/StringLatin1"), (32, u "()Z"), (34, .methodref 42 178), (0, .nameAndType 45 179), (0, u "([CII)[B"), (31, u "([BB)V"), (122, u "()I"), (0, .methodref 10 336), (0, .nameAndType 17 337), (0, u "()B"), (25, u "([BI)C"), (27, u "(II)V"), (35, u "(I)C"), (64, .methodref 10 493), (0, .nameAndType 494 142), (0, u "isLatin1"), (0, .methodref 107 496), (0, .nameAndType 497 363), (0, u "charAt"), (3, u "checkIndex"), (3, .methodref 10 506), (0, .nameAndType 507 334), (0, u "length"), (5, u "checkFromToIndex"), (7, .methodref 10 522), (0, .nameAndType 523 524), (0, u "checkBoundsBeginEnd"), (0, u "(III)V"), (50, .class_ 576), (0, u "java/lang/CharSequence"), (22, u "CASE_INSENSITIVE_ORDER"), (0, u "Ljava/util/Comparator;"), (82, u "substring"), (0, u "(II)Ljava/lang/String;"), (0, .methodref 107 686), (0, .nameAndType 687 688), (0, u "newString"), (0, u "([BII)Ljava/lang/String;"), (321, u "([C)V"), (42, .fieldref 1054 1055), (0, .class_ 1056), (0, .nameAndType 1057 1058), (0, u "jdk/internal/util/Preconditions"), (0, u "SIOOBE_FORMATTER"), (0, u "Ljava/util/function/BiFunction;"), (0, .methodref 1054 1060), (0, .nameAndType 501 1061), (0, u "(IILjava/util/function/BiFunction;)I"), (0, .methodref 1054 1063), (0, .nameAndType 513 1064), (0, u "(IIILjava/util/function/BiFunction;)I"), (36, u "serialPersistentFields"), (0, u "[Ljava/io/ObjectStreamField;"), (0, .class_ 1104), (0, u "java/lang/String$CaseInsensitiveComparator"), (1, .class_ 1107), (0, u "java/io/Serializable"), (0, .class_ 1109), (0, u "java/lang/Comparable"), (0, .class_ 1111), (0, u "java/lang/constant/Constable"), (0, .class_ 1113), (0, u "java/lang/constant/ConstantDesc"), (2, u "serialVersionUID"), (0, u "J"), (3, u "REPL"), (0, u "C"), (2, u "LATIN1"), (1, u "UTF16")] 323

def k7m0 : Method := { name := "<init>", desc := "()V", sig := { parameters := [], returnType := none }, accessFlags := 1, code := none }
def k7c1 : Code := { maxStack := 5, maxLocals := 2, code := jdk_42_method_3_code, exceptionTable := #[], attributes := #[] }
def k7m1 : Method := { name := "<init>", desc := "([C)V", sig := { parameters := [(.array .char)], returnType := none }, accessFlags := 1, code := some k7c1 }
def k7c2 : Code := { maxStack := 2, maxLocals := 1, code := jdk_42_method_54_code, exceptionTable := #[], attributes := #[] }
def k7m2 : Method := { name := "length", desc := "()I", sig := { parameters := [], returnType := some .int }, accessFlags := 1, code := some k7c2 }
def k7c3 : Code := { maxStack := 2, maxLocals := 2, code := jdk_42_method_56_code, exceptionTable := #[], attributes := #[] }
def k7m3 : Method := { name := "charAt", desc := "(I)C", sig := { parameters := [.int], returnType := some .char }, accessFlags := 1, code := some k7c3 }
def k7c4 : Code := { maxStack := 3, maxLocals := 5, code := jdk_42_method_92_code, exceptionTable := #[], attributes := #[] }
def k7m4 : Method := { name := "substring", desc := "(II)Ljava/lang/String;", sig := { parameters := [.int, .int], returnType := some (.object "java/lang/String") }, accessFlags := 1, code := some k7c4 }
def k7c5 : Code := { maxStack := 4, maxLocals := 6, code := jdk_42_method_149_code, exceptionTable := #[], attributes := #[] }
def k7m5 : Method := { name := "<init>", desc := "([CIILjava/lang/Void;)V", sig := { parameters := [(.array .char), .int, .int, (.object "java/lang/Void")], returnType := none }, accessFlags := 2, code := some k7c5 }
def k7c6 : Code := { maxStack := 2, maxLocals := 3, code := jdk_42_method_151_code, exceptionTable := #[], attributes := #[] }
def k7m6 : Method := { name := "<init>", desc := "([BB)V", sig := { parameters := [(.array .byte), .byte], returnType := none }, accessFlags := 0, code := some k7c6 }
def k7c7 : Code := { maxStack := 1, maxLocals := 1, code := jdk_42_method_152_code, exceptionTable := #[], attributes := #[] }
def k7m7 : Method := { name := "coder", desc := "()B", sig := { parameters := [], returnType := some .byte }, accessFlags := 0, code := some k7c7 }
def k7c8 : Code := { maxStack := 1, maxLocals := 1, code := jdk_42_method_154_code, exceptionTable := #[], attributes := #[] }
def k7m8 : Method := { name := "isLatin1", desc := "()Z", sig := { parameters := [], returnType := some .boolean }, accessFlags := 0, code := some k7c8 }
def k7c9 : Code := { maxStack := 3, maxLocals := 2, code := jdk_42_method_155_code, exceptionTable := #[], attributes := #[] }
def k7m9 : Method := { name := "checkIndex", desc := "(II)V", sig := { parameters := [.int, .int], returnType := none }, accessFlags := 8, code := some k7c9 }
def k7c10 : Code := { maxStack := 4, maxLocals := 3, code := jdk_42_method_158_code, exceptionTable := #[], attributes := #[] }
def k7m10 : Method := { name := "checkBoundsBeginEnd", desc := "(III)V", sig := { parameters := [.int, .int, .int], returnType := none }, accessFlags := 8, code := some k7c10 }
/-- java/lang/String -/
def k7 : Class := { plain "java/lang/String" (some 0) with
  accessFlags := 49
  interfaces := #[2, 3, 4, 5, 6]
  cf := some (fileOf pool7 10 #[.nestMembers #[1103]] #[{ accessFlags := 1, nameIndex := 5, descriptorIndex := 6, attributes := #[] }, { accessFlags := 1, nameIndex := 5, descriptorIndex := 1010, attributes := #[] }, { accessFlags := 1, nameIndex := 507, descriptorIndex := 334, attributes := #[] }, { accessFlags := 1, nameIndex := 497, descriptorIndex := 427, attributes := #[] }, { accessFlags := 1, nameIndex := 683, descriptorIndex := 684, attributes := #[] }, { accessFlags := 2, nameIndex := 5, descriptorIndex := 29, attributes := #[] }, { accessFlags := 0, nameIndex := 5, descriptorIndex := 211, attributes := #[] }, { accessFlags := 0, nameIndex := 17, descriptorIndex := 337, attributes := #[] }, { accessFlags := 0, nameIndex := 494, descriptorIndex := 142, attributes := #[] }, { accessFlags := 8, nameIndex := 501, descriptorIndex := 391, attributes := #[] }, { accessFlags := 8, nameIndex := 523, descriptorIndex := 524, attributes := #[] }] 49 2 #[1106, 1108, 575, 1110, 1112] #[{ accessFlags := 18, nameIndex := 13, descriptorIndex := 14, attributes := #[] }, { accessFlags := 18, nameIndex := 17, descriptorIndex := 18, attributes := #[] }, { accessFlags := 2, nameIndex := 21, descriptorIndex := 22, attributes := #[] }, { accessFlags := 2, nameIndex := 25, descriptorIndex := 26, attributes := #[] }, { accessFlags := 26, nameIndex := 1116, descriptorIndex := 1117, attributes := #[] }, { accessFlags := 24, nameIndex := 40, descriptorIndex := 26, attributes := #[] }, { accessFlags := 26, nameIndex := 1101, descriptorIndex := 1102, attributes := #[] }, { accessFlags := 26, nameIndex := 1121, descriptorIndex := 1122, attributes := #[] }, { accessFlags := 25, nameIndex := 599, descriptorIndex := 600, attributes := #[] }, { accessFlags := 24, nameIndex := 1125, descriptorIndex := 18, attributes := #[] }, { accessFlags := 24, nameIndex := 1127, descriptorIndex := 18, attributes := #[] }])
  fields := #[{ name := "value", type := (.array .byte), accessFlags := 18, slot := 0, constantValue := 0 }, { name := "coder", type := .byte, accessFlags := 18, slot := 1, constantValue := 0 }, { name := "hash", type := .int, accessFlags := 2, slot := 2, constantValue := 0 }, { name := "hashIsZero", type := .boolean, accessFlags := 2, slot := 3, constantValue := 0 }, { name := "serialVersionUID", type := .long, accessFlags := 26, slot := 0, constantValue := 0 }, { name := "COMPACT_STRINGS", type := .boolean, accessFlags := 24, slot := 1, constantValue := 0 }, { name := "serialPersistentFields", type := (.array (.object "java/io/ObjectStreamField")), accessFlags := 26, slot := 2, constantValue := 0 }, { name := "REPL", type := .char, accessFlags := 26, slot := 3, constantValue := 0 }, { name := "CASE_INSENSITIVE_ORDER", type := (.object "java/util/Comparator"), accessFlags := 25, slot := 4, constantValue := 0 }, { name := "LATIN1", type := .byte, accessFlags := 24, slot := 5, constantValue := 0 }, { name := "UTF16", type := .byte, accessFlags := 24, slot := 6, constantValue := 0 }]
  methods := #[k7m0, k7m1, k7m2, k7m3, k7m4, k7m5, k7m6, k7m7, k7m8, k7m9, k7m10]
  instanceTypes := #[(.array .byte), .byte, .int, .boolean]
  staticTypes := #[.long, .boolean, (.array (.object "java/io/ObjectStreamField")), .char, (.object "java/util/Comparator"), .byte, .byte]
  resolved := Array.replicate 1451 none
  statics := some 0 }

def pool8 : Array CpInfo := pool [(2, .class_ 4), (1, u "java/lang/Object"), (0, u "<init>"), (0, u "()V"), (0, .class_ 8), (0, u "java/lang/String"), (20, u "length"), (15, .class_ 47), (1, u "com/example/erne/erne/Values"), (0, u "SQL_TIMESTAMP"), (0, u "Ljava/time/format/DateTimeFormatter;"), (90, u "()I"), (44, .methodref 7 186), (0, .nameAndType 29 140), (0, .methodref 7 188), (0, .nameAndType 189 190), (0, u "charAt"), (0, u "(I)C"), (0, .methodref 7 192), (0, .nameAndType 193 194), (0, u "substring"), (0, u "(II)Ljava/lang/String;"), (29, u "NULL_RANK"), (0, u "I"), (2, u "NUMBER_RANK"), (1, u "TEXT_RANK"), (1, u "BLOB_RANK"), (1, u "MOST_PLAIN_ZEROS"), (11, u "withoutTrailingSpaces"), (0, u "(Ljava/lang/String;)Ljava/lang/String;")] 3

def k8m0 : Method := { name := "<init>", desc := "()V", sig := { parameters := [], returnType := none }, accessFlags := 2, code := none }
def k8c1 : Code := { maxStack := 3, maxLocals := 2, code := prog_32_method_5_code, exceptionTable := #[], attributes := #[] }
def k8m1 : Method := { name := "withoutTrailingSpaces", desc := "(Ljava/lang/String;)Ljava/lang/String;", sig := { parameters := [(.object "java/lang/String")], returnType := some (.object "java/lang/String") }, accessFlags := 8, code := some k8c1 }
/-- com/example/erne/erne/Values -/
def k8 : Class := { plain "com/example/erne/erne/Values" (some 0) with
  accessFlags := 49
  interfaces := #[]
  cf := some (fileOf pool8 45 #[] #[{ accessFlags := 2, nameIndex := 5, descriptorIndex := 6, attributes := #[] }, { accessFlags := 8, nameIndex := 246, descriptorIndex := 247, attributes := #[] }] 49 2 #[] #[{ accessFlags := 26, nameIndex := 224, descriptorIndex := 225, attributes := #[] }, { accessFlags := 26, nameIndex := 228, descriptorIndex := 225, attributes := #[] }, { accessFlags := 26, nameIndex := 230, descriptorIndex := 225, attributes := #[] }, { accessFlags := 26, nameIndex := 232, descriptorIndex := 225, attributes := #[] }, { accessFlags := 26, nameIndex := 234, descriptorIndex := 225, attributes := #[] }, { accessFlags := 26, nameIndex := 48, descriptorIndex := 49, attributes := #[] }])
  fields := #[{ name := "NULL_RANK", type := .int, accessFlags := 26, slot := 0, constantValue := 0 }, { name := "NUMBER_RANK", type := .int, accessFlags := 26, slot := 1, constantValue := 0 }, { name := "TEXT_RANK", type := .int, accessFlags := 26, slot := 2, constantValue := 0 }, { name := "BLOB_RANK", type := .int, accessFlags := 26, slot := 3, constantValue := 0 }, { name := "MOST_PLAIN_ZEROS", type := .int, accessFlags := 26, slot := 4, constantValue := 0 }, { name := "SQL_TIMESTAMP", type := (.object "java/time/format/DateTimeFormatter"), accessFlags := 26, slot := 5, constantValue := 0 }]
  methods := #[k8m0, k8m1]
  instanceTypes := #[]
  staticTypes := #[.int, .int, .int, .int, .int, (.object "java/time/format/DateTimeFormatter")]
  resolved := Array.replicate 251 none
  statics := none }

def pool9 : Array CpInfo := pool [(2, .class_ 4), (1, u "java/lang/Object"), (0, u "<init>"), (0, u "()V"), (17, .class_ 26), (1, u "jdk/internal/util/Preconditions"), (6, u "checkIndex"), (13, u "checkFromToIndex"), (7, .class_ 56), (0, u "jdk/internal/util/Preconditions$4"), (57, .class_ 115), (0, u "jdk/internal/util/Preconditions$1"), (7, u "SIOOBE_FORMATTER"), (0, u "Ljava/util/function/BiFunction;"), (0, .class_ 126), (0, u "jdk/internal/util/Preconditions$2"), (3, u "AIOOBE_FORMATTER"), (0, .class_ 132), (0, u "jdk/internal/util/Preconditions$3"), (3, u "IOOBE_FORMATTER"), (41, u "(IILjava/util/function/BiFunction;)I"), (4, u "(IIILjava/util/function/BiFunction;)I")] 10

def k9m0 : Method := { name := "<init>", desc := "()V", sig := { parameters := [], returnType := none }, accessFlags := 1, code := none }
def k9c1 : Code := { maxStack := 3, maxLocals := 3, code := jdk_41_method_11_code, exceptionTable := #[], attributes := #[] }
def k9m1 : Method := { name := "checkIndex", desc := "(IILjava/util/function/BiFunction;)I", sig := { parameters := [.int, .int, (.object "java/util/function/BiFunction")], returnType := some .int }, accessFlags := 9, code := some k9c1 }
def k9c2 : Code := { maxStack := 4, maxLocals := 4, code := jdk_41_method_12_code, exceptionTable := #[], attributes := #[] }
def k9m2 : Method := { name := "checkFromToIndex", desc := "(IIILjava/util/function/BiFunction;)I", sig := { parameters := [.int, .int, .int, (.object "java/util/function/BiFunction")], returnType := some .int }, accessFlags := 9, code := some k9c2 }
/-- jdk/internal/util/Preconditions -/
def k9 : Class := { plain "jdk/internal/util/Preconditions" (some 0) with
  accessFlags := 33
  interfaces := #[]
  cf := some (fileOf pool9 24 #[.nestMembers #[55, 131, 125, 114]] #[{ accessFlags := 1, nameIndex := 5, descriptorIndex := 6, attributes := #[] }, { accessFlags := 9, nameIndex := 33, descriptorIndex := 178, attributes := #[] }, { accessFlags := 9, nameIndex := 47, descriptorIndex := 183, attributes := #[] }] 33 2 #[] #[{ accessFlags := 25, nameIndex := 123, descriptorIndex := 124, attributes := #[] }, { accessFlags := 25, nameIndex := 130, descriptorIndex := 124, attributes := #[] }, { accessFlags := 25, nameIndex := 136, descriptorIndex := 124, attributes := #[] }])
  fields := #[{ name := "SIOOBE_FORMATTER", type := (.object "java/util/function/BiFunction"), accessFlags := 25, slot := 0, constantValue := 0 }, { name := "AIOOBE_FORMATTER", type := (.object "java/util/function/BiFunction"), accessFlags := 25, slot := 1, constantValue := 0 }, { name := "IOOBE_FORMATTER", type := (.object "java/util/function/BiFunction"), accessFlags := 25, slot := 2, constantValue := 0 }]
  methods := #[k9m0, k9m1, k9m2]
  instanceTypes := #[]
  staticTypes := #[(.object "java/util/function/BiFunction"), (.object "java/util/function/BiFunction"), (.object "java/util/function/BiFunction")]
  resolved := Array.replicate 194 none
  statics := some 1 }

def pool10 : Array CpInfo := pool [(6, .class_ 8), (1, u "java/lang/Object"), (0, u "<init>"), (0, u "()V"), (1, .class_ 14), (1, u "java/lang/StringUTF16"), (31, u "$assertionsDisabled"), (0, u "Z"), (13, u "HI_BYTE_SHIFT"), (0, u "I"), (2, u "LO_BYTE_SHIFT"), (49, .methodref 12 116), (0, .nameAndType 117 118), (0, u "compress"), (0, u "([CI[BII)I"), (3, u "([CII)[B"), (138, u "coderFromArrayLen"), (0, u "([BI)B"), (106, .class_ 371), (1, u "java/lang/StringUTF16$LinesSpliterator"), (58, u "MAX_LENGTH"), (196, .class_ 628), (0, u "java/lang/StringUTF16$CodePointsSpliterator"), (0, .class_ 630), (0, u "java/lang/StringUTF16$CharsSpliterator")] 4

def k10m0 : Method := { name := "<init>", desc := "()V", sig := { parameters := [], returnType := none }, accessFlags := 0, code := none }
def k10c1 : Code := { maxStack := 2, maxLocals := 2, code := jdk_52_method_15_code, exceptionTable := #[], attributes := #[] }
def k10m1 : Method := { name := "coderFromArrayLen", desc := "([BI)B", sig := { parameters := [(.array .byte), .int], returnType := some .byte }, accessFlags := 8, code := some k10c1 }
def k10c2 : Code := { maxStack := 5, maxLocals := 6, code := jdk_52_method_16_code, exceptionTable := #[], attributes := #[] }
def k10m2 : Method := { name := "compress", desc := "([CII)[B", sig := { parameters := [(.array .char), .int, .int], returnType := some (.array .byte) }, accessFlags := 9, code := some k10c2 }
def k10c3 : Code := { maxStack := 3, maxLocals := 7, code := jdk_52_method_21_code, exceptionTable := #[], attributes := #[] }
def k10m3 : Method := { name := "compress", desc := "([CI[BII)I", sig := { parameters := [(.array .char), .int, (.array .byte), .int, .int], returnType := some .int }, accessFlags := 9, code := some k10c3 }
/-- java/lang/StringUTF16 -/
def k10 : Class := { plain "java/lang/StringUTF16" (some 0) with
  accessFlags := 48
  interfaces := #[]
  cf := some (fileOf pool10 12 #[.nestMembers #[627, 629, 369]] #[{ accessFlags := 0, nameIndex := 9, descriptorIndex := 10, attributes := #[] }, { accessFlags := 8, nameIndex := 261, descriptorIndex := 262, attributes := #[] }, { accessFlags := 9, nameIndex := 117, descriptorIndex := 122, attributes := #[] }, { accessFlags := 9, nameIndex := 117, descriptorIndex := 118, attributes := #[] }] 48 6 #[] #[{ accessFlags := 26, nameIndex := 61, descriptorIndex := 62, attributes := #[] }, { accessFlags := 26, nameIndex := 65, descriptorIndex := 62, attributes := #[] }, { accessFlags := 24, nameIndex := 430, descriptorIndex := 62, attributes := #[] }, { accessFlags := 4120, nameIndex := 46, descriptorIndex := 47, attributes := #[] }])
  fields := #[{ name := "HI_BYTE_SHIFT", type := .int, accessFlags := 26, slot := 0, constantValue := 0 }, { name := "LO_BYTE_SHIFT", type := .int, accessFlags := 26, slot := 1, constantValue := 0 }, { name := "MAX_LENGTH", type := .int, accessFlags := 24, slot := 2, constantValue := 0 }, { name := "$assertionsDisabled", type := .boolean, accessFlags := 4120, slot := 3, constantValue := 0 }]
  methods := #[k10m0, k10m1, k10m2, k10m3]
  instanceTypes := #[]
  staticTypes := #[.int, .int, .int, .boolean]
  resolved := Array.replicate 635 none
  statics := none }

def pool11 : Array CpInfo := pool [(1, .class_ 2), (0, u "java/lang/String"), (1, .class_ 6), (1, u "java/lang/Object"), (0, u "<init>"), (0, u "()V"), (0, .methodref 1 10), (0, .nameAndType 11 12), (0, u "checkIndex"), (0, u "(II)V"), (1, .class_ 16), (1, u "java/lang/StringLatin1"), (36, u "([BI)C"), (58, .methodref 1 113), (0, .nameAndType 7 114), (0, u "([BB)V"), (6, u "$assertionsDisabled"), (0, u "Z"), (8, .class_ 133), (1, u "java/util/Arrays"), (17, .string 152), (0, u ""), (43, u "newString"), (0, u "([BII)Ljava/lang/String;"), (23, .class_ 223), (1, u "java/lang/StringLatin1$LinesSpliterator"), (8, .methodref 131 233), (0, .nameAndType 234 235), (0, u "copyOfRange"), (0, u "([BII)[B"), (16, u "charAt"), (137, .class_ 391), (0, u "java/lang/StringLatin1$CharsSpliterator")] 3

def k11m0 : Method := { name := "<init>", desc := "()V", sig := { parameters := [], returnType := none }, accessFlags := 0, code := none }
def k11c1 : Code := { maxStack := 2, maxLocals := 2, code := jdk_43_method_2_code, exceptionTable := #[], attributes := #[] }
def k11m1 : Method := { name := "charAt", desc := "([BI)C", sig := { parameters := [(.array .byte), .int], returnType := some .char }, accessFlags := 9, code := some k11c1 }
def k11c2 : Code := { maxStack := 6, maxLocals := 3, code := jdk_43_method_47_code, exceptionTable := #[], attributes := #[] }
def k11m2 : Method := { name := "newString", desc := "([BII)Ljava/lang/String;", sig := { parameters := [(.array .byte), .int, .int], returnType := some (.object "java/lang/String") }, accessFlags := 9, code := some k11c2 }
/-- java/lang/StringLatin1 -/
def k11 : Class := { plain "java/lang/StringLatin1" (some 0) with
  accessFlags := 48
  interfaces := #[]
  cf := some (fileOf pool11 14 #[.nestMembers #[390, 221]] #[{ accessFlags := 0, nameIndex := 7, descriptorIndex := 8, attributes := #[] }, { accessFlags := 9, nameIndex := 252, descriptorIndex := 53, attributes := #[] }, { accessFlags := 9, nameIndex := 196, descriptorIndex := 197, attributes := #[] }] 48 4 #[] #[{ accessFlags := 4120, nameIndex := 121, descriptorIndex := 122, attributes := #[] }])
  fields := #[{ name := "$assertionsDisabled", type := .boolean, accessFlags := 4120, slot := 0, constantValue := 0 }]
  methods := #[k11m0, k11m1, k11m2]
  instanceTypes := #[]
  staticTypes := #[.boolean]
  resolved := Array.replicate 395 none
  statics := none }

def pool12 : Array CpInfo := pool [(2, .class_ 4), (1, u "java/lang/Object"), (0, u "<init>"), (0, u "()V"), (7, .class_ 16), (1, u "java/util/Arrays"), (57, .class_ 76), (1, u "java/util/Arrays$NaturalOrder"), (36, .class_ 115), (1, u "java/util/Arrays$LegacyMergeSort"), (1, u "Z"), (21, u "copyOfRange"), (10, .methodref 151 152), (0, .class_ 153), (0, .nameAndType 154 155), (0, u "java/lang/System"), (0, u "arraycopy"), (0, u "(Ljava/lang/Object;ILjava/lang/Object;II)V"), (148, .methodref 305 306), (0, .class_ 307), (0, .nameAndType 308 309), (0, u "java/lang/Math"), (0, u "min"), (0, u "(II)I"), (29, .methodref 14 340), (0, .nameAndType 341 342), (0, u "copyOfRangeByte"), (0, u "([BII)[B"), (0, .methodref 14 344), (0, .nameAndType 345 346), (0, u "checkLength"), (0, u "(II)V"), (28, .class_ 376), (0, u "java/util/Arrays$ArrayList"), (68, u "$assertionsDisabled"), (269, u "MIN_ARRAY_SORT_GRAN"), (0, u "I"), (2, u "INSERTIONSORT_THRESHOLD"), (255, .class_ 976), (0, u "java/util/Arrays$ArrayItr")] 52

def k12m0 : Method := { name := "<init>", desc := "()V", sig := { parameters := [], returnType := none }, accessFlags := 2, code := none }
def k12c1 : Code := { maxStack := 4, maxLocals := 2, code := jdk_65_method_131_code, exceptionTable := #[], attributes := #[] }
def k12m1 : Method := { name := "checkLength", desc := "(II)V", sig := { parameters := [.int, .int], returnType := none }, accessFlags := 10, code := some k12c1 }
def k12c2 : Code := { maxStack := 3, maxLocals := 3, code := jdk_65_method_132_code, exceptionTable := #[], attributes := #[] }
def k12m2 : Method := { name := "copyOfRange", desc := "([BII)[B", sig := { parameters := [(.array .byte), .int, .int], returnType := some (.array .byte) }, accessFlags := 9, code := some k12c2 }
def k12c3 : Code := { maxStack := 6, maxLocals := 5, code := jdk_65_method_133_code, exceptionTable := #[], attributes := #[] }
def k12m3 : Method := { name := "copyOfRangeByte", desc := "([BII)[B", sig := { parameters := [(.array .byte), .int, .int], returnType := some (.array .byte) }, accessFlags := 10, code := some k12c3 }
/-- java/util/Arrays -/
def k12 : Class := { plain "java/util/Arrays" (some 0) with
  accessFlags := 49
  interfaces := #[]
  cf := some (fileOf pool12 14 #[.nestMembers #[975, 375, 113, 74]] #[{ accessFlags := 2, nameIndex := 5, descriptorIndex := 6, attributes := #[] }, { accessFlags := 10, nameIndex := 345, descriptorIndex := 346, attributes := #[] }, { accessFlags := 9, nameIndex := 139, descriptorIndex := 342, attributes := #[] }, { accessFlags := 10, nameIndex := 341, descriptorIndex := 342, attributes := #[] }] 49 2 #[] #[{ accessFlags := 26, nameIndex := 715, descriptorIndex := 716, attributes := #[] }, { accessFlags := 26, nameIndex := 719, descriptorIndex := 716, attributes := #[] }, { accessFlags := 4120, nameIndex := 445, descriptorIndex := 117, attributes := #[] }])
  fields := #[{ name := "MIN_ARRAY_SORT_GRAN", type := .int, accessFlags := 26, slot := 0, constantValue := 0 }, { name := "INSERTIONSORT_THRESHOLD", type := .int, accessFlags := 26, slot := 1, constantValue := 0 }, { name := "$assertionsDisabled", type := .boolean, accessFlags := 4120, slot := 2, constantValue := 0 }]
  methods := #[k12m0, k12m1, k12m2, k12m3]
  instanceTypes := #[]
  staticTypes := #[.int, .int, .boolean]
  resolved := Array.replicate 1029 none
  statics := none }

def pool13 : Array CpInfo := pool [(1, .class_ 2), (0, u "java/lang/Math"), (1, .class_ 6), (1, u "java/lang/Object"), (0, u "<init>"), (0, u "()V"), (89, .class_ 100), (1, u "java/lang/Math$RandomNumberGeneratorHolder"), (71, u "negativeZeroFloatBits"), (0, u "J"), (2, u "negativeZeroDoubleBits"), (24, u "min"), (43, u "$assertionsDisabled"), (0, u "Z"), (88, u "(II)I"), (2, u "twoToTheDoubleScaleDown"), (0, u "D"), (4, u "twoToTheDoubleScaleUp"), (9, u "E"), (3, u "PI"), (2, u "TAU"), (2, u "DEGREES_TO_RADIANS"), (0, u "RADIANS_TO_DEGREES")] 94

def k13m0 : Method := { name := "<init>", desc := "()V", sig := { parameters := [], returnType := none }, accessFlags := 2, code := none }
def k13c1 : Code := { maxStack := 2, maxLocals := 2, code := jdk_29_method_69_code, exceptionTable := #[], attributes := #[] }
def k13m1 : Method := { name := "min", desc := "(II)I", sig := { parameters := [.int, .int], returnType := some .int }, accessFlags := 9, code := some k13c1 }
/-- java/lang/Math -/
def k13 : Class := { plain "java/lang/Math" (some 0) with
  accessFlags := 49
  interfaces := #[]
  cf := some (fileOf pool13 1 #[.nestMembers #[98]] #[{ accessFlags := 2, nameIndex := 7, descriptorIndex := 8, attributes := #[] }, { accessFlags := 9, nameIndex := 201, descriptorIndex := 335, attributes := #[] }] 49 4 #[] #[{ accessFlags := 25, nameIndex := 354, descriptorIndex := 339, attributes := #[] }, { accessFlags := 25, nameIndex := 358, descriptorIndex := 339, attributes := #[] }, { accessFlags := 25, nameIndex := 361, descriptorIndex := 339, attributes := #[] }, { accessFlags := 26, nameIndex := 364, descriptorIndex := 339, attributes := #[] }, { accessFlags := 26, nameIndex := 365, descriptorIndex := 339, attributes := #[] }, { accessFlags := 26, nameIndex := 172, descriptorIndex := 173, attributes := #[] }, { accessFlags := 26, nameIndex := 176, descriptorIndex := 173, attributes := #[] }, { accessFlags := 8, nameIndex := 344, descriptorIndex := 339, attributes := #[] }, { accessFlags := 8, nameIndex := 338, descriptorIndex := 339, attributes := #[] }, { accessFlags := 4120, nameIndex := 245, descriptorIndex := 246, attributes := #[] }])
  fields := #[{ name := "E", type := .double, accessFlags := 25, slot := 0, constantValue := 0 }, { name := "PI", type := .double, accessFlags := 25, slot := 1, constantValue := 0 }, { name := "TAU", type := .double, accessFlags := 25, slot := 2, constantValue := 0 }, { name := "DEGREES_TO_RADIANS", type := .double, accessFlags := 26, slot := 3, constantValue := 0 }, { name := "RADIANS_TO_DEGREES", type := .double, accessFlags := 26, slot := 4, constantValue := 0 }, { name := "negativeZeroFloatBits", type := .long, accessFlags := 26, slot := 5, constantValue := 0 }, { name := "negativeZeroDoubleBits", type := .long, accessFlags := 26, slot := 6, constantValue := 0 }, { name := "twoToTheDoubleScaleUp", type := .double, accessFlags := 8, slot := 7, constantValue := 0 }, { name := "twoToTheDoubleScaleDown", type := .double, accessFlags := 8, slot := 8, constantValue := 0 }, { name := "$assertionsDisabled", type := .boolean, accessFlags := 4120, slot := 9, constantValue := 0 }]
  methods := #[k13m0, k13m1]
  instanceTypes := #[]
  staticTypes := #[.double, .double, .double, .double, .double, .long, .long, .double, .double, .boolean]
  resolved := Array.replicate 460 none
  statics := none }

def pool14 : Array CpInfo := pool [(2, .class_ 4), (1, u "java/lang/Object"), (0, u "<init>"), (0, u "()V"), (1, .class_ 10), (1, u "java/lang/System"), (0, u "allowSecurityManager"), (0, u "I"), (16, u "cons"), (0, u "Ljava/io/Console;"), (77, .class_ 110), (1, u "java/lang/System$CallersHolder"), (43, u "initialErrStream"), (0, u "Ljava/io/PrintStream;"), (19, u "security"), (0, u "Ljava/lang/SecurityManager;"), (31, .class_ 209), (0, u "java/lang/System$1"), (7, u "props"), (0, u "Ljava/util/Properties;"), (2, u "lineSeparator"), (0, u "Ljava/lang/String;"), (96, .class_ 321), (1, u "java/lang/System$LoggerFinder"), (5, .class_ 328), (0, u "java/lang/System$Logger"), (67, u "err"), (2, u "out"), (91, u "notSupportedJnuEncoding"), (15, u "in"), (17, u "initialIn"), (0, u "Ljava/io/InputStream;"), (35, u "bootLayer"), (0, u "Ljava/lang/ModuleLayer;"), (99, .class_ 664), (0, u "java/lang/System$2"), (9, u "NEVER"), (2, u "MAYBE"), (49, u "arraycopy"), (0, u "(Ljava/lang/Object;ILjava/lang/Object;II)V"), (72, .class_ 802), (0, u "java/lang/System$Logger$Level")] 31

def k14m0 : Method := { name := "<init>", desc := "()V", sig := { parameters := [], returnType := none }, accessFlags := 2, code := none }
def k14m1 : Method := { name := "arraycopy", desc := "(Ljava/lang/Object;ILjava/lang/Object;II)V", sig := { parameters := [(.object "java/lang/Object"), .int, (.object "java/lang/Object"), .int, .int], returnType := none }, accessFlags := 265, code := none }
/-- java/lang/System -/
def k14 : Class := { plain "java/lang/System" (some 0) with
  accessFlags := 49
  interfaces := #[]
  cf := some (fileOf pool14 8 #[.nestMembers #[319, 327, 801, 108, 663, 208]] #[{ accessFlags := 2, nameIndex := 5, descriptorIndex := 6, attributes := #[] }, { accessFlags := 265, nameIndex := 727, descriptorIndex := 728, attributes := #[] }] 49 2 #[] #[{ accessFlags := 25, nameIndex := 507, descriptorIndex := 526, attributes := #[] }, { accessFlags := 25, nameIndex := 399, descriptorIndex := 155, attributes := #[] }, { accessFlags := 25, nameIndex := 396, descriptorIndex := 155, attributes := #[] }, { accessFlags := 10, nameIndex := 525, descriptorIndex := 526, attributes := #[] }, { accessFlags := 26, nameIndex := 674, descriptorIndex := 12, attributes := #[] }, { accessFlags := 26, nameIndex := 677, descriptorIndex := 12, attributes := #[] }, { accessFlags := 10, nameIndex := 11, descriptorIndex := 12, attributes := #[] }, { accessFlags := 74, nameIndex := 175, descriptorIndex := 176, attributes := #[] }, { accessFlags := 10, nameIndex := 491, descriptorIndex := 222, attributes := #[] }, { accessFlags := 74, nameIndex := 29, descriptorIndex := 30, attributes := #[] }, { accessFlags := 74, nameIndex := 154, descriptorIndex := 155, attributes := #[] }, { accessFlags := 10, nameIndex := 217, descriptorIndex := 218, attributes := #[] }, { accessFlags := 10, nameIndex := 221, descriptorIndex := 222, attributes := #[] }, { accessFlags := 8, nameIndex := 562, descriptorIndex := 563, attributes := #[] }])
  fields := #[{ name := "in", type := (.object "java/io/InputStream"), accessFlags := 25, slot := 0, constantValue := 0 }, { name := "out", type := (.object "java/io/PrintStream"), accessFlags := 25, slot := 1, constantValue := 0 }, { name := "err", type := (.object "java/io/PrintStream"), accessFlags := 25, slot := 2, constantValue := 0 }, { name := "initialIn", type := (.object "java/io/InputStream"), accessFlags := 10, slot := 3, constantValue := 0 }, { name := "NEVER", type := .int, accessFlags := 26, slot := 4, constantValue := 0 }, { name := "MAYBE", type := .int, accessFlags := 26, slot := 5, constantValue := 0 }, { name := "allowSecurityManager", type := .int, accessFlags := 10, slot := 6, constantValue := 0 }, { name := "security", type := (.object "java/lang/SecurityManager"), accessFlags := 74, slot := 7, constantValue := 0 }, { name := "notSupportedJnuEncoding", type := (.object "java/lang/String"), accessFlags := 10, slot := 8, constantValue := 0 }, { name := "cons", type := (.object "java/io/Console"), accessFlags := 74, slot := 9, constantValue := 0 }, { name := "initialErrStream", type := (.object "java/io/PrintStream"), accessFlags := 74, slot := 10, constantValue := 0 }, { name := "props", type := (.object "java/util/Properties"), accessFlags := 10, slot := 11, constantValue := 0 }, { name := "lineSeparator", type := (.object "java/lang/String"), accessFlags := 10, slot := 12, constantValue := 0 }, { name := "bootLayer", type := (.object "java/lang/ModuleLayer"), accessFlags := 8, slot := 13, constantValue := 0 }]
  methods := #[k14m0, k14m1]
  instanceTypes := #[]
  staticTypes := #[(.object "java/io/InputStream"), (.object "java/io/PrintStream"), (.object "java/io/PrintStream"), (.object "java/io/InputStream"), .int, .int, .int, (.object "java/lang/SecurityManager"), (.object "java/lang/String"), (.object "java/io/Console"), (.object "java/io/PrintStream"), (.object "java/util/Properties"), (.object "java/lang/String"), (.object "java/lang/ModuleLayer")]
  resolved := Array.replicate 834 none
  statics := none }

def pool15 : Array CpInfo := pool [(9, u "<init>"), (6, .class_ 18), (1, u "java/lang/Object"), (0, u "()V"), (1, .class_ 23), (1, u "jdk/internal/util/ArraysSupport"), (0, u "LOG2_ARRAY_LONG_INDEX_SCALE"), (0, u "I"), (2, u "U"), (0, u "Ljdk/internal/misc/Unsafe;"), (8, u "BIG_ENDIAN"), (0, u "Z"), (8, u "LOG2_BYTE_BIT_SIZE"), (4, u "LOG2_ARRAY_INT_INDEX_SCALE"), (54, u "JLA"), (0, u "Ljdk/internal/access/JavaLangAccess;"), (11, u "LOG2_ARRAY_BOOLEAN_INDEX_SCALE"), (9, u "LOG2_ARRAY_BYTE_INDEX_SCALE"), (5, u "LOG2_ARRAY_CHAR_INDEX_SCALE"), (5, u "LOG2_ARRAY_SHORT_INDEX_SCALE"), (18, u "LOG2_ARRAY_FLOAT_INDEX_SCALE"), (24, u "LOG2_ARRAY_DOUBLE_INDEX_SCALE"), (89, u "T_BOOLEAN"), (2, u "T_CHAR"), (1, u "T_FLOAT"), (1, u "T_DOUBLE"), (1, u "T_BYTE"), (1, u "T_SHORT"), (1, u "T_INT"), (1, u "T_LONG"), (1, u "SOFT_MAX_ARRAY_LENGTH")] 83

def k15m0 : Method := { name := "<init>", desc := "()V", sig := { parameters := [], returnType := none }, accessFlags := 2, code := none }
/-- jdk/internal/util/ArraysSupport -/
def k15 : Class := { plain "jdk/internal/util/ArraysSupport" (some 0) with
  accessFlags := 33
  interfaces := #[]
  cf := some (fileOf pool15 21 #[] #[{ accessFlags := 2, nameIndex := 9, descriptorIndex := 19, attributes := #[] }] 33 16 #[] #[{ accessFlags := 24, nameIndex := 28, descriptorIndex := 29, attributes := #[] }, { accessFlags := 26, nameIndex := 38, descriptorIndex := 39, attributes := #[] }, { accessFlags := 25, nameIndex := 121, descriptorIndex := 25, attributes := #[] }, { accessFlags := 25, nameIndex := 131, descriptorIndex := 25, attributes := #[] }, { accessFlags := 25, nameIndex := 137, descriptorIndex := 25, attributes := #[] }, { accessFlags := 25, nameIndex := 143, descriptorIndex := 25, attributes := #[] }, { accessFlags := 25, nameIndex := 53, descriptorIndex := 25, attributes := #[] }, { accessFlags := 25, nameIndex := 24, descriptorIndex := 25, attributes := #[] }, { accessFlags := 25, nameIndex := 162, descriptorIndex := 25, attributes := #[] }, { accessFlags := 25, nameIndex := 187, descriptorIndex := 25, attributes := #[] }, { accessFlags := 26, nameIndex := 48, descriptorIndex := 25, attributes := #[] }, { accessFlags := 25, nameIndex := 277, descriptorIndex := 25, attributes := #[] }, { accessFlags := 25, nameIndex := 280, descriptorIndex := 25, attributes := #[] }, { accessFlags := 25, nameIndex := 282, descriptorIndex := 25, attributes := #[] }, { accessFlags := 25, nameIndex := 284, descriptorIndex := 25, attributes := #[] }, { accessFlags := 25, nameIndex := 286, descriptorIndex := 25, attributes := #[] }, { accessFlags := 25, nameIndex := 288, descriptorIndex := 25, attributes := #[] }, { accessFlags := 25, nameIndex := 290, descriptorIndex := 25, attributes := #[] }, { accessFlags := 25, nameIndex := 292, descriptorIndex := 25, attributes := #[] }, { accessFlags := 26, nameIndex := 108, descriptorIndex := 109, attributes := #[] }, { accessFlags := 25, nameIndex := 294, descriptorIndex := 25, attributes := #[] }])
  fields := #[{ name := "U", type := (.object "jdk/internal/misc/Unsafe"), accessFlags := 24, slot := 0, constantValue := 0 }, { name := "BIG_ENDIAN", type := .boolean, accessFlags := 26, slot := 1, constantValue := 0 }, { name := "LOG2_ARRAY_BOOLEAN_INDEX_SCALE", type := .int, accessFlags := 25, slot := 2, constantValue := 0 }, { name := "LOG2_ARRAY_BYTE_INDEX_SCALE", type := .int, accessFlags := 25, slot := 3, constantValue := 0 }, { name := "LOG2_ARRAY_CHAR_INDEX_SCALE", type := .int, accessFlags := 25, slot := 4, constantValue := 0 }, { name := "LOG2_ARRAY_SHORT_INDEX_SCALE", type := .int, accessFlags := 25, slot := 5, constantValue := 0 }, { name := "LOG2_ARRAY_INT_INDEX_SCALE", type := .int, accessFlags := 25, slot := 6, constantValue := 0 }, { name := "LOG2_ARRAY_LONG_INDEX_SCALE", type := .int, accessFlags := 25, slot := 7, constantValue := 0 }, { name := "LOG2_ARRAY_FLOAT_INDEX_SCALE", type := .int, accessFlags := 25, slot := 8, constantValue := 0 }, { name := "LOG2_ARRAY_DOUBLE_INDEX_SCALE", type := .int, accessFlags := 25, slot := 9, constantValue := 0 }, { name := "LOG2_BYTE_BIT_SIZE", type := .int, accessFlags := 26, slot := 10, constantValue := 0 }, { name := "T_BOOLEAN", type := .int, accessFlags := 25, slot := 11, constantValue := 0 }, { name := "T_CHAR", type := .int, accessFlags := 25, slot := 12, constantValue := 0 }, { name := "T_FLOAT", type := .int, accessFlags := 25, slot := 13, constantValue := 0 }, { name := "T_DOUBLE", type := .int, accessFlags := 25, slot := 14, constantValue := 0 }, { name := "T_BYTE", type := .int, accessFlags := 25, slot := 15, constantValue := 0 }, { name := "T_SHORT", type := .int, accessFlags := 25, slot := 16, constantValue := 0 }, { name := "T_INT", type := .int, accessFlags := 25, slot := 17, constantValue := 0 }, { name := "T_LONG", type := .int, accessFlags := 25, slot := 18, constantValue := 0 }, { name := "JLA", type := (.object "jdk/internal/access/JavaLangAccess"), accessFlags := 26, slot := 19, constantValue := 0 }, { name := "SOFT_MAX_ARRAY_LENGTH", type := .int, accessFlags := 25, slot := 20, constantValue := 0 }]
  methods := #[k15m0]
  instanceTypes := #[]
  staticTypes := #[(.object "jdk/internal/misc/Unsafe"), .boolean, .int, .int, .int, .int, .int, .int, .int, .int, .int, .int, .int, .int, .int, .int, .int, .int, .int, (.object "jdk/internal/access/JavaLangAccess"), .int]
  resolved := Array.replicate 378 none
  statics := none }

def pool16 : Array CpInfo := pool [(1, u "java/lang/Cloneable"), (0, .class_ 1), (0, u "java/lang/Object"), (0, .class_ 3)] 3

/-- java/lang/Cloneable -/
def k16 : Class := { plain "java/lang/Cloneable" (some 0) with
  accessFlags := 1537
  interfaces := #[]
  cf := some (fileOf pool16 2 #[] #[] 1537 4 #[] #[])
  fields := #[]
  methods := #[]
  instanceTypes := #[]
  staticTypes := #[]
  resolved := Array.replicate 8 none
  statics := none }

/-- the primitive byte -/
def k17 : Class := { plain "byte" none with kind := .primitive 'B', accessFlags := 0x411 }
/-- [B -/
def k18 : Class := { plain "[B" (some 0) with kind := .array 17 .byte, interfaces := #[16, 2], accessFlags := 1041 }

/-- the primitive char -/
def k19 : Class := { plain "char" none with kind := .primitive 'C', accessFlags := 0x411 }
/-- [C -/
def k20 : Class := { plain "[C" (some 0) with kind := .array 19 .char, interfaces := #[16, 2], accessFlags := 1041 }

/-- the primitive int -/
def k21 : Class := { plain "int" none with kind := .primitive 'I', accessFlags := 0x411 }
/-- [I -/
def k22 : Class := { plain "[I" (some 0) with kind := .array 21 .int, interfaces := #[16, 2], accessFlags := 1041 }

def heap : Heap := #[{ cls := 7, slots := #[.long 0, .int 1, .null, .int 0, .null, .int 0, .int 0], vm := .statics 7 },
  { cls := 9, slots := #[.null, .null, .null], vm := .statics 9 }]
def classes : Array Class := #[k0, k1, k2, k3, k4, k5, k6, k7, k8, k9, k10, k11, k12, k13, k14, k15, k16, k17, k18, k19, k20, k21, k22]
def interned : List (Array UInt16 × Addr) := []
def slotsUsed : Nat := 10
def theMethod : MethodId := ⟨1, 1⟩
def args0 : Array Value := #[.int 5, .int 65, .int 256, .int 66, .int 7]
def aboutOver (below : List Frame) : State where
  vm := { classes := classes, interned := interned.toArray }
  heap := heap
  slotsUsed := slotsUsed
  threads := #[{ frames := .invoking theMethod args0 :: below }]
def below0 : List Frame := [.native { method := ⟨0, 0⟩, args := #[] }]
def about1 : State := aboutOver below0
def p0 : Program := .bare "" "" ""
def e0 : Env := launch0.env 0 0 0
theorem w_frames : about1.frames = Frame.invoking theMethod args0 :: below0 := rfl
set_option maxRecDepth 65536 in
theorem w_args : argsFit about1.vm theMethod args0 = true := by decide +kernel
set_option maxRecDepth 65536 in
theorem w_heap : heapFits about1 = true := by decide +kernel
set_option maxRecDepth 65536 in
theorem w_runnable : about1.curStatus? = some .runnable := by decide +kernel
set_option maxRecDepth 65536 in
theorem w_alone : about1.alone = true := by decide +kernel
set_option maxRecDepth 65536 in
theorem w_named : about1.methodNamed? x = some theMethod := by decide +kernel
set_option maxRecDepth 65536 in
theorem w_hears : about1.hears theMethod below0 = true := by decide +kernel
set_option maxRecDepth 65536 in
theorem w_ripe : about1.ripe theMethod args0 below0 = true := by decide +kernel
theorem w_running : about1.status = .running := rfl
set_option maxRecDepth 65536 in
theorem w_room : about1.hasRoom e0.platform room_1 = true :=
  launch0.hasRoom_least _ room_1 (by decide +kernel) (by decide +kernel) (by decide +kernel) (by decide +kernel) (by decide +kernel) (by decide +kernel)
theorem allAtoms_all (ts : List Jvm.Cond) (a : Array Jvm.Value) (st : Jvm.State) : (allAtoms ts).before a st = ts.all (fun c => c.before a st) := by
  induction ts with
  | nil => rfl
  | cons c t ih =>
    show (Jvm.Cond.and c (allAtoms t)).before a st = _
    rw [Jvm.Cond.before_and, ih, List.all_cons]
def words1 : List Jvm.Cond := Jvm.Cond.code x code maxLocals ret :: tables_1
/-- a 'code' word, met by the world's own term for the bytes: nothing is compared byte by byte -/
theorem code_word {y : MethodName} {bytes : ByteArray} {mx : Nat} {rt : Option FieldType} {a : Array Value} {s : State} {m : MethodId} {meth : Method} {c : Code} (h1 : s.methodNamed? y = some m) (h2 : s.vm.method? m = some meth) (h3 : meth.code = some c) (h4 : c.code = bytes)
    (h5 : (c.maxLocals == mx && c.exceptionTable.isEmpty && decide (c.maxStack ≤ mostOperands) && decide (meth.sig.returnType = rt) && !meth.locks && decide (parseMethodDescriptor y.desc = some meth.sig)) = true) : (Jvm.Cond.code y bytes mx rt).before a s = true := by
  simp only [Bool.and_eq_true, beq_iff_eq, Bool.not_eq_true', decide_eq_true_eq] at h5
  obtain ⟨⟨⟨⟨⟨g1, g2⟩, g3⟩, g4⟩, g5⟩, g6⟩ := h5
  simp [Cond.before, Cond.holds, Cond.value, h1, h2, h3, h4, g1, g2, g3, g4, g5, g6]
def isCode : Jvm.Cond → Bool
  | .code _ _ _ _ => true
  | _ => false
theorem all_split {L : List Jvm.Cond} {P : Jvm.Cond → Bool} (h1 : L.all (fun c => isCode c || P c) = true) (h2 : ∀ c ∈ L.filter isCode, P c = true) : L.all P = true := by
  refine List.all_eq_true.mpr fun c hc => ?_
  have h := List.all_eq_true.mp h1 c hc
  rcases Bool.eq_false_or_eq_true (isCode c) with hi | hi
  · exact h2 c (List.mem_filter.mpr ⟨hc, hi⟩)
  · simpa [hi] using h
set_option maxRecDepth 65536 in
theorem w_c0 : (Jvm.Cond.code x code maxLocals ret).before args0 about1 = true := code_word (m := ⟨1, 1⟩) (meth := k1m1) (c := k1c1) (by decide +kernel) rfl rfl rfl (by decide +kernel)
set_option maxRecDepth 65536 in
theorem w_c1 : (Jvm.Cond.code ({ cls := "com/example/erne/erne/ValuesWithoutTrailingSpacesPinLaw", name := "draw", desc := "(I)C" } : Jvm.MethodName) method_3_code (1 : Nat) (Option.some Jvm.ClassFile.FieldType.char)).before args0 about1 = true := code_word (m := ⟨1, 2⟩) (meth := k1m2) (c := k1c2) (by decide +kernel) rfl rfl rfl (by decide +kernel)
set_option maxRecDepth 65536 in
theorem w_c2 : (Jvm.Cond.code ({ cls := "java/lang/String", name := "<init>", desc := "([C)V" } : Jvm.MethodName) jdk_42_method_3_code (2 : Nat) (Option.none : Option Jvm.ClassFile.FieldType)).before args0 about1 = true := code_word (m := ⟨7, 1⟩) (meth := k7m1) (c := k7c1) (by decide +kernel) rfl rfl rfl (by decide +kernel)
set_option maxRecDepth 65536 in
theorem w_c3 : (Jvm.Cond.code ({ cls := "java/lang/String", name := "<init>", desc := "([CIILjava/lang/Void;)V" } : Jvm.MethodName) jdk_42_method_149_code (6 : Nat) (Option.none : Option Jvm.ClassFile.FieldType)).before args0 about1 = true := code_word (m := ⟨7, 5⟩) (meth := k7m5) (c := k7c5) (by decide +kernel) rfl rfl rfl (by decide +kernel)
set_option maxRecDepth 65536 in
theorem w_c4 : (Jvm.Cond.code ({ cls := "java/lang/Object", name := "<init>", desc := "()V" } : Jvm.MethodName) object_method_1_code (1 : Nat) (Option.none : Option Jvm.ClassFile.FieldType)).before args0 about1 = true := code_word (m := ⟨0, 0⟩) (meth := k0m0) (c := k0c0) (by decide +kernel) rfl rfl rfl (by decide +kernel)
set_option maxRecDepth 65536 in
theorem w_c5 : (Jvm.Cond.code ({ cls := "com/example/erne/erne/Values", name := "withoutTrailingSpaces", desc := "(Ljava/lang/String;)Ljava/lang/String;" } : Jvm.MethodName) prog_32_method_5_code (2 : Nat) (Option.some (Jvm.ClassFile.FieldType.object "java/lang/String"))).before args0 about1 = true := code_word (m := ⟨8, 1⟩) (meth := k8m1) (c := k8c1) (by decide +kernel) rfl rfl rfl (by decide +kernel)
set_option maxRecDepth 65536 in
theorem w_c6 : (Jvm.Cond.code ({ cls := "java/lang/String", name := "length", desc := "()I" } : Jvm.MethodName) jdk_42_method_54_code (1 : Nat) (Option.some Jvm.ClassFile.FieldType.int)).before args0 about1 = true := code_word (m := ⟨7, 2⟩) (meth := k7m2) (c := k7c2) (by decide +kernel) rfl rfl rfl (by decide +kernel)
set_option maxRecDepth 65536 in
theorem w_c7 : (Jvm.Cond.code ({ cls := "java/lang/String", name := "coder", desc := "()B" } : Jvm.MethodName) jdk_42_method_152_code (1 : Nat) (Option.some Jvm.ClassFile.FieldType.byte)).before args0 about1 = true := code_word (m := ⟨7, 7⟩) (meth := k7m7) (c := k7c7) (by decide +kernel) rfl rfl rfl (by decide +kernel)
set_option maxRecDepth 65536 in
theorem w_c8 : (Jvm.Cond.code ({ cls := "java/lang/String", name := "substring", desc := "(II)Ljava/lang/String;" } : Jvm.MethodName) jdk_42_method_92_code (5 : Nat) (Option.some (Jvm.ClassFile.FieldType.object "java/lang/String"))).before args0 about1 = true := code_word (m := ⟨7, 4⟩) (meth := k7m4) (c := k7c4) (by decide +kernel) rfl rfl rfl (by decide +kernel)
set_option maxRecDepth 65536 in
theorem w_c9 : (Jvm.Cond.code ({ cls := "java/lang/String", name := "checkBoundsBeginEnd", desc := "(III)V" } : Jvm.MethodName) jdk_42_method_158_code (3 : Nat) (Option.none : Option Jvm.ClassFile.FieldType)).before args0 about1 = true := code_word (m := ⟨7, 10⟩) (meth := k7m10) (c := k7c10) (by decide +kernel) rfl rfl rfl (by decide +kernel)
set_option maxRecDepth 65536 in
theorem w_c10 : (Jvm.Cond.code ({ cls := "jdk/internal/util/Preconditions", name := "checkFromToIndex", desc := "(IIILjava/util/function/BiFunction;)I" } : Jvm.MethodName) jdk_41_method_12_code (4 : Nat) (Option.some Jvm.ClassFile.FieldType.int)).before args0 about1 = true := code_word (m := ⟨9, 2⟩) (meth := k9m2) (c := k9c2) (by decide +kernel) rfl rfl rfl (by decide +kernel)
set_option maxRecDepth 65536 in
theorem w_c11 : (Jvm.Cond.code ({ cls := "com/example/erne/erne/ValuesWithoutTrailingSpacesPinLaw", name := "at", desc := "(Ljava/lang/String;II[CI)Z" } : Jvm.MethodName) method_4_code (5 : Nat) (Option.some Jvm.ClassFile.FieldType.boolean)).before args0 about1 = true := code_word (m := ⟨1, 3⟩) (meth := k1m3) (c := k1c3) (by decide +kernel) rfl rfl rfl (by decide +kernel)
set_option maxRecDepth 65536 in
theorem w_c12 : (Jvm.Cond.code ({ cls := "java/lang/StringUTF16", name := "compress", desc := "([CII)[B" } : Jvm.MethodName) jdk_52_method_16_code (6 : Nat) (Option.some (Jvm.ClassFile.FieldType.array Jvm.ClassFile.FieldType.byte))).before args0 about1 = true := code_word (m := ⟨10, 2⟩) (meth := k10m2) (c := k10c2) (by decide +kernel) rfl rfl rfl (by decide +kernel)
set_option maxRecDepth 65536 in
theorem w_c13 : (Jvm.Cond.code ({ cls := "java/lang/StringUTF16", name := "compress", desc := "([CI[BII)I" } : Jvm.MethodName) jdk_52_method_21_code (7 : Nat) (Option.some Jvm.ClassFile.FieldType.int)).before args0 about1 = true := code_word (m := ⟨10, 3⟩) (meth := k10m3) (c := k10c3) (by decide +kernel) rfl rfl rfl (by decide +kernel)
set_option maxRecDepth 65536 in
theorem w_c14 : (Jvm.Cond.code ({ cls := "java/lang/StringUTF16", name := "coderFromArrayLen", desc := "([BI)B" } : Jvm.MethodName) jdk_52_method_15_code (2 : Nat) (Option.some Jvm.ClassFile.FieldType.byte)).before args0 about1 = true := code_word (m := ⟨10, 1⟩) (meth := k10m1) (c := k10c1) (by decide +kernel) rfl rfl rfl (by decide +kernel)
set_option maxRecDepth 65536 in
theorem w_c15 : (Jvm.Cond.code ({ cls := "java/lang/String", name := "charAt", desc := "(I)C" } : Jvm.MethodName) jdk_42_method_56_code (2 : Nat) (Option.some Jvm.ClassFile.FieldType.char)).before args0 about1 = true := code_word (m := ⟨7, 3⟩) (meth := k7m3) (c := k7c3) (by decide +kernel) rfl rfl rfl (by decide +kernel)
set_option maxRecDepth 65536 in
theorem w_c16 : (Jvm.Cond.code ({ cls := "java/lang/String", name := "isLatin1", desc := "()Z" } : Jvm.MethodName) jdk_42_method_154_code (1 : Nat) (Option.some Jvm.ClassFile.FieldType.boolean)).before args0 about1 = true := code_word (m := ⟨7, 8⟩) (meth := k7m8) (c := k7c8) (by decide +kernel) rfl rfl rfl (by decide +kernel)
set_option maxRecDepth 65536 in
theorem w_c17 : (Jvm.Cond.code ({ cls := "java/lang/StringLatin1", name := "charAt", desc := "([BI)C" } : Jvm.MethodName) jdk_43_method_2_code (2 : Nat) (Option.some Jvm.ClassFile.FieldType.char)).before args0 about1 = true := code_word (m := ⟨11, 1⟩) (meth := k11m1) (c := k11c1) (by decide +kernel) rfl rfl rfl (by decide +kernel)
set_option maxRecDepth 65536 in
theorem w_c18 : (Jvm.Cond.code ({ cls := "java/lang/String", name := "checkIndex", desc := "(II)V" } : Jvm.MethodName) jdk_42_method_155_code (2 : Nat) (Option.none : Option Jvm.ClassFile.FieldType)).before args0 about1 = true := code_word (m := ⟨7, 9⟩) (meth := k7m9) (c := k7c9) (by decide +kernel) rfl rfl rfl (by decide +kernel)
set_option maxRecDepth 65536 in
theorem w_c19 : (Jvm.Cond.code ({ cls := "jdk/internal/util/Preconditions", name := "checkIndex", desc := "(IILjava/util/function/BiFunction;)I" } : Jvm.MethodName) jdk_41_method_11_code (3 : Nat) (Option.some Jvm.ClassFile.FieldType.int)).before args0 about1 = true := code_word (m := ⟨9, 1⟩) (meth := k9m1) (c := k9c1) (by decide +kernel) rfl rfl rfl (by decide +kernel)
set_option maxRecDepth 65536 in
theorem w_c20 : (Jvm.Cond.code ({ cls := "java/lang/StringLatin1", name := "newString", desc := "([BII)Ljava/lang/String;" } : Jvm.MethodName) jdk_43_method_47_code (3 : Nat) (Option.some (Jvm.ClassFile.FieldType.object "java/lang/String"))).before args0 about1 = true := code_word (m := ⟨11, 2⟩) (meth := k11m2) (c := k11c2) (by decide +kernel) rfl rfl rfl (by decide +kernel)
set_option maxRecDepth 65536 in
theorem w_c21 : (Jvm.Cond.code ({ cls := "java/util/Arrays", name := "copyOfRange", desc := "([BII)[B" } : Jvm.MethodName) jdk_65_method_132_code (3 : Nat) (Option.some (Jvm.ClassFile.FieldType.array Jvm.ClassFile.FieldType.byte))).before args0 about1 = true := code_word (m := ⟨12, 2⟩) (meth := k12m2) (c := k12c2) (by decide +kernel) rfl rfl rfl (by decide +kernel)
set_option maxRecDepth 65536 in
theorem w_c22 : (Jvm.Cond.code ({ cls := "java/util/Arrays", name := "copyOfRangeByte", desc := "([BII)[B" } : Jvm.MethodName) jdk_65_method_133_code (5 : Nat) (Option.some (Jvm.ClassFile.FieldType.array Jvm.ClassFile.FieldType.byte))).before args0 about1 = true := code_word (m := ⟨12, 3⟩) (meth := k12m3) (c := k12c3) (by decide +kernel) rfl rfl rfl (by decide +kernel)
set_option maxRecDepth 65536 in
theorem w_c23 : (Jvm.Cond.code ({ cls := "java/util/Arrays", name := "checkLength", desc := "(II)V" } : Jvm.MethodName) jdk_65_method_131_code (2 : Nat) (Option.none : Option Jvm.ClassFile.FieldType)).before args0 about1 = true := code_word (m := ⟨12, 1⟩) (meth := k12m1) (c := k12c1) (by decide +kernel) rfl rfl rfl (by decide +kernel)
set_option maxRecDepth 65536 in
theorem w_c24 : (Jvm.Cond.code ({ cls := "java/lang/Math", name := "min", desc := "(II)I" } : Jvm.MethodName) jdk_29_method_69_code (2 : Nat) (Option.some Jvm.ClassFile.FieldType.int)).before args0 about1 = true := code_word (m := ⟨13, 1⟩) (meth := k13m1) (c := k13c1) (by decide +kernel) rfl rfl rfl (by decide +kernel)
set_option maxRecDepth 65536 in
theorem w_c25 : (Jvm.Cond.code ({ cls := "java/lang/String", name := "<init>", desc := "([BB)V" } : Jvm.MethodName) jdk_42_method_151_code (3 : Nat) (Option.none : Option Jvm.ClassFile.FieldType)).before args0 about1 = true := code_word (m := ⟨7, 6⟩) (meth := k7m6) (c := k7c6) (by decide +kernel) rfl rfl rfl (by decide +kernel)
def codes1 : List Jvm.Cond := [Jvm.Cond.code x code maxLocals ret, Jvm.Cond.code ({ cls := "com/example/erne/erne/ValuesWithoutTrailingSpacesPinLaw", name := "draw", desc := "(I)C" } : Jvm.MethodName) method_3_code (1 : Nat) (Option.some Jvm.ClassFile.FieldType.char), Jvm.Cond.code ({ cls := "java/lang/String", name := "<init>", desc := "([C)V" } : Jvm.MethodName) jdk_42_method_3_code (2 : Nat) (Option.none : Option Jvm.ClassFile.FieldType), Jvm.Cond.code ({ cls := "java/lang/String", name := "<init>", desc := "([CIILjava/lang/Void;)V" } : Jvm.MethodName) jdk_42_method_149_code (6 : Nat) (Option.none : Option Jvm.ClassFile.FieldType), Jvm.Cond.code ({ cls := "java/lang/Object", name := "<init>", desc := "()V" } : Jvm.MethodName) object_method_1_code (1 : Nat) (Option.none : Option Jvm.ClassFile.FieldType), Jvm.Cond.code ({ cls := "com/example/erne/erne/Values", name := "withoutTrailingSpaces", desc := "(Ljava/lang/String;)Ljava/lang/String;" } : Jvm.MethodName) prog_32_method_5_code (2 : Nat) (Option.some (Jvm.ClassFile.FieldType.object "java/lang/String")), Jvm.Cond.code ({ cls := "java/lang/String", name := "length", desc := "()I" } : Jvm.MethodName) jdk_42_method_54_code (1 : Nat) (Option.some Jvm.ClassFile.FieldType.int), Jvm.Cond.code ({ cls := "java/lang/String", name := "coder", desc := "()B" } : Jvm.MethodName) jdk_42_method_152_code (1 : Nat) (Option.some Jvm.ClassFile.FieldType.byte), Jvm.Cond.code ({ cls := "java/lang/String", name := "substring", desc := "(II)Ljava/lang/String;" } : Jvm.MethodName) jdk_42_method_92_code (5 : Nat) (Option.some (Jvm.ClassFile.FieldType.object "java/lang/String")), Jvm.Cond.code ({ cls := "java/lang/String", name := "checkBoundsBeginEnd", desc := "(III)V" } : Jvm.MethodName) jdk_42_method_158_code (3 : Nat) (Option.none : Option Jvm.ClassFile.FieldType), Jvm.Cond.code ({ cls := "jdk/internal/util/Preconditions", name := "checkFromToIndex", desc := "(IIILjava/util/function/BiFunction;)I" } : Jvm.MethodName) jdk_41_method_12_code (4 : Nat) (Option.some Jvm.ClassFile.FieldType.int), Jvm.Cond.code ({ cls := "com/example/erne/erne/ValuesWithoutTrailingSpacesPinLaw", name := "at", desc := "(Ljava/lang/String;II[CI)Z" } : Jvm.MethodName) method_4_code (5 : Nat) (Option.some Jvm.ClassFile.FieldType.boolean), Jvm.Cond.code ({ cls := "java/lang/StringUTF16", name := "compress", desc := "([CII)[B" } : Jvm.MethodName) jdk_52_method_16_code (6 : Nat) (Option.some (Jvm.ClassFile.FieldType.array Jvm.ClassFile.FieldType.byte)), Jvm.Cond.code ({ cls := "java/lang/StringUTF16", name := "compress", desc := "([CI[BII)I" } : Jvm.MethodName) jdk_52_method_21_code (7 : Nat) (Option.some Jvm.ClassFile.FieldType.int), Jvm.Cond.code ({ cls := "java/lang/StringUTF16", name := "coderFromArrayLen", desc := "([BI)B" } : Jvm.MethodName) jdk_52_method_15_code (2 : Nat) (Option.some Jvm.ClassFile.FieldType.byte), Jvm.Cond.code ({ cls := "java/lang/String", name := "charAt", desc := "(I)C" } : Jvm.MethodName) jdk_42_method_56_code (2 : Nat) (Option.some Jvm.ClassFile.FieldType.char), Jvm.Cond.code ({ cls := "java/lang/String", name := "isLatin1", desc := "()Z" } : Jvm.MethodName) jdk_42_method_154_code (1 : Nat) (Option.some Jvm.ClassFile.FieldType.boolean), Jvm.Cond.code ({ cls := "java/lang/StringLatin1", name := "charAt", desc := "([BI)C" } : Jvm.MethodName) jdk_43_method_2_code (2 : Nat) (Option.some Jvm.ClassFile.FieldType.char), Jvm.Cond.code ({ cls := "java/lang/String", name := "checkIndex", desc := "(II)V" } : Jvm.MethodName) jdk_42_method_155_code (2 : Nat) (Option.none : Option Jvm.ClassFile.FieldType), Jvm.Cond.code ({ cls := "jdk/internal/util/Preconditions", name := "checkIndex", desc := "(IILjava/util/function/BiFunction;)I" } : Jvm.MethodName) jdk_41_method_11_code (3 : Nat) (Option.some Jvm.ClassFile.FieldType.int), Jvm.Cond.code ({ cls := "java/lang/StringLatin1", name := "newString", desc := "([BII)Ljava/lang/String;" } : Jvm.MethodName) jdk_43_method_47_code (3 : Nat) (Option.some (Jvm.ClassFile.FieldType.object "java/lang/String")), Jvm.Cond.code ({ cls := "java/util/Arrays", name := "copyOfRange", desc := "([BII)[B" } : Jvm.MethodName) jdk_65_method_132_code (3 : Nat) (Option.some (Jvm.ClassFile.FieldType.array Jvm.ClassFile.FieldType.byte)), Jvm.Cond.code ({ cls := "java/util/Arrays", name := "copyOfRangeByte", desc := "([BII)[B" } : Jvm.MethodName) jdk_65_method_133_code (5 : Nat) (Option.some (Jvm.ClassFile.FieldType.array Jvm.ClassFile.FieldType.byte)), Jvm.Cond.code ({ cls := "java/util/Arrays", name := "checkLength", desc := "(II)V" } : Jvm.MethodName) jdk_65_method_131_code (2 : Nat) (Option.none : Option Jvm.ClassFile.FieldType), Jvm.Cond.code ({ cls := "java/lang/Math", name := "min", desc := "(II)I" } : Jvm.MethodName) jdk_29_method_69_code (2 : Nat) (Option.some Jvm.ClassFile.FieldType.int), Jvm.Cond.code ({ cls := "java/lang/String", name := "<init>", desc := "([BB)V" } : Jvm.MethodName) jdk_42_method_151_code (3 : Nat) (Option.none : Option Jvm.ClassFile.FieldType)]
set_option maxRecDepth 65536 in
theorem codes_eq : words1.filter isCode = codes1 := rfl
theorem w_codes : ∀ c ∈ words1.filter isCode, c.before args0 about1 = true := by
  rw [codes_eq]
  intro c hc
  simp only [codes1, List.mem_cons, List.not_mem_nil, or_false] at hc
  rcases hc with rfl | rfl | rfl | rfl | rfl | rfl | rfl | rfl | rfl | rfl | rfl | rfl | rfl | rfl | rfl | rfl | rfl | rfl | rfl | rfl | rfl | rfl | rfl | rfl | rfl | rfl
  · exact w_c0
  · exact w_c1
  · exact w_c2
  · exact w_c3
  · exact w_c4
  · exact w_c5
  · exact w_c6
  · exact w_c7
  · exact w_c8
  · exact w_c9
  · exact w_c10
  · exact w_c11
  · exact w_c12
  · exact w_c13
  · exact w_c14
  · exact w_c15
  · exact w_c16
  · exact w_c17
  · exact w_c18
  · exact w_c19
  · exact w_c20
  · exact w_c21
  · exact w_c22
  · exact w_c23
  · exact w_c24
  · exact w_c25
set_option maxRecDepth 65536 in
theorem w_t1 : (words1.take 24).all (fun c => isCode c || c.before args0 about1) = true := by decide +kernel
set_option maxRecDepth 65536 in
theorem w_t2 : ((words1.drop 24).take 24).all (fun c => isCode c || c.before args0 about1) = true := by decide +kernel
set_option maxRecDepth 65536 in
theorem w_t3 : (((words1.drop 24).drop 24).take 24).all (fun c => isCode c || c.before args0 about1) = true := by decide +kernel
set_option maxRecDepth 65536 in
theorem w_t4 : ((((words1.drop 24).drop 24).drop 24).take 24).all (fun c => isCode c || c.before args0 about1) = true := by decide +kernel
set_option maxRecDepth 65536 in
theorem w_t5 : ((((words1.drop 24).drop 24).drop 24).drop 24).all (fun c => isCode c || c.before args0 about1) = true := by decide +kernel
theorem w_tables : (allAtoms (Jvm.Cond.code x code maxLocals ret :: tables_1)).before args0 about1 = true := by
  rw [allAtoms_all]
  show words1.all (fun c => c.before args0 about1) = true
  refine all_split ?_ w_codes
  rw [← List.take_append_drop 24 words1, List.all_append, w_t1, ← List.take_append_drop 24 (words1.drop 24), List.all_append, w_t2, ← List.take_append_drop 24 ((words1.drop 24).drop 24), List.all_append, w_t3, ← List.take_append_drop 24 (((words1.drop 24).drop 24).drop 24), List.all_append, w_t4, w_t5]
  rfl
set_option maxRecDepth 65536 in
theorem w_rest : rest_1_c.before args0 about1 = true := by decide +kernel
set_option maxRecDepth 65536 in
theorem w_case : (Jvm.Cond.and given_1 narrow_1).before args0 about1 = true := by decide +kernel
set_option maxRecDepth 65536 in
theorem w_consts : constsHeld consts_1 about1 := Jvm.Lit.constsHeldB_iff.mp (by decide +kernel)
theorem w_applies : (headSpec (Jvm.Cond.code x code maxLocals ret :: tables_1) room_1).applies x e0.platform about1 = true :=
  (Spec.applies_iff w_frames).mpr ⟨w_running, w_runnable, w_alone, w_named, w_hears, w_ripe, w_room, w_tables⟩
theorem atStart : AtStart classFile x code maxLocals ret World_1 tables_1 room_1 Calls_1 rest_1 Pre_1 launch0 p0 e0 about1 theMethod args0 below0 :=
  ⟨lists_1, trivial, launch0.admits_env _ _ _, launch0.least_env, fairChoices_fair.cas, fairChoices_fair.clock, w_frames, w_args, w_heap, w_applies, ⟨w_consts, trivial⟩, w_rest, w_case⟩
end start1
theorem witness_1 : WitnessClaimed_1 := ⟨start1.p0, start1.e0, start1.about1, start1.theMethod, start1.args0, start1.below0, start1.atStart⟩
end Jvm.Pilot.@@N@@
