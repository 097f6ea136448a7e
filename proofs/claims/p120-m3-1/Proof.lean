import JvmDerived
import JvmDerived.Pilot.@@N@@Statement
import JvmDerived.Pilot.@@N@@Code
set_option linter.unusedVariables false
set_option linter.unusedSimpArgs false
namespace Jvm.OwnK
open Jvm Jvm.ClassFile Sem Op Lib Jvm.Free Jvm.Stand Jvm.LawKit Jvm.RoadKit Bundle
/-! own kit, part 1: a walk as a triple on (heap, pc, locals, stack): Seg; contracts: Ct; who pays a call: Pays -/
def SfOk (Z : State) (EL : List (String × Nat)) (vm : Vm) (h : Heap) (sf : List Addr) : Prop := ∀ x ∈ sf, Z.heap.size ≤ x ∧ x < h.size ∧ Safe Z EL vm h x
def Wk (p : Program) (l : Launch) (e : Env) (R : Room) (s : State) (m : MethodId) (args : Array Value) (below : List Frame) (meth : Method) (c : Code) (Z : State) (a0 : Array Value) (EL : List (String × Nat)) (own : String) (sf : List Addr) (k n : Nat) (T : State) (h : Heap) : Prop :=
  ∃ (vm0 : Vm) (locs : List Loc) (k0 : Nat), Stand p l e R (s.setVm vm0) m args below meth c T locs k n ∧ T.heap = h ∧ s.Since vm0 k0 ∧ k0 ≤ h.size ∧ Z.Warmed39 vm0 ∧ vm0.findClass own = some m.cls ∧ CHr Z EL s.vm s.heap vm0 h ∧ Fr Z.heap.size locs ∧ Ext Z.heap h ∧ EW Z a0 EL ∧ SfOk Z EL vm0 h sf
def Cx (p : Program) (meth : Method) (c : Code) (y : MethodName) (bytes : ByteArray) (maxL : Nat) (ret : Option FieldType) : Prop :=
  p.tables.exec = Jvm.exec ∧ c.code = bytes ∧ c.maxLocals = maxL ∧ meth.sig.returnType = ret ∧ meth.locks = false ∧ meth.name = y.name
def Gl (p : Program) (e : Env) (below : List Frame) (s Z : State) (EL : List (String × Nat)) (Q : Option Value → Heap → Prop) (rc rs : Nat) (u : State) : Prop :=
  ∃ (s₂ : State) (o : Outcome), Steps p.tables e below u s₂ ∧ s₂.status = .running ∧ Ended s₂ below o ∧ ∃ v L, o = .returned v ∧ (Fr Z.heap.size L ∧ Ext Z.heap s₂.heap ∧ Q v s₂.heap) ∧ CHr Z EL s.vm s.heap s₂.vm s₂.heap ∧ ReturnedEndW s o s₂ L rc rs
def Seg (l : Launch) (Z : State) (a0 : Array Value) (EL : List (String × Nat)) (y : MethodName) (bytes : ByteArray) (maxL : Nat) (ret : Option FieldType) (rm : Room) (Q : Option Value → Heap → Prop) (h : Heap) (k n : Nat) (sf : List Addr) (pc : Nat) (L : Array Slot) (S : List Value) : Prop :=
  ∀ (p : Program) (e : Env) (s : State) (m : MethodId) (args : Array Value) (below : List Frame) (meth : Method) (c : Code) (T : State), Cx p meth c y bytes maxL ret → Wk p l e rm s m args below meth c Z a0 EL y.cls sf k n T h → Gl p e below s Z EL Q rm.cells rm.slots (T.setTop (mkF m pc L S))
/-- a contract -/
def Ct (l : Launch) (Z : State) (EL : List (String × Nat)) (sf : List Addr) (ws : List Jvm.Cond) (y : MethodName) (bytes : ByteArray) (maxL : Nat) (ret : Option FieldType) (rm : Room) (as' : Array Value) (h : Heap) (Q : Option Value → Heap → Prop) : Prop :=
  MetFree l y (head1 (Jvm.Cond.code y bytes maxL ret :: ws) rm) (fun a U => a = as' ∧ Z.Warmed39 U.vm ∧ U.heap = h ∧ CHv Z EL U.vm h ∧ SfOk Z EL U.vm h sf ∧ Ext Z.heap h) (fun _ _ _ _ _ => True)
    (fun _ U o U' => ∃ v L, o = .returned v ∧ (Fr Z.heap.size L ∧ Ext Z.heap U'.heap ∧ Q v U'.heap) ∧ CHr Z EL U.vm U.heap U'.vm U'.heap ∧ ReturnedEndW U o U' L rm.cells rm.slots)
section Facts
variable {Z : State} {EL : List (String × Nat)} {vm vm1 : Vm} {h h1 h2 h' : Heap} {sf sf' : List Addr} {ws : List Addr} {a x : Addr} {sl : Nat} {v : Value}
theorem ext_rfl (h : Heap) : Ext h h := ⟨Nat.le_refl _, fun _ _ q => q⟩
theorem ext_tr (A : Ext h h1) (B : Ext h1 h2) : Ext h h2 := ⟨Nat.le_trans A.1 B.1, fun x c q => B.2 x c (A.2 x c q)⟩
theorem ext_kp (A : Ext h h1) (K : Keep h1 h2 ws) (q : ∀ x ∈ ws, h.size ≤ x) : Ext h h2 := ⟨Nat.le_trans A.1 K.1, fun x c r => K.2.1 x c (A.2 x c r) fun z => absurd (Array.getElem?_eq_some_iff.mp r).1 (Nat.not_lt.mpr (q x z))⟩
theorem ext_wr (A : Ext h h1) (W : Wr h1 h2 a sl v) (q : h.size ≤ a) : Ext h h2 := ext_kp A (Keep.of_wr W) (allS q all0)
theorem keep_ext (E : Ext h h1) : Keep h h1 [] := (Keep.refl h []).ext E
theorem ext_keep (K : Keep h h1 []) : Ext h h1 := ⟨K.1, fun x c q => K.2.1 x c q (fun z => nomatch z)⟩
theorem keep_mono {ws' : List Addr} (K : Keep h h1 ws) (q : ∀ x ∈ ws, x ∈ ws' ∨ h.size ≤ x) : Keep h h1 ws' := (Keep.refl h ws').trans K q
theorem SfOk.sub (S : SfOk Z EL vm h sf) (q : ∀ x ∈ sf', x ∈ sf) : SfOk Z EL vm h sf' := fun x hx => S x (q x hx)
theorem SfOk.chr (S : SfOk Z EL vm h sf) (A : CHr Z EL vm h vm1 h') : SfOk Z EL vm1 h' sf := fun x hx => by
  obtain ⟨q1, q2, q3⟩ := S x hx
  exact ⟨q1, Nat.lt_of_lt_of_le q2 A.2.1, A.safe q2 q3⟩
theorem SfOk.cons (S : SfOk Z EL vm h sf) (q1 : Z.heap.size ≤ x) (q2 : x < h.size) (q3 : Safe Z EL vm h x) : SfOk Z EL vm h (x :: sf) := fun y hy => by
  rcases List.mem_cons.mp hy with rfl | hy
  · exact ⟨q1, q2, q3⟩
  · exact S y hy
theorem SfOk.safes (S : SfOk Z EL vm h sf) (q : ∀ x ∈ ws, x ∈ sf) : ∀ x ∈ ws, Safe Z EL vm h x := fun x hx => (S x (q x hx)).2.2
end Facts
section Core
variable {l : Launch} {Z : State} {a0 : Array Value} {EL : List (String × Nat)} {y : MethodName} {bytes : ByteArray} {maxL : Nat} {ret : Option FieldType} {rm : Room} {Q : Option Value → Heap → Prop} {h : Heap} {k n k' n' : Nat} {sf sf' : List Addr} {pc pc' : Nat} {L : Array Slot} {S : List Value}
variable {p : Program} {e : Env} {R : Room} {s : State} {m : MethodId} {args : Array Value} {below : List Frame} {meth : Method} {c : Code} {T : State} {own : String}
theorem Wk.here (w : Wk p l e R s m args below meth c Z a0 EL own sf k n T h) : At T m c below := by obtain ⟨_, _, _, X, -⟩ := w; exact X.here
theorem Wk.mono (w : Wk p l e R s m args below meth c Z a0 EL own sf k n T h) (hk : k ≤ k') (hn : n ≤ n') (q : ∀ x ∈ sf', x ∈ sf) : Wk p l e R s m args below meth c Z a0 EL own sf' k' n' T h := by
  obtain ⟨vm0, locs, k0, X, r1, r2, r3, r4, r5, r6, r7, r8, r9, r10⟩ := w
  exact ⟨vm0, locs, k0, X.mono hk hn, r1, r2, r3, r4, r5, r6, r7, r8, r9, r10.sub q⟩
theorem Seg.mono (hk : k ≤ k') (hn : n ≤ n') (q : ∀ x ∈ sf', x ∈ sf) (g : Seg l Z a0 EL y bytes maxL ret rm Q h k' n' sf' pc L S) : Seg l Z a0 EL y bytes maxL ret rm Q h k n sf pc L S :=
  fun p e s m args below meth c T C w => g p e s m args below meth c T C (w.mono hk hn q)
theorem Seg.post {Q' : Option Value → Heap → Prop} (q : ∀ v h, Q' v h → Q v h) (g : Seg l Z a0 EL y bytes maxL ret rm Q' h k n sf pc L S) : Seg l Z a0 EL y bytes maxL ret rm Q h k n sf pc L S :=
  fun p e s m args below meth c T C w => by
    obtain ⟨s₂, o, h1, h2, h3, v, Ls, h4, ⟨h5, h6, h7⟩, h8⟩ := g p e s m args below meth c T C w
    exact ⟨s₂, o, h1, h2, h3, v, Ls, h4, ⟨h5, h6, q _ _ h7⟩, h8⟩
theorem Gl.st {u u' : State} (hs : ∀ t, Steps p.tables e below u' t → Steps p.tables e below u t) (g : Gl p e below s Z EL Q k n u') : Gl p e below s Z EL Q k n u := by
  obtain ⟨s₂, o, h1, r⟩ := g
  exact ⟨s₂, o, hs _ h1, r⟩
theorem Seg.start (g : Ext Z.heap h → Seg l Z a0 EL y bytes maxL ret rm Q h k n sf pc L S) : Seg l Z a0 EL y bytes maxL ret rm Q h k n sf pc L S :=
  fun p e s m args below meth c T C w => by
    obtain ⟨vm0, locs, k0, X, r1, r2, r3, r4, r5, r6, r7, r8, r9, r10⟩ := w
    exact g r8 p e s m args below meth c T C ⟨vm0, locs, k0, X, r1, r2, r3, r4, r5, r6, r7, r8, r9, r10⟩
/-- a plain step -/
theorem Seg.plain {L' : Array Slot} {S' : List Value} (hs : ∀ (p : Program) (e : Env) (m : MethodId) (below : List Frame) (c : Code) (T : State) (t : State), p.tables.exec = Jvm.exec → c.code = bytes → At T m c below → Steps p.tables e below (T.setTop (mkF m pc' L' S')) t → Steps p.tables e below (T.setTop (mkF m pc L S)) t)
    (g : Seg l Z a0 EL y bytes maxL ret rm Q h k n sf pc' L' S') : Seg l Z a0 EL y bytes maxL ret rm Q h k n sf pc L S :=
  fun p e s m args below meth c T C w => Gl.st (fun t => hs p e m below c T t C.1 C.2.1 w.here) (g p e s m args below meth c T C w)
theorem Ct.of_seg {as' : Array Value} {ws : List Jvm.Cond} (hpn : plainFor y = true) (hEL : EW Z a0 EL) (hent : ∀ m, entryFrame m as' maxL = mkF m 0 L []) (g : Seg l Z a0 EL y bytes maxL ret rm Q h 0 0 sf 0 L []) :
    Ct l Z EL sf ws y bytes maxL ret rm as' h Q := by
  refine MetFree.of_bodySF hpn hisR ?_
  intro p e s m args below meth c s₁ Bd hml0 hP hK
  obtain ⟨rfl, hZ, hh, hC, hSf, hZ0⟩ := hP
  subst hh
  have X0 : Stand p l e rm (s.setVm s.vm) m _ below meth c s₁ [] 0 0 := Stand.of_body Bd
  have e0 : s₁.heap = s.heap := by rw [Bd.state]; rfl
  have hown : s.vm.findClass y.cls = some m.cls := findClass_of_methodNamed Bd.named
  rw [hent m]
  exact g p e s m _ below meth c s₁ ⟨Bd.exec, Bd.bytes, hml0, Bd.returns, Bd.notSynchronized, (name_of_methodNamed Bd.named Bd.method).1⟩ ⟨s.vm, [], 0, X0, e0, (State.WarmedH.refl s).since 0, Nat.zero_le _, hZ, hown, CHr.refl hC, Fr.nil _, hZ0, hEL, hSf⟩
theorem Wk.out (w : Wk p l e R s m args below meth c Z a0 EL own sf k n T h) (C : Cx p meth c y bytes maxL ret) {v : Option Value} (hv : ret = none → v = none) (hQ : Q v h) (hk : k ≤ R.cells) (hn : n ≤ R.slots) {u : State}
    (hs : ∀ (vm0 : Vm) (locs : List Loc), Stand p l e R (s.setVm vm0) m args below meth c T locs k n → ∀ fs, (∀ (f : JFrame) (acts : List Action), f.method = m → f.locked = none → f.entered = [] → (doReturn e (T.setTop f) acts v).1 = T.setFrames fs) → Steps p.tables e below u (T.setFrames fs)) : Gl p e below s Z EL Q R.cells R.slots u := by
  obtain ⟨vm0, locs, k0, X, rfl, r2, r3, r4, r5, r6, r7, r8, r9, r10⟩ := w
  obtain ⟨C1, C2, C3, C4, C5, C6⟩ := C
  obtain ⟨fs, h1, h2, h3, ⟨-, e1, e2, e3⟩⟩ := X.leaveW r2 r3 (v := v) (fun q => hv (C4 ▸ q)) C5
  refine ⟨_, _, hs vm0 locs X fs h1, h2, h3, v, locs, rfl, ⟨r7, r8, hQ⟩, ?_, ⟨v, rfl⟩, e1, e2, e3.mono hk hn⟩
  have A := CHv.at X r4 r9 r6.1
  exact r6.trans A
/-- returns -/
theorem Seg.retI {v : Int32} (hret : ret = some .int) (hd : decode bytes pc = .ok (.ireturn, 1)) (hk : k ≤ rm.cells) (hn : n ≤ rm.slots) (hQ : Q (some (.int v)) h) : Seg l Z a0 EL y bytes maxL ret rm Q h k n sf pc L [.int v] :=
  fun p e s m args below meth c T C w => w.out C (fun q => by rw [hret] at q; cases q) hQ hk hn fun vm0 locs X fs hl => X.ireturnOut C.1 (t := .int) (C.2.2.2.1.trans hret) rfl (Or.inl rfl) (hb C.2.1 hd) hl
theorem Seg.retN {v w : Int32} {t : FieldType} (hret : ret = some t) (ht : t = .boolean ∨ t = .byte ∨ t = .char ∨ t = .short) (hv : nar t v = w) (hd : decode bytes pc = .ok (.ireturn, 1)) (hk : k ≤ rm.cells) (hn : n ≤ rm.slots) (hQ : Q (some (.int w)) h) : Seg l Z a0 EL y bytes maxL ret rm Q h k n sf pc L [.int v] :=
  fun p e s m args below meth c T C w' => by
    subst hv
    exact w'.out C (fun q => by rw [hret] at q; cases q) hQ hk hn fun vm0 locs X fs hl => RoadKit.retN X C.1 (t := t) (C.2.2.2.1.trans hret) ht (hb C.2.1 hd) hl
theorem Seg.retA {v : Value} {t : FieldType} (hret : ret = some t) (ht : t.isReference = true) (hv : v.isRef = true) (hd : decode bytes pc = .ok (.areturn, 1)) (hk : k ≤ rm.cells) (hn : n ≤ rm.slots) (hQ : Q (some v) h) : Seg l Z a0 EL y bytes maxL ret rm Q h k n sf pc L [v] :=
  fun p e s m args below meth c T C w => w.out C (fun q => by rw [hret] at q; cases q) hQ hk hn fun vm0 locs X fs hl => X.areturnOut C.1 hv (C.2.2.2.1.trans hret) ht (hb C.2.1 hd) hl
theorem Seg.retL {v : Int64} (hret : ret = some .long) (hd : decode bytes pc = .ok (.lreturn, 1)) (hk : k ≤ rm.cells) (hn : n ≤ rm.slots) (hQ : Q (some (.long v)) h) : Seg l Z a0 EL y bytes maxL ret rm Q h k n sf pc L [.long v] :=
  fun p e s m args below meth c T C w => w.out C (fun q => by rw [hret] at q; cases q) hQ hk hn fun vm0 locs X fs hl => X.lreturnOut C.1 (C.2.2.2.1.trans hret) (hb C.2.1 hd) hl
theorem Seg.ret0 (hret : ret = none) (hd : decode bytes pc = .ok (.return_, 1)) (hk : k ≤ rm.cells) (hn : n ≤ rm.slots) (hQ : Q none h) : Seg l Z a0 EL y bytes maxL ret rm Q h k n sf pc L [] :=
  fun p e s m args below meth c T C w => w.out C (fun _ => rfl) hQ hk hn fun vm0 locs X fs hl => X.returnOut C.1 (C.2.2.2.1.trans hret) (hb C.2.1 hd) hl
end Core
section Plain
variable {l : Launch} {Z : State} {a0 : Array Value} {EL : List (String × Nat)} {y : MethodName} {bytes : ByteArray} {maxL : Nat} {ret : Option FieldType} {rm : Room} {Q : Option Value → Heap → Prop} {h : Heap} {k n : Nat} {sf : List Addr} {pc pc' : Nat} {L : Array Slot} {S : List Value}
theorem Seg.iloadN {i : Fin 4} {v : Int32} (hd : decode bytes pc = .ok (.iload_n i, 1)) (hl : L[i.val]? = some (.val (.int v))) (hp : pc + 1 = pc') (g : Seg l Z a0 EL y bytes maxL ret rm Q h k n sf pc' L (.int v :: S)) : Seg l Z a0 EL y bytes maxL ret rm Q h k n sf pc L S := by
  subst hp
  exact Seg.plain (fun p e m below c T t hx hc ha hr => XS.iloadN ha hx rfl (hb hc hd) hl hr) g
theorem Seg.iload {i : Nat} {v : Int32} (hd : decode bytes pc = .ok (.iload i, 2)) (hl : L[i]? = some (.val (.int v))) (hp : pc + 2 = pc') (g : Seg l Z a0 EL y bytes maxL ret rm Q h k n sf pc' L (.int v :: S)) : Seg l Z a0 EL y bytes maxL ret rm Q h k n sf pc L S := by
  subst hp
  exact Seg.plain (fun p e m below c T t hx hc ha hr => XS.iload ha hx rfl (hb hc hd) hl hr) g
theorem Seg.lloadN {i : Fin 4} {v : Int64} (hd : decode bytes pc = .ok (.lload_n i, 1)) (hl : L[i.val]? = some (.val (.long v))) (hp : pc + 1 = pc') (g : Seg l Z a0 EL y bytes maxL ret rm Q h k n sf pc' L (.long v :: S)) : Seg l Z a0 EL y bytes maxL ret rm Q h k n sf pc L S := by
  subst hp
  exact Seg.plain (fun p e m below c T t hx hc ha hr => XT.lloadN ha hx rfl (hb hc hd) hl hr) g
theorem Seg.lload {i : Nat} {v : Int64} (hd : decode bytes pc = .ok (.lload i, 2)) (hl : L[i]? = some (.val (.long v))) (hp : pc + 2 = pc') (g : Seg l Z a0 EL y bytes maxL ret rm Q h k n sf pc' L (.long v :: S)) : Seg l Z a0 EL y bytes maxL ret rm Q h k n sf pc L S := by
  subst hp
  exact Seg.plain (fun p e m below c T t hx hc ha hr => XT.lload ha hx rfl (hb hc hd) hl hr) g
theorem Seg.aloadN {i : Fin 4} {v : Value} (hd : decode bytes pc = .ok (.aload_n i, 1)) (hl : L[i.val]? = some (.val v)) (hv : v.isRef = true) (hp : pc + 1 = pc') (g : Seg l Z a0 EL y bytes maxL ret rm Q h k n sf pc' L (v :: S)) : Seg l Z a0 EL y bytes maxL ret rm Q h k n sf pc L S := by
  subst hp
  exact Seg.plain (fun p e m below c T t hx hc ha hr => XS.aloadN ha hx rfl (hb hc hd) hl hv hr) g
theorem Seg.aload {i : Nat} {v : Value} (hd : decode bytes pc = .ok (.aload i, 2)) (hl : L[i]? = some (.val v)) (hv : v.isRef = true) (hp : pc + 2 = pc') (g : Seg l Z a0 EL y bytes maxL ret rm Q h k n sf pc' L (v :: S)) : Seg l Z a0 EL y bytes maxL ret rm Q h k n sf pc L S := by
  subst hp
  exact Seg.plain (fun p e m below c T t hx hc ha hr => XS.aload ha hx rfl (hb hc hd) hl hv hr) g
theorem Seg.istoreN {i : Fin 4} {v : Int32} {L' : Array Slot} (hd : decode bytes pc = .ok (.istore_n i, 1)) (hl : storeLocals L i.val (.int v) = some L') (hp : pc + 1 = pc') (g : Seg l Z a0 EL y bytes maxL ret rm Q h k n sf pc' L' S) : Seg l Z a0 EL y bytes maxL ret rm Q h k n sf pc L (.int v :: S) := by
  subst hp
  exact Seg.plain (fun p e m below c T t hx hc ha hr => XS.istoreN ha hx rfl (hb hc hd) rfl hl hr) g
theorem Seg.istore {i : Nat} {v : Int32} {L' : Array Slot} (hd : decode bytes pc = .ok (.istore i, 2)) (hl : storeLocals L i (.int v) = some L') (hp : pc + 2 = pc') (g : Seg l Z a0 EL y bytes maxL ret rm Q h k n sf pc' L' S) : Seg l Z a0 EL y bytes maxL ret rm Q h k n sf pc L (.int v :: S) := by
  subst hp
  exact Seg.plain (fun p e m below c T t hx hc ha hr => XS.istore ha hx rfl (hb hc hd) rfl hl hr) g
theorem Seg.lstoreN {i : Fin 4} {v : Int64} {L' : Array Slot} (hd : decode bytes pc = .ok (.lstore_n i, 1)) (hl : storeLocals L i.val (.long v) = some L') (hp : pc + 1 = pc') (g : Seg l Z a0 EL y bytes maxL ret rm Q h k n sf pc' L' S) : Seg l Z a0 EL y bytes maxL ret rm Q h k n sf pc L (.long v :: S) := by
  subst hp
  exact Seg.plain (fun p e m below c T t hx hc ha hr => XT.lstoreN ha hx rfl (hb hc hd) rfl hl hr) g
theorem Seg.lstore {i : Nat} {v : Int64} {L' : Array Slot} (hd : decode bytes pc = .ok (.lstore i, 2)) (hl : storeLocals L i (.long v) = some L') (hp : pc + 2 = pc') (g : Seg l Z a0 EL y bytes maxL ret rm Q h k n sf pc' L' S) : Seg l Z a0 EL y bytes maxL ret rm Q h k n sf pc L (.long v :: S) := by
  subst hp
  exact Seg.plain (fun p e m below c T t hx hc ha hr => XT.lstore ha hx rfl (hb hc hd) rfl hl hr) g
theorem Seg.astoreN {i : Fin 4} {v : Value} {L' : Array Slot} (hd : decode bytes pc = .ok (.astore_n i, 1)) (hv : v.isRef = true) (hl : storeLocals L i.val v = some L') (hp : pc + 1 = pc') (g : Seg l Z a0 EL y bytes maxL ret rm Q h k n sf pc' L' S) : Seg l Z a0 EL y bytes maxL ret rm Q h k n sf pc L (v :: S) := by
  subst hp
  exact Seg.plain (fun p e m below c T t hx hc ha hr => XS.astoreN ha hx rfl (hb hc hd) rfl hv hl hr) g
theorem Seg.astore {i : Nat} {v : Value} {L' : Array Slot} (hd : decode bytes pc = .ok (.astore i, 2)) (hv : v.isRef = true) (hl : storeLocals L i v = some L') (hp : pc + 2 = pc') (g : Seg l Z a0 EL y bytes maxL ret rm Q h k n sf pc' L' S) : Seg l Z a0 EL y bytes maxL ret rm Q h k n sf pc L (v :: S) := by
  subst hp
  exact Seg.plain (fun p e m below c T t hx hc ha hr => XS.astore ha hx rfl (hb hc hd) rfl hv hl hr) g
theorem Seg.iconst {i : Int} {v : Int32} (hd : decode bytes pc = .ok (.iconst i, 1)) (hv : Int32.ofInt i = v) (hp : pc + 1 = pc') (g : Seg l Z a0 EL y bytes maxL ret rm Q h k n sf pc' L (.int v :: S)) : Seg l Z a0 EL y bytes maxL ret rm Q h k n sf pc L S := by
  subst hp
  exact Seg.plain (fun p e m below c T t hx hc ha hr => XT.iconstV ha hx rfl v (hb hc hd) hv hr) g
theorem Seg.bipush {i : Int} {v : Int32} (hd : decode bytes pc = .ok (.bipush i, 2)) (hv : (Int8.ofInt i).toInt32 = v) (hp : pc + 2 = pc') (g : Seg l Z a0 EL y bytes maxL ret rm Q h k n sf pc' L (.int v :: S)) : Seg l Z a0 EL y bytes maxL ret rm Q h k n sf pc L S := by
  subst hp
  exact Seg.plain (fun p e m below c T t hx hc ha hr => XT.bipushV ha hx rfl v (hb hc hd) hv hr) g
theorem Seg.sipush {i : Int} {v : Int32} (hd : decode bytes pc = .ok (.sipush i, 3)) (hv : (Int16.ofInt i).toInt32 = v) (hp : pc + 3 = pc') (g : Seg l Z a0 EL y bytes maxL ret rm Q h k n sf pc' L (.int v :: S)) : Seg l Z a0 EL y bytes maxL ret rm Q h k n sf pc L S := by
  subst hp
  exact Seg.plain (fun p e m below c T t hx hc ha hr => XT.sipushV ha hx rfl v (hb hc hd) hv hr) g
theorem Seg.lconst {i : Fin 2} {v : Int64} (hd : decode bytes pc = .ok (.lconst i, 1)) (hv : Int64.ofNat i = v) (hp : pc + 1 = pc') (g : Seg l Z a0 EL y bytes maxL ret rm Q h k n sf pc' L (.long v :: S)) : Seg l Z a0 EL y bytes maxL ret rm Q h k n sf pc L S := by
  subst hp
  exact Seg.plain (fun p e m below c T t hx hc ha hr => XT.lconstV ha hx rfl v (hb hc hd) hv hr) g
theorem Seg.anull  (hd : decode bytes pc = .ok (.aconst_null, 1))  (hp : pc + 1 = pc') (g : Seg l Z a0 EL y bytes maxL ret rm Q h k n sf pc' L (.null :: S)) : Seg l Z a0 EL y bytes maxL ret rm Q h k n sf pc L S := by
  subst hp
  exact Seg.plain (fun p e m below c T t hx hc ha hr => XS.aconstNull ha hx rfl (hb hc hd) hr) g
theorem Seg.iadd {x z v : Int32} (hd : decode bytes pc = .ok (.iadd, 1)) (hv : x + z = v) (hp : pc + 1 = pc') (g : Seg l Z a0 EL y bytes maxL ret rm Q h k n sf pc' L (.int v :: S)) : Seg l Z a0 EL y bytes maxL ret rm Q h k n sf pc L (.int z :: .int x :: S) := by
  subst hp
  exact Seg.plain (fun p e m below c T t hx hc ha hr => XS.iadd ha hx rfl (hb hc hd) rfl (by subst hv; exact hr)) g
theorem Seg.isub {x z v : Int32} (hd : decode bytes pc = .ok (.isub, 1)) (hv : x - z = v) (hp : pc + 1 = pc') (g : Seg l Z a0 EL y bytes maxL ret rm Q h k n sf pc' L (.int v :: S)) : Seg l Z a0 EL y bytes maxL ret rm Q h k n sf pc L (.int z :: .int x :: S) := by
  subst hp
  exact Seg.plain (fun p e m below c T t hx hc ha hr => XS.isub ha hx rfl (hb hc hd) rfl (by subst hv; exact hr)) g
theorem Seg.imul {x z v : Int32} (hd : decode bytes pc = .ok (.imul, 1)) (hv : x * z = v) (hp : pc + 1 = pc') (g : Seg l Z a0 EL y bytes maxL ret rm Q h k n sf pc' L (.int v :: S)) : Seg l Z a0 EL y bytes maxL ret rm Q h k n sf pc L (.int z :: .int x :: S) := by
  subst hp
  exact Seg.plain (fun p e m below c T t hx hc ha hr => XS.imul ha hx rfl (hb hc hd) rfl (by subst hv; exact hr)) g
theorem Seg.iand {x z v : Int32} (hd : decode bytes pc = .ok (.iand, 1)) (hv : x &&& z = v) (hp : pc + 1 = pc') (g : Seg l Z a0 EL y bytes maxL ret rm Q h k n sf pc' L (.int v :: S)) : Seg l Z a0 EL y bytes maxL ret rm Q h k n sf pc L (.int z :: .int x :: S) := by
  subst hp
  exact Seg.plain (fun p e m below c T t hx hc ha hr => XS.iand ha hx rfl (hb hc hd) rfl (by subst hv; exact hr)) g
theorem Seg.ior {x z v : Int32} (hd : decode bytes pc = .ok (.ior, 1)) (hv : x ||| z = v) (hp : pc + 1 = pc') (g : Seg l Z a0 EL y bytes maxL ret rm Q h k n sf pc' L (.int v :: S)) : Seg l Z a0 EL y bytes maxL ret rm Q h k n sf pc L (.int z :: .int x :: S) := by
  subst hp
  exact Seg.plain (fun p e m below c T t hx hc ha hr => XT.ior ha hx rfl (hb hc hd) rfl (by subst hv; exact hr)) g
theorem Seg.ixor {x z v : Int32} (hd : decode bytes pc = .ok (.ixor, 1)) (hv : x ^^^ z = v) (hp : pc + 1 = pc') (g : Seg l Z a0 EL y bytes maxL ret rm Q h k n sf pc' L (.int v :: S)) : Seg l Z a0 EL y bytes maxL ret rm Q h k n sf pc L (.int z :: .int x :: S) := by
  subst hp
  exact Seg.plain (fun p e m below c T t hx hc ha hr => XT.ixor ha hx rfl (hb hc hd) rfl (by subst hv; exact hr)) g
theorem Seg.ishl {x z v : Int32} (hd : decode bytes pc = .ok (.ishl, 1)) (hv : x <<< (z &&& 31) = v) (hp : pc + 1 = pc') (g : Seg l Z a0 EL y bytes maxL ret rm Q h k n sf pc' L (.int v :: S)) : Seg l Z a0 EL y bytes maxL ret rm Q h k n sf pc L (.int z :: .int x :: S) := by
  subst hp
  exact Seg.plain (fun p e m below c T t hx hc ha hr => XT.ishl ha hx rfl (hb hc hd) rfl (by subst hv; exact hr)) g
theorem Seg.ishr {x z v : Int32} (hd : decode bytes pc = .ok (.ishr, 1)) (hv : x >>> (z &&& 31) = v) (hp : pc + 1 = pc') (g : Seg l Z a0 EL y bytes maxL ret rm Q h k n sf pc' L (.int v :: S)) : Seg l Z a0 EL y bytes maxL ret rm Q h k n sf pc L (.int z :: .int x :: S) := by
  subst hp
  exact Seg.plain (fun p e m below c T t hx hc ha hr => XT.ishr ha hx rfl (hb hc hd) rfl (by subst hv; exact hr)) g
theorem Seg.iushr {x z v : Int32} (hd : decode bytes pc = .ok (.iushr, 1)) (hv : (x.toUInt32 >>> (z &&& 31).toUInt32).toInt32 = v) (hp : pc + 1 = pc') (g : Seg l Z a0 EL y bytes maxL ret rm Q h k n sf pc' L (.int v :: S)) : Seg l Z a0 EL y bytes maxL ret rm Q h k n sf pc L (.int z :: .int x :: S) := by
  subst hp
  exact Seg.plain (fun p e m below c T t hx hc ha hr => XT.iushr ha hx rfl (hb hc hd) rfl (by subst hv; exact hr)) g
theorem Seg.ladd {x z v : Int64} (hd : decode bytes pc = .ok (.ladd, 1)) (hv : x + z = v) (hp : pc + 1 = pc') (g : Seg l Z a0 EL y bytes maxL ret rm Q h k n sf pc' L (.long v :: S)) : Seg l Z a0 EL y bytes maxL ret rm Q h k n sf pc L (.long z :: .long x :: S) := by
  subst hp
  exact Seg.plain (fun p e m below c T t hx hc ha hr => XT.ladd ha hx rfl (hb hc hd) rfl (by subst hv; exact hr)) g
theorem Seg.lsub {x z v : Int64} (hd : decode bytes pc = .ok (.lsub, 1)) (hv : x - z = v) (hp : pc + 1 = pc') (g : Seg l Z a0 EL y bytes maxL ret rm Q h k n sf pc' L (.long v :: S)) : Seg l Z a0 EL y bytes maxL ret rm Q h k n sf pc L (.long z :: .long x :: S) := by
  subst hp
  exact Seg.plain (fun p e m below c T t hx hc ha hr => XT.lsub ha hx rfl (hb hc hd) rfl (by subst hv; exact hr)) g
theorem Seg.lmul {x z v : Int64} (hd : decode bytes pc = .ok (.lmul, 1)) (hv : x * z = v) (hp : pc + 1 = pc') (g : Seg l Z a0 EL y bytes maxL ret rm Q h k n sf pc' L (.long v :: S)) : Seg l Z a0 EL y bytes maxL ret rm Q h k n sf pc L (.long z :: .long x :: S) := by
  subst hp
  exact Seg.plain (fun p e m below c T t hx hc ha hr => XT.lmul ha hx rfl (hb hc hd) rfl (by subst hv; exact hr)) g
theorem Seg.land {x z v : Int64} (hd : decode bytes pc = .ok (.land, 1)) (hv : x &&& z = v) (hp : pc + 1 = pc') (g : Seg l Z a0 EL y bytes maxL ret rm Q h k n sf pc' L (.long v :: S)) : Seg l Z a0 EL y bytes maxL ret rm Q h k n sf pc L (.long z :: .long x :: S) := by
  subst hp
  exact Seg.plain (fun p e m below c T t hx hc ha hr => XT.land ha hx rfl (hb hc hd) rfl (by subst hv; exact hr)) g
theorem Seg.lushr {x v : Int64} {z : Int32} (hd : decode bytes pc = .ok (.lushr, 1)) (hv : XT.ushrL x z = v) (hp : pc + 1 = pc') (g : Seg l Z a0 EL y bytes maxL ret rm Q h k n sf pc' L (.long v :: S)) : Seg l Z a0 EL y bytes maxL ret rm Q h k n sf pc L (.int z :: .long x :: S) := by
  subst hp
  exact Seg.plain (fun p e m below c T t hx hc ha hr => XT.lushr ha hx rfl (hb hc hd) rfl (by subst hv; exact hr)) g
theorem Seg.lrem {x z v : Int64} (hd : decode bytes pc = .ok (.lrem, 1)) (hz : z ≠ 0) (hv : x - (x / z) * z = v) (hp : pc + 1 = pc') (g : Seg l Z a0 EL y bytes maxL ret rm Q h k n sf pc' L (.long v :: S)) : Seg l Z a0 EL y bytes maxL ret rm Q h k n sf pc L (.long z :: .long x :: S) := by
  subst hp
  exact Seg.plain (fun p e m below c T t hx hc ha hr => XT.lrem ha hx rfl (hb hc hd) rfl hz (by subst hv; exact hr)) g
theorem Seg.i2l {x : Int32} {v : Int64} (hd : decode bytes pc = .ok (.i2l, 1)) (hv : x.toInt64 = v) (hp : pc + 1 = pc') (g : Seg l Z a0 EL y bytes maxL ret rm Q h k n sf pc' L (.long v :: S)) : Seg l Z a0 EL y bytes maxL ret rm Q h k n sf pc L (.int x :: S) := by
  subst hp
  exact Seg.plain (fun p e m below c T t hx hc ha hr => XT.i2l ha hx rfl (hb hc hd) rfl (by subst hv; exact hr)) g
theorem Seg.l2i {x : Int64} {v : Int32} (hd : decode bytes pc = .ok (.l2i, 1)) (hv : x.toInt32 = v) (hp : pc + 1 = pc') (g : Seg l Z a0 EL y bytes maxL ret rm Q h k n sf pc' L (.int v :: S)) : Seg l Z a0 EL y bytes maxL ret rm Q h k n sf pc L (.long x :: S) := by
  subst hp
  exact Seg.plain (fun p e m below c T t hx hc ha hr => XT.l2i ha hx rfl (hb hc hd) rfl (by subst hv; exact hr)) g
theorem Seg.i2b {x : Int32} {v : Int32} (hd : decode bytes pc = .ok (.i2b, 1)) (hv : x.toInt8.toInt32 = v) (hp : pc + 1 = pc') (g : Seg l Z a0 EL y bytes maxL ret rm Q h k n sf pc' L (.int v :: S)) : Seg l Z a0 EL y bytes maxL ret rm Q h k n sf pc L (.int x :: S) := by
  subst hp
  exact Seg.plain (fun p e m below c T t hx hc ha hr => XT.i2b ha hx rfl (hb hc hd) rfl (by subst hv; exact hr)) g
theorem Seg.i2c {x : Int32} {v : Int32} (hd : decode bytes pc = .ok (.i2c, 1)) (hv : x.toUInt32.toUInt16.toUInt32.toInt32 = v) (hp : pc + 1 = pc') (g : Seg l Z a0 EL y bytes maxL ret rm Q h k n sf pc' L (.int v :: S)) : Seg l Z a0 EL y bytes maxL ret rm Q h k n sf pc L (.int x :: S) := by
  subst hp
  exact Seg.plain (fun p e m below c T t hx hc ha hr => XT.i2c ha hx rfl (hb hc hd) rfl (by subst hv; exact hr)) g
theorem Seg.irem {x z v : Int32} (hd : decode bytes pc = .ok (.irem, 1)) (hz : z ≠ 0) (hv : x % z = v) (hp : pc + 1 = pc') (g : Seg l Z a0 EL y bytes maxL ret rm Q h k n sf pc' L (.int v :: S)) : Seg l Z a0 EL y bytes maxL ret rm Q h k n sf pc L (.int z :: .int x :: S) := by
  subst hp
  exact Seg.plain (fun p e m below c T t hx hc ha hr => XS.irem ha hx rfl (hb hc hd) rfl hz (by subst hv; rw [irem_eq_mod]; exact hr)) g
theorem Seg.lcmp {x z : Int64} {v : Int32} (hd : decode bytes pc = .ok (.lcmp, 1)) (hv : lcmpW x z = v) (hp : pc + 1 = pc') (g : Seg l Z a0 EL y bytes maxL ret rm Q h k n sf pc' L (.int v :: S)) : Seg l Z a0 EL y bytes maxL ret rm Q h k n sf pc L (.long z :: .long x :: S) := by
  subst hp
  exact Seg.plain (fun p e m below c T t hx hc ha hr => XT.lcmp ha hx rfl (hb hc hd) rfl (by subst hv; exact hr)) g
theorem Seg.dup {v : Value} (hd : decode bytes pc = .ok (.dup, 1)) (hv : v.category = 1) (hp : pc + 1 = pc') (g : Seg l Z a0 EL y bytes maxL ret rm Q h k n sf pc' L (v :: v :: S)) : Seg l Z a0 EL y bytes maxL ret rm Q h k n sf pc L (v :: S) := by
  subst hp
  exact Seg.plain (fun p e m below c T t hx hc ha hr => XS.dup ha hx rfl (hb hc hd) rfl hv hr) g
theorem Seg.dupX1 {v w : Value} (hd : decode bytes pc = .ok (.dup_x1, 1)) (hv : v.category = 1) (hw : w.category = 1) (hp : pc + 1 = pc') (g : Seg l Z a0 EL y bytes maxL ret rm Q h k n sf pc' L (v :: w :: v :: S)) : Seg l Z a0 EL y bytes maxL ret rm Q h k n sf pc L (v :: w :: S) := by
  subst hp
  exact Seg.plain (fun p e m below c T t hx hc ha hr => XT.dupX1 ha hx rfl (hb hc hd) rfl hv hw hr) g
theorem Seg.pop {v : Value} (hd : decode bytes pc = .ok (.pop, 1)) (hv : v.category = 1) (hp : pc + 1 = pc') (g : Seg l Z a0 EL y bytes maxL ret rm Q h k n sf pc' L S) : Seg l Z a0 EL y bytes maxL ret rm Q h k n sf pc L (v :: S) := by
  subst hp
  exact Seg.plain (fun p e m below c T t hx hc ha hr => XT.pop ha hx rfl (hb hc hd) rfl hv hr) g
theorem Seg.iinc {i : Nat} {d : Int} {x v : Int32} {L' : Array Slot} (hd : decode bytes pc = .ok (.iinc i d, 3)) (hv : Int32.ofInt d = v) (hl : L[i]? = some (.val (.int x))) {z : Int32} (hz : x + v = z) (hl' : storeLocals L i (.int z) = some L') (hp : pc + 3 = pc') (g : Seg l Z a0 EL y bytes maxL ret rm Q h k n sf pc' L' S) : Seg l Z a0 EL y bytes maxL ret rm Q h k n sf pc L S := by
  subst hp
  exact Seg.plain (fun p e m below c T t hx hc ha hr => XT.iincV ha hx rfl v (hb hc hd) hv hl (by rw [hz]; exact hl') hr) g
theorem Seg.goto {o : Int} (hd : decode bytes pc = .ok (.goto o, 3))  (ho : 0 ≤ (pc : Int) + o) (hp : ((pc : Int) + o).toNat = pc') (g : Seg l Z a0 EL y bytes maxL ret rm Q h k n sf pc' L S) : Seg l Z a0 EL y bytes maxL ret rm Q h k n sf pc L S := by
  subst hp
  exact Seg.plain (fun p e m below c T t hx hc ha hr => XS.goto ha hx rfl rfl (hb hc hd) ho rfl hr) g
theorem Seg.ifY {cd : ClassFile.Cond} {o : Int} {x : Int32} (hd : decode bytes pc = .ok (.ifCond cd o, 3)) (hc' : ifCond.holds cd x = true) (ho : 0 ≤ (pc : Int) + o) (hp : ((pc : Int) + o).toNat = pc') (g : Seg l Z a0 EL y bytes maxL ret rm Q h k n sf pc' L S) : Seg l Z a0 EL y bytes maxL ret rm Q h k n sf pc L (.int x :: S) := by
  subst hp
  exact Seg.plain (fun p e m below c T t hx hc ha hr => XS.ifYes ha hx rfl rfl (hb hc hd) rfl hc' ho rfl hr) g
theorem Seg.ifN {cd : ClassFile.Cond} {o : Int} {x : Int32} (hd : decode bytes pc = .ok (.ifCond cd o, 3)) (hc' : ifCond.holds cd x = false) (hp : pc + 3 = pc') (g : Seg l Z a0 EL y bytes maxL ret rm Q h k n sf pc' L S) : Seg l Z a0 EL y bytes maxL ret rm Q h k n sf pc L (.int x :: S) := by
  subst hp
  exact Seg.plain (fun p e m below c T t hx hc ha hr => XS.ifNo ha hx rfl (hb hc hd) rfl hc' hr) g
theorem Seg.icY {cd : ClassFile.Cond} {o : Int} {x z : Int32} (hd : decode bytes pc = .ok (.if_icmp cd o, 3)) (hc' : if_icmp.holds cd x z = true) (ho : 0 ≤ (pc : Int) + o) (hp : ((pc : Int) + o).toNat = pc') (g : Seg l Z a0 EL y bytes maxL ret rm Q h k n sf pc' L S) : Seg l Z a0 EL y bytes maxL ret rm Q h k n sf pc L (.int z :: .int x :: S) := by
  subst hp
  exact Seg.plain (fun p e m below c T t hx hc ha hr => XS.icmpYes ha hx rfl rfl (hb hc hd) rfl hc' ho rfl hr) g
theorem Seg.icN {cd : ClassFile.Cond} {o : Int} {x z : Int32} (hd : decode bytes pc = .ok (.if_icmp cd o, 3)) (hc' : if_icmp.holds cd x z = false) (hp : pc + 3 = pc') (g : Seg l Z a0 EL y bytes maxL ret rm Q h k n sf pc' L S) : Seg l Z a0 EL y bytes maxL ret rm Q h k n sf pc L (.int z :: .int x :: S) := by
  subst hp
  exact Seg.plain (fun p e m below c T t hx hc ha hr => XS.icmpNo ha hx rfl (hb hc hd) rfl hc' hr) g
theorem Seg.nullY {o : Int} (hd : decode bytes pc = .ok (.ifnull o, 3))  (ho : 0 ≤ (pc : Int) + o) (hp : ((pc : Int) + o).toNat = pc') (g : Seg l Z a0 EL y bytes maxL ret rm Q h k n sf pc' L S) : Seg l Z a0 EL y bytes maxL ret rm Q h k n sf pc L (.null :: S) := by
  subst hp
  exact Seg.plain (fun p e m below c T t hx hc ha hr => XS.ifnullYes ha hx rfl rfl (hb hc hd) rfl ho rfl hr) g
theorem Seg.nullN {o : Int} {a : Addr} (hd : decode bytes pc = .ok (.ifnull o, 3))  (hp : pc + 3 = pc') (g : Seg l Z a0 EL y bytes maxL ret rm Q h k n sf pc' L S) : Seg l Z a0 EL y bytes maxL ret rm Q h k n sf pc L (.ref a :: S) := by
  subst hp
  exact Seg.plain (fun p e m below c T t hx hc ha hr => XS.ifnullNo ha hx rfl (hb hc hd) rfl hr) g
theorem Seg.nonnY {o : Int} {a : Addr} (hd : decode bytes pc = .ok (.ifnonnull o, 3))  (ho : 0 ≤ (pc : Int) + o) (hp : ((pc : Int) + o).toNat = pc') (g : Seg l Z a0 EL y bytes maxL ret rm Q h k n sf pc' L S) : Seg l Z a0 EL y bytes maxL ret rm Q h k n sf pc L (.ref a :: S) := by
  subst hp
  exact Seg.plain (fun p e m below c T t hx hc ha hr => XT.ifnonnullYes ha hx rfl rfl (hb hc hd) rfl ho rfl hr) g
theorem Seg.nonnN {o : Int} (hd : decode bytes pc = .ok (.ifnonnull o, 3))  (hp : pc + 3 = pc') (g : Seg l Z a0 EL y bytes maxL ret rm Q h k n sf pc' L S) : Seg l Z a0 EL y bytes maxL ret rm Q h k n sf pc L (.null :: S) := by
  subst hp
  exact Seg.plain (fun p e m below c T t hx hc ha hr => XT.ifnonnullNo ha hx rfl (hb hc hd) rfl hr) g
theorem Seg.acY {cd : ClassFile.ACond} {o : Int} {x z : Value} (hd : decode bytes pc = .ok (.if_acmp cd o, 3)) (hx' : x.isRef = true) (hz' : z.isRef = true) (hc' : XT.acmp cd x z = true) (ho : 0 ≤ (pc : Int) + o) (hp : ((pc : Int) + o).toNat = pc') (g : Seg l Z a0 EL y bytes maxL ret rm Q h k n sf pc' L S) : Seg l Z a0 EL y bytes maxL ret rm Q h k n sf pc L (z :: x :: S) := by
  subst hp
  exact Seg.plain (fun p e m below c T t hx hc ha hr => XT.acmpYes ha hx rfl rfl (hb hc hd) rfl hx' hz' hc' ho rfl hr) g
theorem Seg.acN {cd : ClassFile.ACond} {o : Int} {x z : Value} (hd : decode bytes pc = .ok (.if_acmp cd o, 3)) (hx' : x.isRef = true) (hz' : z.isRef = true) (hc' : XT.acmp cd x z = false) (hp : pc + 3 = pc') (g : Seg l Z a0 EL y bytes maxL ret rm Q h k n sf pc' L S) : Seg l Z a0 EL y bytes maxL ret rm Q h k n sf pc L (z :: x :: S) := by
  subst hp
  exact Seg.plain (fun p e m below c T t hx hc ha hr => XT.acmpNo ha hx rfl (hb hc hd) rfl hx' hz' hc' hr) g
end Plain
section Heap
variable {l : Launch} {Z : State} {a0 : Array Value} {EL : List (String × Nat)} {y : MethodName} {bytes : ByteArray} {maxL : Nat} {ret : Option FieldType} {rm : Room} {Q : Option Value → Heap → Prop} {h : Heap} {k n : Nat} {sf : List Addr} {pc pc' : Nat} {L : Array Slot} {S : List Value}
variable {p : Program} {e : Env} {R : Room} {s : State} {m : MethodId} {args : Array Value} {below : List Frame} {meth : Method} {c : Code} {T : State} {own : String}
theorem Seg.newO {C : String} {idx sz : Nat} (w : (Cond.classLink y.cls idx C).before a0 Z = true) (wi : (Cond.instantiable C sz).before a0 Z = true) (wz : (Cond.initialized C).before a0 Z = true) (hd : decode bytes pc = .ok (.new idx, 3)) (hp : pc + 3 = pc') {k' n' : Nat} (hk : k + 1 = k') (hn : n + sz = n') (hk2 : k' ≤ rm.cells) (hn2 : n' ≤ rm.slots)
    (g : ∀ (x : Addr) (h' : Heap), Ext h h' → h.size = x → x < h'.size → Exa Z h' x C → (∀ {O nm d : String} {ty : FieldType}, Laid Z a0 C O nm d → parseFieldDescriptor d = some ty → Fld Z h' x O nm d (defaultValue ty)) → Seg l Z a0 EL y bytes maxL ret rm Q h' k' n' (x :: sf) pc' L (.ref x :: S)) :
    Seg l Z a0 EL y bytes maxL ret rm Q h k n sf pc L S := by
  subst hp hk hn
  intro p e s m args below meth c T C' w'
  obtain ⟨vm0, locs, k0, X, r1, r2, r3, r4, r5, r6, r7, r8, r9, r10⟩ := w'
  obtain ⟨T', h', X', e', E, A, D, -, st⟩ := RoadKit.newO X C'.1 r4 r5 w wi wz r1 (g := mkF m pc L S) rfl (hb C'.2.1 hd) hk2 hn2
  refine Gl.st st (g _ h' E rfl A.lt A D p e s m args below meth c T' C' ⟨vm0, locs, k0, X', e', r2, Nat.le_trans r3 E.1, r4, r5, r6.trans (CHr.ext E r6.1), r7, ext_tr r8 E, r9, ?_⟩)
  exact (r10.chr (CHr.ext E r6.1)).cons r8.1 A.lt ((Safe.new (Nat.le_refl _)).ext E r6.1)
theorem Seg.newP {aty : ArrayType} {ty : FieldType} {dv : Value} {z : Int32} (hty : newarray.typeOf aty = ty) (hdv : defaultValue ty = dv) (w : (Cond.arrayClass ty).before a0 Z = true) (hd : decode bytes pc = .ok (.newarray aty, 2)) (hp : pc + 2 = pc') (hz : ¬ z < 0) {cap : Nat} (hcap : z.toNatClampNeg ≤ cap) (hb8 : cap * 8 ≤ 536870912) {k' n' : Nat} (hk : k + 1 = k') (hn : n + cap = n') (hk2 : k' ≤ rm.cells) (hn2 : n' ≤ rm.slots)
    (g : ∀ (x : Addr) (h' : Heap) (kc : ClassId), Ext h h' → h.size = x → x < h'.size → Arv Z h' x kc ty z [] dv → Seg l Z a0 EL y bytes maxL ret rm Q h' k' n' (x :: sf) pc' L (.ref x :: S)) :
    Seg l Z a0 EL y bytes maxL ret rm Q h k n sf pc L (.int z :: S) := by
  subst hp hk hn hty hdv
  intro p e s m args below meth c T C' w'
  obtain ⟨vm0, locs, k0, X, r1, r2, r3, r4, r5, r6, r7, r8, r9, r10⟩ := w'
  obtain ⟨T', h', cA, X', e', E, A, st⟩ := RoadKit.newP X C'.1 r4 w r1 (g := mkF m pc L (.int z :: S)) rfl (hb C'.2.1 hd) rfl hz hcap hb8 hk2 hn2
  have V := Arv.new A hz
  refine Gl.st st (g _ h' cA E rfl A.lt V p e s m args below meth c T' C' ⟨vm0, locs, k0, X', e', r2, Nat.le_trans r3 E.1, r4, r5, r6.trans (CHr.ext E r6.1), r7, ext_tr r8 E, r9, ?_⟩)
  exact (r10.chr (CHr.ext E r6.1)).cons r8.1 A.lt ((Safe.new (Nat.le_refl _)).ext E r6.1)
theorem Seg.getF {R0 O nm d host : String} {idx : Nat} {a : Addr} {v : Value} (w : (Cond.fieldLink y.cls idx R0 nm d).before a0 Z = true ∨ (Cond.fieldLinkNest y.cls idx R0 nm d host).before a0 Z = true) (via : Via Z R0 O nm d) (F : Fld Z h a O nm d v) (hd : decode bytes pc = .ok (.getfield idx, 3)) (hp : pc + 3 = pc')
    (g : Seg l Z a0 EL y bytes maxL ret rm Q h k n sf pc' L (v :: S)) : Seg l Z a0 EL y bytes maxL ret rm Q h k n sf pc L (.ref a :: S) := by
  subst hp
  intro p e s m args below meth c T C' w'
  obtain ⟨vm0, locs, k0, X, r1, r2, r3, r4, r5, r⟩ := w'
  obtain ⟨T', X', e', st⟩ := RoadKit.getF X C'.1 r4 r5 w via r1 F (g := mkF m pc L (.ref a :: S)) rfl rfl (hb C'.2.1 hd)
  exact Gl.st st (g p e s m args below meth c T' C' ⟨vm0, locs, k0, X', e', r2, r3, r4, r5, r⟩)
theorem Seg.getS {R0 O nm d : String} {idx : Nat} {v : Value} (w : (Cond.fieldLink y.cls idx R0 nm d).before a0 Z = true) (via : Via Z R0 O nm d) (F : Sta Z Z.heap O nm d v) (hd : decode bytes pc = .ok (.getstatic idx, 3)) (hp : pc + 3 = pc')
    (g : Seg l Z a0 EL y bytes maxL ret rm Q h k n sf pc' L (v :: S)) : Seg l Z a0 EL y bytes maxL ret rm Q h k n sf pc L S := by
  subst hp
  intro p e s m args below meth c T C' w'
  obtain ⟨vm0, locs, k0, X, r1, r2, r3, r4, r5, r6, r7, r8, r⟩ := w'
  obtain ⟨T', X', e', st⟩ := RoadKit.getS X C'.1 r4 (host := "") r5 w via r1 (F.ext r8) (g := mkF m pc L S) rfl (hb C'.2.1 hd)
  exact Gl.st st (g p e s m args below meth c T' C' ⟨vm0, locs, k0, X', e', r2, r3, r4, r5, r6, r7, r8, r⟩)
theorem Seg.castY {K : String} {idx : Nat} {a : Addr} (w : (Cond.classLink y.cls idx K).before a0 Z = true) (F : Ins Z h a K true) (hd : decode bytes pc = .ok (.checkcast idx, 3)) (hp : pc + 3 = pc')
    (g : Seg l Z a0 EL y bytes maxL ret rm Q h k n sf pc' L (.ref a :: S)) : Seg l Z a0 EL y bytes maxL ret rm Q h k n sf pc L (.ref a :: S) := by
  subst hp
  intro p e s m args below meth c T C' w'
  obtain ⟨vm0, locs, k0, X, r1, r2, r3, r4, r5, r⟩ := w'
  obtain ⟨T', X', e', st⟩ := RoadKit.castY X C'.1 r4 r5 w r1 F (g := mkF m pc L (.ref a :: S)) rfl rfl (hb C'.2.1 hd)
  exact Gl.st st (g p e s m args below meth c T' C' ⟨vm0, locs, k0, X', e', r2, r3, r4, r5, r⟩)
theorem Seg.castNull {idx : Nat} (hd : decode bytes pc = .ok (.checkcast idx, 3)) (hp : pc + 3 = pc')
    (g : Seg l Z a0 EL y bytes maxL ret rm Q h k n sf pc' L (.null :: S)) : Seg l Z a0 EL y bytes maxL ret rm Q h k n sf pc L (.null :: S) := by
  subst hp
  intro p e s m args below meth c T C' w'
  obtain ⟨vm0, locs, k0, X, r⟩ := w'
  exact Gl.st (X.checkcastNull C'.1 (g := mkF m pc L (.null :: S)) rfl rfl (hb C'.2.1 hd)) (g p e s m args below meth c T C' ⟨vm0, locs, k0, X, r⟩)
theorem Seg.instNull {idx : Nat} (hd : decode bytes pc = .ok (.instanceof idx, 3)) (hp : pc + 3 = pc')
    (g : Seg l Z a0 EL y bytes maxL ret rm Q h k n sf pc' L (.int 0 :: S)) : Seg l Z a0 EL y bytes maxL ret rm Q h k n sf pc L (.null :: S) := by
  subst hp
  intro p e s m args below meth c T C' w'
  obtain ⟨vm0, locs, k0, X, r⟩ := w'
  exact Gl.st (X.instanceofNull C'.1 (g := mkF m pc L (.null :: S)) rfl rfl (hb C'.2.1 hd)) (g p e s m args below meth c T C' ⟨vm0, locs, k0, X, r⟩)
theorem Seg.instY {K : String} {idx : Nat} {a : Addr} (w : (Cond.classLink y.cls idx K).before a0 Z = true) (F : Ins Z h a K true) (hd : decode bytes pc = .ok (.instanceof idx, 3)) (hp : pc + 3 = pc')
    (g : Seg l Z a0 EL y bytes maxL ret rm Q h k n sf pc' L (.int 1 :: S)) : Seg l Z a0 EL y bytes maxL ret rm Q h k n sf pc L (.ref a :: S) := by
  subst hp
  intro p e s m args below meth c T C' w'
  obtain ⟨vm0, locs, k0, X, r1, r2, r3, r4, r5, r⟩ := w'
  obtain ⟨T', X', e', st⟩ := RoadKit.instY X C'.1 r4 r5 w r1 F (g := mkF m pc L (.ref a :: S)) rfl rfl (hb C'.2.1 hd)
  exact Gl.st st (g p e s m args below meth c T' C' ⟨vm0, locs, k0, X', e', r2, r3, r4, r5, r⟩)
theorem Seg.instNo {K C : String} {idx : Nat} {a : Addr} (w : (Cond.classLink y.cls idx K).before a0 Z = true) (E : Exa Z h a C) (F : ∃ c t, Z.vm.findClass C = some c ∧ Z.vm.findClass K = some t ∧ Z.vm.assignable c t = false) (hd : decode bytes pc = .ok (.instanceof idx, 3)) (hp : pc + 3 = pc')
    (g : Seg l Z a0 EL y bytes maxL ret rm Q h k n sf pc' L (.int 0 :: S)) : Seg l Z a0 EL y bytes maxL ret rm Q h k n sf pc L (.ref a :: S) := by
  subst hp
  intro p e s m args below meth c T C' w'
  obtain ⟨vm0, locs, k0, X, r1, r2, r3, r4, r5, r⟩ := w'
  obtain ⟨T', X', e', st⟩ := RoadKit.instNo X C'.1 r4 r5 w r1 E F (g := mkF m pc L (.ref a :: S)) rfl rfl (hb C'.2.1 hd)
  exact Gl.st st (g p e s m args below meth c T' C' ⟨vm0, locs, k0, X', e', r2, r3, r4, r5, r⟩)
theorem Seg.initO {idx : Nat} {a : Addr} (w1 : (Cond.methodLink y.cls idx Lib.objectInit).before a0 Z = true) (w2 : (Cond.instanceMethod Lib.objectInit).before a0 Z = true) (w3 : (Cond.code Lib.objectInit ⟨#[0xb1]⟩ 1 none).before a0 Z = true) (hsz : L.size = maxL) (hd : decode bytes pc = .ok (.invokespecial idx, 3)) (hp : pc + 3 = pc') (hf : 1 ≤ rm.frames) {W : Nat} (hW : (S.map fun v => v.category).sum ≤ W) (hl : W + 12 ≤ rm.locals)
    (g : Seg l Z a0 EL y bytes maxL ret rm Q h k n sf pc' L S) : Seg l Z a0 EL y bytes maxL ret rm Q h k n sf pc L (.ref a :: S) := by
  subst hp
  intro p e s m args below meth c T C' w'
  obtain ⟨vm0, locs, k0, X, r1, r2, r3, r4, r5, r⟩ := w'
  obtain ⟨T', X', e', st⟩ := RoadKit.initO X C'.1 r4 r5 w1 w2 w3 r1 (g := mkF m pc L (.ref a :: S)) rfl (hsz.trans C'.2.2.1.symm) rfl (hb C'.2.1 hd) hf (W := W) (by show 2 * 0 + _ ≤ _; omega) hl
  exact Gl.st st (g p e s m args below meth c T' C' ⟨vm0, locs, k0, X', e', r2, r3, r4, r5, r⟩)
theorem wkWr {h' : Heap} {a : Addr} {sl : Nat} {v : Value} {T' : State} {vm0 : Vm} {locs : List Loc} {k0 : Nat} (W : Wr h h' a sl v) (hsf : a ∈ sf) (X' : Stand p l e R (s.setVm vm0) m args below meth c T' (locs ++ [⟨a, sl⟩]) k n) (e' : T'.heap = h')
    (r : s.Since vm0 k0 ∧ k0 ≤ h.size ∧ Z.Warmed39 vm0 ∧ vm0.findClass own = some m.cls ∧ CHr Z EL s.vm s.heap vm0 h ∧ Fr Z.heap.size locs ∧ Ext Z.heap h ∧ EW Z a0 EL ∧ SfOk Z EL vm0 h sf) : Wk p l e R s m args below meth c Z a0 EL own sf k n T' h' := by
  obtain ⟨r2, r3, r4, r5, r6, r7, r8, r9, r10⟩ := r
  obtain ⟨q1, q2, q3⟩ := r10 a hsf
  have A := CHr.wr W q3 r6.1
  exact ⟨vm0, _, k0, X', e', r2, Nat.le_trans r3 A.2.1, r4, r5, r6.trans A, Fr.snoc X' r7 q1, ext_wr r8 W q1, r9, r10.chr A⟩
theorem Seg.putF {R0 O nm d host C : String} {idx kk : Nat} {ty : FieldType} {a : Addr} {v v' old : Value} (w : (Cond.fieldLink y.cls idx R0 nm d).before a0 Z = true) (via : Via Z R0 O nm d) (F : Fld Z h a O nm d old) (E : Exa Z h a C) (Lw : (Cond.lays C O nm d).before a0 Z = true ∨ ((Cond.laysFinal C O nm d).before a0 Z = true ∧ y.cls = O ∧ y.name = "<init>")) (wi : (Cond.instantiable C kk).before a0 Z = true)
    (hty : parseFieldDescriptor d = some ty) (hnw : narrow ty v = v') (hf : fits ty v' = true) (hsf : a ∈ sf) (hd : decode bytes pc = .ok (.putfield idx, 3)) (hp : pc + 3 = pc')
    (g : ∀ h', Wr h h' a (RoadKit.slotOf Z O nm d) v' → Fld Z h' a O nm d v' → Seg l Z a0 EL y bytes maxL ret rm Q h' k n sf pc' L S) : Seg l Z a0 EL y bytes maxL ret rm Q h k n sf pc L (v :: .ref a :: S) := by
  subst hp
  intro p e s m args below meth c T C' w'
  obtain ⟨vm0, locs, k0, X, r1, r2, r3, r4, r5, r⟩ := w'
  obtain ⟨T', h', X', e', W, st⟩ := RoadKit.putFN X C'.1 r4 r5 w via r1 F E (Lw.imp id fun q => ⟨q.1, q.2.1, C'.2.2.2.2.2.trans q.2.2⟩) wi hty hnw hf (g := mkF m pc L (v :: .ref a :: S)) rfl rfl (hb C'.2.1 hd)
  exact Gl.st st (g h' W (F.same W) p e s m args below meth c T' C' (wkWr W hsf X' e' ⟨r2, r3, r4, r5, r⟩))
theorem Seg.castore {a : Addr} {kc : ClassId} {z j v v' : Int32} {vs : List Value} {dv : Value} {i : Nat} (F : Arv Z h a kc .char z vs dv) (hj : ¬ j < 0 ∧ j < z) (hi : j.toNatClampNeg = i) (hil : i < vs.length) (hv : nar .char v = v') (hsf : a ∈ sf) (hd : decode bytes pc = .ok (.castore, 1)) (hp : pc + 1 = pc')
    (g : ∀ h', Wr h h' a i (.int v') → Arv Z h' a kc .char z (vs.set i (.int v')) dv → Seg l Z a0 EL y bytes maxL ret rm Q h' k n sf pc' L S) : Seg l Z a0 EL y bytes maxL ret rm Q h k n sf pc L (.int v :: .int j :: .ref a :: S) := by
  subst hp hv hi
  intro p e s m args below meth c T C' w'
  obtain ⟨vm0, locs, k0, X, r1, r2, r3, r4, r5, r⟩ := w'
  obtain ⟨cl, A, q, Sz, N, H, G⟩ := F
  obtain ⟨T', h', X', e', W, st⟩ := RoadKit.stC X C'.1 r4 r1 A (inb_of Sz hj) (g := mkF m pc L (.int v :: .int j :: .ref a :: S)) rfl rfl (hb C'.2.1 hd)
  exact Gl.st st (g h' W (Arv.set A q Sz N H G (fits_nar_char _) W _ rfl hil) p e s m args below meth c T' C' (wkWr W hsf X' e' ⟨r2, r3, r4, r5, r⟩))
theorem Seg.bastore {a : Addr} {kc : ClassId} {z j v v' : Int32} {vs : List Value} {dv : Value} {i : Nat} (F : Arv Z h a kc .byte z vs dv) (hj : ¬ j < 0 ∧ j < z) (hi : j.toNatClampNeg = i) (hil : i < vs.length) (hv : nar .byte v = v') (hsf : a ∈ sf) (hd : decode bytes pc = .ok (.bastore, 1)) (hp : pc + 1 = pc')
    (g : ∀ h', Wr h h' a i (.int v') → Arv Z h' a kc .byte z (vs.set i (.int v')) dv → Seg l Z a0 EL y bytes maxL ret rm Q h' k n sf pc' L S) : Seg l Z a0 EL y bytes maxL ret rm Q h k n sf pc L (.int v :: .int j :: .ref a :: S) := by
  subst hp hv hi
  intro p e s m args below meth c T C' w'
  obtain ⟨vm0, locs, k0, X, r1, r2, r3, r4, r5, r⟩ := w'
  obtain ⟨cl, A, q, Sz, N, H, G⟩ := F
  obtain ⟨T', h', X', e', W, st⟩ := RoadKit.stB X C'.1 r4 r1 A (inb_of Sz hj) (g := mkF m pc L (.int v :: .int j :: .ref a :: S)) rfl rfl (hb C'.2.1 hd)
  exact Gl.st st (g h' W (Arv.set A q Sz N H G (fits_nar_byte _) W _ rfl hil) p e s m args below meth c T' C' (wkWr W hsf X' e' ⟨r2, r3, r4, r5, r⟩))
theorem Seg.iastore {a : Addr} {kc : ClassId} {z j v : Int32} {vs : List Value} {dv : Value} {i : Nat} (F : Arv Z h a kc .int z vs dv) (hj : ¬ j < 0 ∧ j < z) (hi : j.toNatClampNeg = i) (hil : i < vs.length) (hsf : a ∈ sf) (hd : decode bytes pc = .ok (.iastore, 1)) (hp : pc + 1 = pc')
    (g : ∀ h', Wr h h' a i (.int v) → Arv Z h' a kc .int z (vs.set i (.int v)) dv → Seg l Z a0 EL y bytes maxL ret rm Q h' k n sf pc' L S) : Seg l Z a0 EL y bytes maxL ret rm Q h k n sf pc L (.int v :: .int j :: .ref a :: S) := by
  subst hp hi
  intro p e s m args below meth c T C' w'
  obtain ⟨vm0, locs, k0, X, r1, r2, r3, r4, r5, r⟩ := w'
  obtain ⟨cl, A, q, Sz, N, H, G⟩ := F
  obtain ⟨T', h', X', e', W, st⟩ := RoadKit.stI X C'.1 r4 r1 A (inb_of Sz hj) (g := mkF m pc L (.int v :: .int j :: .ref a :: S)) rfl rfl (hb C'.2.1 hd)
  exact Gl.st st (g h' W (Arv.set A q Sz N H G rfl W _ rfl hil) p e s m args below meth c T' C' (wkWr W hsf X' e' ⟨r2, r3, r4, r5, r⟩))
theorem Seg.caload {a : Addr} {kc : ClassId} {z j : Int32} {vs : List Value} {dv v : Value} (F : Arv Z h a kc .char z vs dv) (hj : ¬ j < 0 ∧ j < z) (hv : vs.getD j.toNatClampNeg dv = v) (hd : decode bytes pc = .ok (.caload, 1)) (hp : pc + 1 = pc')
    (g : Seg l Z a0 EL y bytes maxL ret rm Q h k n sf pc' L (v :: S)) : Seg l Z a0 EL y bytes maxL ret rm Q h k n sf pc L (.int j :: .ref a :: S) := by
  subst hp
  intro p e s m args below meth c T C' w'
  obtain ⟨vm0, locs, k0, X, r1, r2, r3, r4, r⟩ := w'
  obtain ⟨cl, A, q, Sz, N, H, G⟩ := F
  exact Gl.st (X.caload C'.1 (by rw [r1]; exact A.1) (State.isArrayOf_alike r4.alike A.2.1) A.2.2 (inb_of Sz hj) (H.at (inb_of Sz hj) hv) (g := mkF m pc L (.int j :: .ref a :: S)) rfl rfl (hb C'.2.1 hd)) (g p e s m args below meth c T C' ⟨vm0, locs, k0, X, r1, r2, r3, r4, r⟩)
theorem Seg.baload {a : Addr} {kc : ClassId} {z j : Int32} {vs : List Value} {dv v : Value} (F : Arv Z h a kc .byte z vs dv) (hj : ¬ j < 0 ∧ j < z) (hv : vs.getD j.toNatClampNeg dv = v) (hd : decode bytes pc = .ok (.baload, 1)) (hp : pc + 1 = pc')
    (g : Seg l Z a0 EL y bytes maxL ret rm Q h k n sf pc' L (v :: S)) : Seg l Z a0 EL y bytes maxL ret rm Q h k n sf pc L (.int j :: .ref a :: S) := by
  subst hp
  intro p e s m args below meth c T C' w'
  obtain ⟨vm0, locs, k0, X, r1, r2, r3, r4, r⟩ := w'
  obtain ⟨cl, A, q, Sz, N, H, G⟩ := F
  exact Gl.st (X.baloadBytes C'.1 (by rw [r1]; exact A.1) (State.isArrayOf_alike r4.alike A.2.1) A.2.2 (inb_of Sz hj) (H.at (inb_of Sz hj) hv) (g := mkF m pc L (.int j :: .ref a :: S)) rfl rfl (hb C'.2.1 hd)) (g p e s m args below meth c T C' ⟨vm0, locs, k0, X, r1, r2, r3, r4, r⟩)
theorem Seg.iaload {a : Addr} {kc : ClassId} {z j : Int32} {vs : List Value} {dv v : Value} (F : Arv Z h a kc .int z vs dv) (hj : ¬ j < 0 ∧ j < z) (hv : vs.getD j.toNatClampNeg dv = v) (hd : decode bytes pc = .ok (.iaload, 1)) (hp : pc + 1 = pc')
    (g : Seg l Z a0 EL y bytes maxL ret rm Q h k n sf pc' L (v :: S)) : Seg l Z a0 EL y bytes maxL ret rm Q h k n sf pc L (.int j :: .ref a :: S) := by
  subst hp
  intro p e s m args below meth c T C' w'
  obtain ⟨vm0, locs, k0, X, r1, r2, r3, r4, r⟩ := w'
  obtain ⟨cl, A, q, Sz, N, H, G⟩ := F
  exact Gl.st (X.iaload C'.1 (by rw [r1]; exact A.1) (State.isArrayOf_alike r4.alike A.2.1) A.2.2 (inb_of Sz hj) (H.at (inb_of Sz hj) hv) (g := mkF m pc L (.int j :: .ref a :: S)) rfl rfl (hb C'.2.1 hd)) (g p e s m args below meth c T C' ⟨vm0, locs, k0, X, r1, r2, r3, r4, r⟩)
theorem Seg.aaload {a : Addr} {kc : ClassId} {z j : Int32} {ty : FieldType} {vs : List Value} {dv v : Value} (hty : ty.isReference = true) (F : Arv Z h a kc ty z vs dv) (hj : ¬ j < 0 ∧ j < z) (hv : vs.getD j.toNatClampNeg dv = v) (hd : decode bytes pc = .ok (.aaload, 1)) (hp : pc + 1 = pc')
    (g : Seg l Z a0 EL y bytes maxL ret rm Q h k n sf pc' L (v :: S)) : Seg l Z a0 EL y bytes maxL ret rm Q h k n sf pc L (.int j :: .ref a :: S) := by
  subst hp
  intro p e s m args below meth c T C' w'
  obtain ⟨vm0, locs, k0, X, r1, r2, r3, r4, r⟩ := w'
  obtain ⟨cl, A, q, Sz, N, H, G⟩ := F
  exact Gl.st (X.aaload C'.1 (by rw [r1]; exact A.1) (State.isArrayOf_alike r4.alike A.2.1) hty A.2.2 (inb_of Sz hj) (H.at (inb_of Sz hj) hv) (g := mkF m pc L (.int j :: .ref a :: S)) rfl rfl (hb C'.2.1 hd)) (g p e s m args below meth c T C' ⟨vm0, locs, k0, X, r1, r2, r3, r4, r⟩)
theorem Seg.alen {a : Addr} {kc : ClassId} {z : Int32} {ty : FieldType} {vs : List Value} {dv : Value} (F : Arv Z h a kc ty z vs dv) (hd : decode bytes pc = .ok (.arraylength, 1)) (hp : pc + 1 = pc')
    (g : Seg l Z a0 EL y bytes maxL ret rm Q h k n sf pc' L (.int z :: S)) : Seg l Z a0 EL y bytes maxL ret rm Q h k n sf pc L (.ref a :: S) := by
  subst hp
  intro p e s m args below meth c T C' w'
  obtain ⟨vm0, locs, k0, X, r1, r2, r3, r4, r⟩ := w'
  obtain ⟨cl, A, q, Sz, N, H, G⟩ := F
  refine Gl.st (fun t hr => X.arraylength C'.1 (by rw [r1]; exact A.1) (State.isArrayOf_alike r4.alike A.2.1) (g := mkF m pc L (.ref a :: S)) rfl rfl (hb C'.2.1 hd) t ?_) (g p e s m args below meth c T C' ⟨vm0, locs, k0, X, r1, r2, r3, r4, r⟩)
  rw [len_of Sz N]; exact hr
theorem Seg.ldcI {idx : Nat} {v : Int32} (w : (Cond.constant y.cls idx v).before a0 Z = true) (hd : decode bytes pc = .ok (.ldc idx, 2)) (hp : pc + 2 = pc')
    (g : Seg l Z a0 EL y bytes maxL ret rm Q h k n sf pc' L (.int v :: S)) : Seg l Z a0 EL y bytes maxL ret rm Q h k n sf pc L S := by
  subst hp
  intro p e s m args below meth c T C' w'
  obtain ⟨vm0, locs, k0, X, r1, r2, r3, r4, r5, r⟩ := w'
  exact Gl.st (fun t hr => X.ldcI C'.1 r5 (mv r4 w) (g := mkF m pc L S) rfl (hb C'.2.1 hd) hr) (g p e s m args below meth c T C' ⟨vm0, locs, k0, X, r1, r2, r3, r4, r5, r⟩)
theorem Seg.ldcWI {idx : Nat} {v : Int32} (w : (Cond.constant y.cls idx v).before a0 Z = true) (hd : decode bytes pc = .ok (.ldc_w idx, 3)) (hp : pc + 3 = pc')
    (g : Seg l Z a0 EL y bytes maxL ret rm Q h k n sf pc' L (.int v :: S)) : Seg l Z a0 EL y bytes maxL ret rm Q h k n sf pc L S := by
  subst hp
  intro p e s m args below meth c T C' w'
  obtain ⟨vm0, locs, k0, X, r1, r2, r3, r4, r5, r⟩ := w'
  exact Gl.st (fun t hr => X.ldcWI C'.1 r5 (mv r4 w) (g := mkF m pc L S) rfl (hb C'.2.1 hd) hr) (g p e s m args below meth c T C' ⟨vm0, locs, k0, X, r1, r2, r3, r4, r5, r⟩)
theorem Seg.ldc2J {idx : Nat} {v : Int64} (w : (Cond.constantLong y.cls idx v).before a0 Z = true) (hd : decode bytes pc = .ok (.ldc2_w idx, 3)) (hp : pc + 3 = pc')
    (g : Seg l Z a0 EL y bytes maxL ret rm Q h k n sf pc' L (.long v :: S)) : Seg l Z a0 EL y bytes maxL ret rm Q h k n sf pc L S := by
  subst hp
  intro p e s m args below meth c T C' w'
  obtain ⟨vm0, locs, k0, X, r1, r2, r3, r4, r5, r⟩ := w'
  exact Gl.st (fun t hr => X.ldc2J C'.1 r5 (mv r4 w) (g := mkF m pc L S) rfl (hb C'.2.1 hd) hr) (g p e s m args below meth c T C' ⟨vm0, locs, k0, X, r1, r2, r3, r4, r5, r⟩)
/-- ldc of a String constant whose text the sheet assumes held -/
theorem Seg.ldcS {idx nn : Nat} {text : String} {vs : List Value} {z : Int32} (w : (Cond.stringLink y.cls idx text).before a0 Z = true) (wS : ∀ a ∈ Bundle.stringAtoms, a.before a0 Z = true) (hmem : (y.cls, idx) ∈ EL)
    (ht : (∀ c ∈ text.toList, c.toNat < 256) ∧ text.toList.map (fun c => Value.int (Jvm.Lit.byteI c.toNat.toUInt16)) = vs) (hz : ¬ z < 0) (hl : z.toNatClampNeg = vs.length)
    (hd : decode bytes pc = .ok (.ldc idx, 2)) (hp : pc + 2 = pc') (hnn : 4 * text.toList.length ≤ nn) (hbig : nn ≤ 536870912) {k' n' : Nat} (hk : k + 2 = k') (hn : n + (nn + 4) = n') (hk2 : k' ≤ rm.cells) (hn2 : n' ≤ rm.slots)
    (g : ∀ (a : Addr) (h' : Heap) (b : Addr) (kb : ClassId), Ext h h' → Exa Z h' a "java/lang/String" → Fld Z h' a "java/lang/String" "coder" "B" (.int 0) → Fld Z h' a "java/lang/String" "value" "[B" (.ref b) → Arv Z h' b kb .byte z vs (.int 0) → (∀ x ∈ sf, x ≠ a ∧ x ≠ b) → Seg l Z a0 EL y bytes maxL ret rm Q h' k' n' sf pc' L (.ref a :: S)) :
    Seg l Z a0 EL y bytes maxL ret rm Q h k n sf pc L S := by
  subst hp hk hn
  intro p e s m args below meth c T C' w'
  obtain ⟨vm0, locs, k0, X, r1, r2, r3, r4, r5, r6, r7, r8, r9, r10⟩ := w'
  obtain ⟨a, T', h', k1, b, kb, X', e', E, q1, q2, q3, q4, f1, f2, f3, f4, -, -, f5, -, f6, st⟩ := RoadKit.ldcCH X C'.1 r4 r5 w wS r1 r2 r3 r9 hmem r6.1 ht hz hl (g := mkF m pc L S) rfl (hb C'.2.1 hd) hnn hbig hk2 hn2
  have r10' := r10.chr f5
  exact Gl.st st (g a h' b kb E f1 f2 f3 f4 (fun x hx => f6 x (r10' x hx).2.2) p e s m args below meth c T' C' ⟨T'.vm, locs, k1, X', e', q1, q2, q3, q4, r6.trans f5, r7, ext_tr r8 E, r9, r10'⟩)
/-- ldc of a String constant, its text unread -/
theorem Seg.ldcO {idx nn : Nat} {text : String} (w : (Cond.stringLink y.cls idx text).before a0 Z = true) (wS : ∀ a ∈ Bundle.stringAtoms, a.before a0 Z = true)
    (hd : decode bytes pc = .ok (.ldc idx, 2)) (hp : pc + 2 = pc') (hnn : 4 * text.toList.length ≤ nn) (hbig : nn ≤ 536870912) {k' n' : Nat} (hk : k + 2 = k') (hn : n + (nn + 4) = n') (hk2 : k' ≤ rm.cells) (hn2 : n' ≤ rm.slots)
    (g : ∀ (a : Addr) (h' : Heap), Ext h h' → Seg l Z a0 EL y bytes maxL ret rm Q h' k' n' sf pc' L (.ref a :: S)) :
    Seg l Z a0 EL y bytes maxL ret rm Q h k n sf pc L S := by
  subst hp hk hn
  intro p e s m args below meth c T C' w'
  obtain ⟨vm0, locs, k0, X, r1, r2, r3, r4, r5, r6, r7, r8, r9, r10⟩ := w'
  obtain ⟨a, T', h', k1, X', e', E, q1, q2, q3, q4, f5, -, st⟩ := RoadKit.ldcOH X C'.1 r4 r5 w wS r1 r2 r3 r9 r6.1 (g := mkF m pc L S) rfl (hb C'.2.1 hd) hnn hbig hk2 hn2
  exact Gl.st st (g a h' E p e s m args below meth c T' C' ⟨T'.vm, locs, k1, X', e', q1, q2, q3, q4, r6.trans f5, r7, ext_tr r8 E, r9, r10.chr f5⟩)
end Heap
section Calls
variable {l : Launch} {Z : State} {a0 : Array Value} {EL : List (String × Nat)} {y : MethodName} {bytes : ByteArray} {maxL : Nat} {ret : Option FieldType} {rm : Room} {Q : Option Value → Heap → Prop} {h : Heap} {k n : Nat} {sf : List Addr} {pc pc' : Nat} {L : Array Slot} {S : List Value}
/-- WHO PAYS a call of y with the arguments as' at the heap h -/
def Pays (l : Launch) (R : Room) (Z : State) (a0 : Array Value) (EL : List (String × Nat)) (sf : List Addr) (y : MethodName) (len W : Nat) (as' : Array Value) (h : Heap) (rc rs : Nat) (Q : Option Value → Heap → Prop) : Prop :=
  ∀ (p : Program) (e : Env) (below : List Frame) (s : State) (args : Array Value) (vm0 : Vm), Z.Warmed39 vm0 → CHv Z EL vm0 h → SfOk Z EL vm0 h sf → Ext Z.heap h → EW Z a0 EL →
    BackS l R p e below (s.setVm vm0) args y len W (fun A a => a = as' ∧ A.U.heap = h ∧ A.cells + rc ≤ R.cells ∧ A.slots + rs ≤ R.slots)
      (fun A _ v B => ∃ L, (Fr Z.heap.size L ∧ Ext Z.heap B.U.heap ∧ Q v B.U.heap) ∧ B.locs = A.locs ++ L ∧ B.cells = A.cells + rc ∧ B.slots = A.slots + rs ∧ CHr Z EL vm0 h B.U.vm B.U.heap)
theorem Pays.of_ct {R : Room} {as' : Array Value} {rc rs len W : Nat} {sf' : List Addr} (hM : Ct l Z EL sf' [] y bytes maxL ret rm as' h Q) (hsf : ∀ x ∈ sf', x ∈ sf) (wc : (Jvm.Cond.code y bytes maxL ret).before a0 Z = true) (wz : (Jvm.Cond.initialized y.cls).before a0 Z = true) (hf : rm.frames + 1 ≤ R.frames) (hl : W + (maxL + 11) + rm.locals ≤ R.locals) (hrc : rm.cells = rc) (hrs : rm.slots = rs) :
    Pays l R Z a0 EL sf y len W as' h rc rs Q := by
  subst hrc hrs
  intro p e below s args vm0 hZ H hS hE hEL
  refine BackS.of_freeW (bytes := bytes) (maxL := maxL) (ret := ret) (E := fun _ first o t L k n => k = rm.cells ∧ n = rm.slots ∧ (∃ v, o = .returned v ∧ (Fr Z.heap.size L ∧ Ext Z.heap t.heap ∧ Q v t.heap)) ∧ CHr Z EL first.vm first.heap t.vm t.heap) hM hf hl
    (fun m meth c A a Y hp => have hU : Z.Warmed39 A.U.vm := wtrans (s := s.setVm vm0) hZ Y.warmed
      ⟨by show (Cond.and _ .tt).before a A.U = true; rw [Cond.before_and, mv hU wc]; rfl, mv hU wc, mv hU wz, hp.2.2.1, hp.2.2.2⟩)
    (fun m meth c A a g mk Y hp => have q := CHv.at Y hZ hEL H; ⟨hp.1, wtrans (s := s.setVm vm0) hZ Y.warmed, hp.2.1, q.1, (hS.sub hsf).chr q, hE⟩) (fun _ _ _ _ _ _ _ _ _ => trivial)
    (fun _ _ _ _ ⟨v, L, h1, h2, h3, h4⟩ => ⟨L, _, _, h4, rfl, rfl, ⟨v, h1, h2⟩, h3⟩)
    (fun m meth c A a g mk v t L k n Y hp _ _ ⟨e1, e2, ⟨v', e3, e4⟩, e5⟩ => ?_)
  cases e3; subst e1 e2
  refine ⟨L, e4, rfl, rfl, rfl, (CHv.at Y hZ hEL H).trans ?_⟩
  rw [← hp.2.1]; exact e5
theorem Pays.of_back {R : Room} {as' : Array Value} {rc rs len W : Nat} {ws : List Addr} {QL : Option Value → Heap → List Loc → Prop}
    (hK : ∀ (p : Program) (e : Env) (below : List Frame) (s : State) (args : Array Value), Z.Warmed39 s.vm → Ext Z.heap h → (∀ x ∈ sf, Z.heap.size ≤ x) → Back l R p e below s args y len W (fun A a => a = as' ∧ A.U.heap = h ∧ A.cells + rc ≤ R.cells ∧ A.slots + rs ≤ R.slots) (fun A _ v B => ∃ L, QL v B.U.heap L ∧ B.locs = A.locs ++ L ∧ B.cells = A.cells + rc ∧ B.slots = A.slots + rs))
    (hws : ∀ x ∈ ws, x ∈ sf) (hQ : ∀ v h' L, Ext Z.heap h → QL v h' L → Fr Z.heap.size L ∧ Keep h h' ws ∧ Q v h') :
    Pays l R Z a0 EL sf y len W as' h rc rs Q := by
  intro p e below s args vm0 hZ H hS hE hEL m meth c A g ig mk a X hg hsize hdg hW hn hp
  obtain ⟨v, B, X', ⟨L, q, hl, hc, hs⟩, hsteps⟩ := hK p e below (s.setVm vm0) args hZ hE (fun x hx => (hS x hx).1) m meth c A g ig mk a X hg hsize hdg hW hn hp
  obtain ⟨q1, q2, q3⟩ := hQ _ _ _ hE q
  have A1 := CHr.keep q2 (hS.safes hws) H
  have A2 := CHv.at X' hZ hEL A1.1
  refine ⟨v, B, X'.retabled X'.warmed.wide, X'.warmed.since _, by rw [hp.2.1]; exact q2.1, ⟨L, ⟨q1, ext_kp hE q2 (fun x hx => (hS x (hws x hx)).1), q3⟩, hl, hc, hs, A1.trans A2⟩, hsteps⟩
theorem Pays.post {R : Room} {as' : Array Value} {rc rs len W : Nat} {Q' : Option Value → Heap → Prop} (hP : Pays l R Z a0 EL sf y len W as' h rc rs Q) (q : ∀ v h', Q v h' → Q' v h') : Pays l R Z a0 EL sf y len W as' h rc rs Q' := by
  intro p e below s args vm0 hZ H hS hE hEL m meth c A g ig mk a X hg hsize hdg hW hn hp
  obtain ⟨v, B, X', hS', hgr, ⟨L, ⟨q1, q2, q3⟩, hl, hc, hs, hr⟩, hsteps⟩ := hP p e below s args vm0 hZ H hS hE hEL m meth c A g ig mk a X hg hsize hdg hW hn hp
  exact ⟨v, B, X', hS', hgr, ⟨L, ⟨q1, q2, q _ _ q3⟩, hl, hc, hs, hr⟩, hsteps⟩
section Use
variable {y' : MethodName} {as' : Array Value} {rc rs W : Nat} {Q' : Option Value → Heap → Prop} {idx : Nat} {argsL rest : List Value} {k' n' : Nat}
theorem wkBack {p : Program} {e : Env} {R : Room} {s : State} {m : MethodId} {args : Array Value} {below : List Frame} {meth : Method} {c : Code} {own : String} {vm0 : Vm} {locs L0 : List Loc} {k0 : Nat} {B : Pt}
    (r : s.Since vm0 k0 ∧ k0 ≤ h.size ∧ Z.Warmed39 vm0 ∧ vm0.findClass own = some m.cls ∧ CHr Z EL s.vm s.heap vm0 h ∧ Fr Z.heap.size locs ∧ Ext Z.heap h ∧ EW Z a0 EL ∧ SfOk Z EL vm0 h sf)
    (X' : Stand p l e R ((s.setVm vm0).setVm B.U.vm) m args below meth c B.U B.locs B.cells B.slots) (hS : (s.setVm vm0).Since B.U.vm B.U.heap.size) (hg : h.size ≤ B.U.heap.size) (q1 : Fr Z.heap.size L0 ∧ Ext Z.heap B.U.heap) (hl : B.locs = locs ++ L0) (hc : B.cells = k') (hs : B.slots = n') (q : CHr Z EL vm0 h B.U.vm B.U.heap) :
    Wk p l e R s m args below meth c Z a0 EL own sf k' n' B.U B.U.heap := by
  obtain ⟨r2, r3, r4, r5, r6, r7, r8, r9, r10⟩ := r
  obtain ⟨X1, S1, Z1, o1⟩ := rebS r2 r3 X' hS hg r4 r5
  rw [hl, hc, hs] at X1
  exact ⟨B.U.vm, _, _, X1, rfl, S1, Nat.le_refl _, Z1, o1, r6.trans q, r7.app q1.1, q1.2, r9, r10.chr q⟩
theorem Seg.callS {bytes' : ByteArray} {maxL' : Nat} {ret' : Option FieldType} (w1 : (Cond.methodLink y.cls idx y').before a0 Z = true) (w2 : (Cond.static y').before a0 Z = true) (w3 : (Cond.initialized y'.cls).before a0 Z = true) (w4 : (Cond.code y' bytes' maxL' ret').before a0 Z = true) (hy : y'.cls ≠ "java/lang/invoke/MethodHandle" ∧ y'.cls ≠ "java/lang/invoke/VarHandle")
    (hP : Pays l rm Z a0 EL sf y' 3 W as' h rc rs Q') (has : argsL.toArray = as') (hlen : ∀ sig, parseMethodDescriptor y'.desc = some sig → argsL.length = sig.parameters.length) (hst : S = argsL.reverse ++ rest) (hW : (rest.map fun v => v.category).sum ≤ W) (hsz : L.size = maxL) (hd : decode bytes pc = .ok (.invokestatic idx, 3)) (hp : pc + 3 = pc')
    (hk : k + rc = k') (hn : n + rs = n') (hk2 : k' ≤ rm.cells) (hn2 : n' ≤ rm.slots)
    (g : ∀ (v : Option Value) (h' : Heap), h.size ≤ h'.size → Q' v h' → Seg l Z a0 EL y bytes maxL ret rm Q h' k' n' sf pc' L (v.toList ++ rest)) : Seg l Z a0 EL y bytes maxL ret rm Q h k n sf pc L S := by
  subst hp hk hn hst has
  intro p e s m args below meth c T C' w'
  obtain ⟨vm0, locs, k0, X, r1, r2, r3, r4, r5, r6, r7, r8, r9, r10⟩ := w'
  obtain ⟨v, vm1, B, -, X', hS, hg, ⟨L0, ⟨q1, q2, q3⟩, hl, hc, hs, q4⟩, st⟩ := callSS X C'.1 r5 (mvT r4 w1) (mvT r4 w2) (mvT r4 w3) (mvT r4 w4) hy (hP p e below s args vm0 r4 r6.1 r10 r8 r9) (g := mkF m pc L (argsL.reverse ++ rest)) rfl (hsz.trans C'.2.2.1.symm) (argsL := argsL) (rest := rest) hlen rfl (by show 2 * 0 + _ ≤ _; omega) (hb C'.2.1 hd) (fun _ _ => ⟨rfl, r1, hk2, hn2⟩)
  rw [r1] at hg
  exact Gl.st (fun t hr => st.trans hr) (g v B.U.heap hg q3 p e s m args below meth c B.U C' (wkBack ⟨r2, r3, r4, r5, r6, r7, r8, r9, r10⟩ X' hS hg ⟨q1, q2⟩ hl hc hs q4))
theorem Seg.callN {bytes' : ByteArray} {maxL' : Nat} {a : Addr} (hy1 : y'.name = "<init>") (w1 : (Cond.methodLink y.cls idx y').before a0 Z = true) (w2 : (Cond.instanceMethod y').before a0 Z = true) (w4 : (Cond.code y' bytes' maxL' none).before a0 Z = true) (hy : y'.cls ≠ "java/lang/invoke/MethodHandle" ∧ y'.cls ≠ "java/lang/invoke/VarHandle")
    (hP : Pays l rm Z a0 EL sf y' 3 W as' h rc rs Q') (has : (.ref a :: argsL).toArray = as') (hlen : ∀ sig, parseMethodDescriptor y'.desc = some sig → argsL.length = sig.parameters.length) (hst : S = argsL.reverse ++ .ref a :: rest) (hW : (rest.map fun v => v.category).sum ≤ W) (hsz : L.size = maxL) (hd : decode bytes pc = .ok (.invokespecial idx, 3)) (hp : pc + 3 = pc')
    (hk : k + rc = k') (hn : n + rs = n') (hk2 : k' ≤ rm.cells) (hn2 : n' ≤ rm.slots)
    (g : ∀ (v : Option Value) (h' : Heap), h.size ≤ h'.size → Q' v h' → Seg l Z a0 EL y bytes maxL ret rm Q h' k' n' sf pc' L (v.toList ++ rest)) : Seg l Z a0 EL y bytes maxL ret rm Q h k n sf pc L S := by
  subst hp hk hn hst has
  intro p e s m args below meth c T C' w'
  obtain ⟨vm0, locs, k0, X, r1, r2, r3, r4, r5, r6, r7, r8, r9, r10⟩ := w'
  obtain ⟨v, vm1, B, -, X', hS, hg, ⟨L0, ⟨q1, q2, q3⟩, hl, hc, hs, q4⟩, st⟩ := X.specialBackS C'.1 hy1 r5 (mvT r4 w1) (mvT r4 w2) (mvT r4 w4) hy (hP p e below s args vm0 r4 r6.1 r10 r8 r9) (g := mkF m pc L (argsL.reverse ++ .ref a :: rest)) rfl (hsz.trans C'.2.2.1.symm) (Steps.refl _) (a := a) (argsL := argsL) (rest := rest) hlen rfl (by show 2 * 0 + _ ≤ _; omega) (hb C'.2.1 hd) (fun _ _ => ⟨rfl, r1, hk2, hn2⟩)
  rw [r1] at hg
  exact Gl.st (fun t hr => st.trans hr) (g v B.U.heap hg q3 p e s m args below meth c B.U C' (wkBack ⟨r2, r3, r4, r5, r6, r7, r8, r9, r10⟩ X' hS hg ⟨q1, q2⟩ hl hc hs q4))
theorem Seg.callV {z : MethodName} {C : String} {a : Addr} (w1 : (Cond.methodLink y.cls idx y').before a0 Z = true) (w2 : (Cond.declares y').before a0 Z = true) (hnf : ∀ (s : State) (vm0 : Vm), Z.Warmed39 vm0 → Free.NotFace (s.setVm vm0) y') (w3 : (Cond.selects C y' z).before a0 Z = true) (w4 : (Cond.instanceMethod z).before a0 Z = true) (hy : y'.cls ≠ "java/lang/invoke/MethodHandle" ∧ y'.cls ≠ "java/lang/invoke/VarHandle") (E : Exa Z h a C)
    (hP : Pays l rm Z a0 EL sf z 3 W as' h rc rs Q') (has : (.ref a :: argsL).toArray = as') (hlen : ∀ sig, parseMethodDescriptor y'.desc = some sig → argsL.length = sig.parameters.length) (hst : S = argsL.reverse ++ .ref a :: rest) (hW : (rest.map fun v => v.category).sum ≤ W) (hsz : L.size = maxL) (hd : decode bytes pc = .ok (.invokevirtual idx, 3)) (hp : pc + 3 = pc')
    (hk : k + rc = k') (hn : n + rs = n') (hk2 : k' ≤ rm.cells) (hn2 : n' ≤ rm.slots)
    (g : ∀ (v : Option Value) (h' : Heap), h.size ≤ h'.size → Q' v h' → Seg l Z a0 EL y bytes maxL ret rm Q h' k' n' sf pc' L (v.toList ++ rest)) : Seg l Z a0 EL y bytes maxL ret rm Q h k n sf pc L S := by
  subst hp hk hn hst has
  intro p e s m args below meth c T C' w'
  obtain ⟨vm0, locs, k0, X, r1, r2, r3, r4, r5, r6, r7, r8, r9, r10⟩ := w'
  obtain ⟨cq, kq, qa, qb, qc⟩ := isOf (s := s.setVm vm0) r4 r1 E
  obtain ⟨v, vm1, B, -, X', hS, hg, ⟨L0, ⟨q1, q2, q3⟩, hl, hc, hs, q4⟩, st⟩ := X.virtualBackS C'.1 r5 (mvT r4 w1) (mvT r4 w2) (hnf s vm0 r4) (mvT r4 w3) (mvT r4 w4) hy (hP p e below s args vm0 r4 r6.1 r10 r8 r9) qa qc (g := mkF m pc L (argsL.reverse ++ .ref a :: rest)) rfl (hsz.trans C'.2.2.1.symm) (Steps.refl _) (argsL := argsL) (rest := rest) hlen rfl (by show 2 * 0 + _ ≤ _; omega) (hb C'.2.1 hd) (fun _ _ => ⟨rfl, r1, hk2, hn2⟩)
  rw [r1] at hg
  exact Gl.st (fun t hr => st.trans hr) (g v B.U.heap hg q3 p e s m args below meth c B.U C' (wkBack ⟨r2, r3, r4, r5, r6, r7, r8, r9, r10⟩ X' hS hg ⟨q1, q2⟩ hl hc hs q4))
theorem Seg.callI {z : MethodName} {C : String} {a : Addr} {count : Nat} (w1 : (Cond.methodLink y.cls idx y').before a0 Z = true) (w2 : (Cond.declares y').before a0 Z = true) (w5 : (Cond.interfaceMethod y'.cls y'.cls y'.name y'.desc).before a0 Z = true) (hw5 : ((Cond.interfaceMethod y'.cls y'.cls y'.name y'.desc).onTables && (Cond.interfaceMethod y'.cls y'.cls y'.name y'.desc).keepsFace) = true) (w3 : (Cond.selects C y' z).before a0 Z = true) (w4 : (Cond.instanceMethod z).before a0 Z = true) (w6 : (Cond.publicMethod z).before a0 Z = true) (w7 : (Cond.unhidden C y'.name y'.desc).before a0 Z = true) (w8 : (Cond.castable C y'.cls).before a0 Z = true) (hy : y'.cls ≠ "java/lang/invoke/MethodHandle" ∧ y'.cls ≠ "java/lang/invoke/VarHandle") (E : Exa Z h a C)
    (hP : Pays l rm Z a0 EL sf z 5 W as' h rc rs Q') (has : (.ref a :: argsL).toArray = as') (hlen : ∀ sig, parseMethodDescriptor y'.desc = some sig → argsL.length = sig.parameters.length) (hst : S = argsL.reverse ++ .ref a :: rest) (hW : (rest.map fun v => v.category).sum ≤ W) (hsz : L.size = maxL) (hd : decode bytes pc = .ok (.invokeinterface idx count, 5)) (hp : pc + 5 = pc')
    (hk : k + rc = k') (hn : n + rs = n') (hk2 : k' ≤ rm.cells) (hn2 : n' ≤ rm.slots)
    (g : ∀ (v : Option Value) (h' : Heap), h.size ≤ h'.size → Q' v h' → Seg l Z a0 EL y bytes maxL ret rm Q h' k' n' sf pc' L (v.toList ++ rest)) : Seg l Z a0 EL y bytes maxL ret rm Q h k n sf pc L S := by
  subst hp hk hn hst has
  intro p e s m args below meth c T C' w'
  obtain ⟨vm0, locs, k0, X, r1, r2, r3, r4, r5, r6, r7, r8, r9, r10⟩ := w'
  obtain ⟨cq, kq, qa, qb, qc⟩ := isOf (s := s.setVm vm0) r4 r1 E
  obtain ⟨v, vm1, B, -, X', hS, hg, ⟨L0, ⟨q1, q2, q3⟩, hl, hc, hs, q4⟩, st⟩ := X.interfaceBackS C'.1 r5 (mvT r4 w1) (mvT r4 w2) (mvT r4 w5 hw5) (mvT r4 w3) (mvT r4 w4) (mvT r4 w6) (mvT r4 w7) (mvT r4 w8) hy (hP p e below s args vm0 r4 r6.1 r10 r8 r9) qa qb qc (g := mkF m pc L (argsL.reverse ++ .ref a :: rest)) rfl (hsz.trans C'.2.2.1.symm) (Steps.refl _) (argsL := argsL) (rest := rest) hlen rfl (by show 2 * 0 + _ ≤ _; omega) (hb C'.2.1 hd) (fun _ _ => ⟨rfl, r1, hk2, hn2⟩)
  rw [r1] at hg
  exact Gl.st (fun t hr => st.trans hr) (g v B.U.heap hg q3 p e s m args below meth c B.U C' (wkBack ⟨r2, r3, r4, r5, r6, r7, r8, r9, r10⟩ X' hS hg ⟨q1, q2⟩ hl hc hs q4))
theorem nf_sel {C : String} (w3 : (Cond.selects C y' y').before a0 Z = true) (s : State) (vm0 : Vm) (hZ : Z.Warmed39 vm0) : Free.NotFace (s.setVm vm0) y' :=
  notFace_of_selects (args := #[]) (mvT (s := s.setVm vm0) hZ w3)
theorem nf_topS (w : (Cond.noSuperclass y'.cls).before a0 Z = true) (s : State) (vm0 : Vm) (hZ : Z.Warmed39 vm0) : Free.NotFace (s.setVm vm0) y' := nf_top (args := #[]) (mvT (s := s.setVm vm0) hZ w)
theorem nf_supS {C : String} (w : (Cond.superclass y'.cls C).before a0 Z = true) (s : State) (vm0 : Vm) (hZ : Z.Warmed39 vm0) : Free.NotFace (s.setVm vm0) y' := nf_super (args := #[]) (mvT (s := s.setVm vm0) hZ w)
end Use
end Calls
end Jvm.OwnK
namespace Jvm.OwnK
open Jvm Jvm.ClassFile Sem Op Lib Jvm.Free Jvm.Stand Jvm.LawKit Jvm.RoadKit Bundle
/-! own kit, part 4: small numbers as Int32 -/
theorem n32i {i : Nat} (h : i ≤ 100000) : (Int32.ofNat i).toInt = i := Int32.toInt_ofNat_of_lt (by omega)
theorem n32c {i : Nat} (h : i ≤ 100000) : (Int32.ofNat i).toNatClampNeg = i := by
  show (Int32.ofNat i).toInt.toNat = i
  rw [n32i h]; rfl
theorem n32lt {i n : Nat} (h : i < n) (hn : n ≤ 100000) : Int32.ofNat i < Int32.ofNat n := by
  rw [Int32.lt_iff_toInt_lt, n32i (by omega), n32i hn]; omega
theorem n32nlt {i n : Nat} (h : n ≤ i) (hn : i ≤ 100000) : ¬ Int32.ofNat i < Int32.ofNat n := by
  rw [Int32.lt_iff_toInt_lt, n32i (by omega), n32i (by omega)]; omega
theorem n32nn {i : Nat} (h : i ≤ 100000) : ¬ Int32.ofNat i < 0 := by
  rw [Int32.lt_iff_toInt_lt, n32i h]; show ¬ (i : Int) < 0; omega
theorem n32in {i n : Nat} (h : i < n) (hn : n ≤ 100000) : ¬ Int32.ofNat i < 0 ∧ Int32.ofNat i < Int32.ofNat n := ⟨n32nn (by omega), n32lt h hn⟩
theorem n32add (i j : Nat) : Int32.ofNat i + Int32.ofNat j = Int32.ofNat (i + j) := (Int32.ofNat_add i j).symm
theorem n32s (i : Nat) : Int32.ofNat i + 1 = Int32.ofNat (i + 1) := n32add i 1
theorem n32eq {i j : Nat} (hi : i ≤ 100000) (hj : j ≤ 100000) (h : Int32.ofNat i = Int32.ofNat j) : i = j := by
  have := congrArg Int32.toInt h
  rw [n32i hi, n32i hj] at this; omega
theorem getDmap {α : Type} (f : α → Value) (cs : List α) (i : Nat) (d : α) (dv : Value) (h : i < cs.length) : (cs.map f).getD i dv = f (cs.getD i d) := by
  simp [List.getD_eq_getElem?_getD, h]
theorem toInt_cases {x : Int32} {n : Nat} (h0 : 0 ≤ x.toInt) (h1 : x.toInt < n) (hn : n ≤ 1000) : ∃ i : Nat, i < n ∧ x = Int32.ofNat i := by
  refine ⟨x.toInt.toNat, by omega, Int32.toInt_inj.mp ?_⟩
  rw [Int32.toInt_ofNat_of_lt (by omega)]; omega
end Jvm.OwnK
namespace Jvm.OwnK
open Jvm Jvm.ClassFile Sem Op Lib Jvm.Free Jvm.Stand Jvm.LawKit Jvm.RoadKit Bundle
/-! own kit, part 5: arraycopy and clone -/
section Copies
variable {l : Launch} {Z : State} {a0 : Array Value} {EL : List (String × Nat)} {y : MethodName} {bytes : ByteArray} {maxL : Nat} {ret : Option FieldType} {rm : Room} {Q : Option Value → Heap → Prop} {h : Heap} {k n : Nat} {sf : List Addr} {pc pc' : Nat} {L : Array Slot} {S : List Value}
theorem Seg.cpA {idx : Nat} {a b : Addr} {kc kc' : ClassId} {ty ty' : FieldType} {z z' sp dp nn : Int32} {vs vd us vr : List Value} {dv dd : Value} (w1 : (Cond.methodLink y.cls idx Jvm.Stand.acN).before a0 Z = true) (w2 : (Cond.native Jvm.Stand.acN).before a0 Z = true) (w3 : (Cond.static Jvm.Stand.acN).before a0 Z = true) (w4 : (Cond.initialized "java/lang/System").before a0 Z = true)
    (A : Arv Z h a kc ty z vs dv) (B : Arv Z h b kc' ty' z' vd dd) (hty : (ty = ty' ∧ refKind ty = false) ∨ (refKind ty = true ∧ refKind ty' = true ∧ StoL Z h b us))
    (h1 : ¬ sp < 0) (h2 : ¬ dp < 0) (h3 : ¬ nn < 0) (h4 : sp.toNatClampNeg + nn.toNatClampNeg ≤ z.toNatClampNeg) (h5 : dp.toNatClampNeg + nn.toNatClampNeg ≤ z'.toNatClampNeg)
    (hus : us = (List.range nn.toNatClampNeg).map fun i => vs.getD (sp.toNatClampNeg + i) dv) (hl : dp.toNatClampNeg + nn.toNatClampNeg ≤ vd.length) (hvr : vd.take dp.toNatClampNeg ++ us ++ vd.drop (dp.toNatClampNeg + nn.toNatClampNeg) = vr) (hsf : b ∈ sf) (hsz : L.size = maxL) (hd : decode bytes pc = .ok (.invokestatic idx, 3)) (hp : pc + 3 = pc') (hf : 1 ≤ rm.frames) {W : Nat} (hW : (S.map fun v => v.category).sum ≤ W) (hlo : W + (nativeFrameWords "java/lang/System" "arraycopy" 5 + 11) ≤ rm.locals)
    (g : ∀ h', Keep h h' [b] → Arv Z h' b kc' ty' z' vr dd → Seg l Z a0 EL y bytes maxL ret rm Q h' k n sf pc' L S) : Seg l Z a0 EL y bytes maxL ret rm Q h k n sf pc L (.int nn :: .int dp :: .ref b :: .int sp :: .ref a :: S) := by
  subst hp hvr
  intro p e s m args below meth c T C' w'
  obtain ⟨vm0, locs, k0, X, r1, r2, r3, r4, r5, r6, r7, r8, r9, r10⟩ := w'
  obtain ⟨T', h', L', X', e', FL, K, A', st⟩ := RoadKit.cpA X C'.1 r4 r5 w1 w2 w3 w4 r1 A B hty h1 h2 h3 h4 h5 hus hl r7 (r10 b hsf).1 (g := mkF m pc L (.int nn :: .int dp :: .ref b :: .int sp :: .ref a :: S)) rfl (hsz.trans C'.2.2.1.symm) rfl (hb C'.2.1 hd) hf (W := W) (by show 2 * 0 + _ ≤ _; omega) hlo
  have A1 := CHr.keep K (r10.safes (allS hsf all0)) r6.1
  exact Gl.st st (g h' K A' p e s m args below meth c T' C' ⟨vm0, L', k0, X', e', r2, Nat.le_trans r3 K.1, r4, r5, r6.trans A1, FL, ext_kp r8 K (allS (r10 b hsf).1 all0), r9, r10.chr A1⟩)
theorem Seg.cloneH {idx : Nat} {ad : String} {a : Addr} {kc : ClassId} {ty : FieldType} {z : Int32} {vs : List Value} {dv : Value} (w1 : (Cond.methodLink y.cls idx ⟨ad, "clone", "()Ljava/lang/Object;"⟩).before a0 Z = true) (w2 : (Cond.sameMethod ad "java/lang/Object" "clone" "()Ljava/lang/Object;").before a0 Z = true) (w3 : (Cond.native ⟨"java/lang/Object", "clone", "()Ljava/lang/Object;"⟩).before a0 Z = true)
    (w4 : (Cond.instanceMethod ⟨"java/lang/Object", "clone", "()Ljava/lang/Object;"⟩).before a0 Z = true) (w5 : (Cond.selects ad ⟨ad, "clone", "()Ljava/lang/Object;"⟩ ⟨"java/lang/Object", "clone", "()Ljava/lang/Object;"⟩).before a0 Z = true) (w6 : (Cond.castable ad "java/lang/Cloneable").before a0 Z = true)
    (F : Arv Z h a kc ty z vs dv) (E : Exa Z h a ad) (hsz : L.size = maxL) (hd : decode bytes pc = .ok (.invokevirtual idx, 3)) (hp : pc + 3 = pc') (hf : 1 ≤ rm.frames) {W cap : Nat} (hW : (S.map fun v => v.category).sum ≤ W) (hlo : W + 14 ≤ rm.locals) (hcap : z.toNatClampNeg ≤ cap) {k' n' : Nat} (hk : k + 1 = k') (hn : n + cap = n') (hk2 : k' ≤ rm.cells) (hn2 : n' ≤ rm.slots)
    (g : ∀ (x : Addr) (h' : Heap), Ext h h' → h.size = x → x < h'.size → Arv Z h' x kc ty z vs dv → Exa Z h' x ad → Seg l Z a0 EL y bytes maxL ret rm Q h' k' n' (x :: sf) pc' L (.ref x :: S)) : Seg l Z a0 EL y bytes maxL ret rm Q h k n sf pc L (.ref a :: S) := by
  subst hp hk hn
  intro p e s m args below meth c T C' w'
  obtain ⟨vm0, locs, k0, X, r1, r2, r3, r4, r5, r6, r7, r8, r9, r10⟩ := w'
  obtain ⟨T', h', X', e', Ex, A, E', st⟩ := RoadKit.cloneH X C'.1 r4 r5 w1 w2 w3 w4 w5 w6 r1 F.arh E (g := mkF m pc L (.ref a :: S)) rfl (hsz.trans C'.2.2.1.symm) rfl (hb C'.2.1 hd) hf (W := W) (by show 2 * 0 + _ ≤ _; omega) hlo hcap hk2 hn2
  refine Gl.st st (g _ h' Ex rfl E'.lt A E' p e s m args below meth c T' C' ⟨vm0, locs, k0, X', e', r2, Nat.le_trans r3 Ex.1, r4, r5, r6.trans (CHr.ext Ex r6.1), r7, ext_tr r8 Ex, r9, ?_⟩)
  exact (r10.chr (CHr.ext Ex r6.1)).cons r8.1 E'.lt ((Safe.new (Nat.le_refl _)).ext Ex r6.1)
end Copies
theorem n32p (i : Nat) : Int32.ofNat (i + 1) - 1 = Int32.ofNat i := by rw [← n32s, Int32.add_sub_cancel]
theorem n32m (i : Nat) : Int32.ofNat (i + 1) + (-1) = Int32.ofNat i := by rw [← Int32.sub_eq_add_neg, n32p]
theorem n32z (x : Int32) : x - 0 = x := Int32.sub_zero x
theorem n32zp (x : Int32) : 0 + x = x := Int32.zero_add x
theorem range_take (f : Int32 → Value) (cs : List Int32) (e : Nat) (dv : Value) (he : e ≤ cs.length) (h' : e ≤ 100000) : (cs.take e).map f = (List.range (Int32.ofNat e).toNatClampNeg).map fun i => (cs.map f).getD ((0 : Int32).toNatClampNeg + i) dv := by
  rw [n32c h']
  refine List.ext_getElem? fun i => ?_
  by_cases hi : i < e
  · have : i < cs.length := by omega
    simp [hi, this, List.getElem?_take]
  · simp [hi, List.getElem?_take]
theorem take_all (xs : List Value) (vd : List Value) (e : Nat) (h : vd.length = e) (h' : e ≤ 100000) : vd.take (0 : Int32).toNatClampNeg ++ xs ++ vd.drop ((0 : Int32).toNatClampNeg + (Int32.ofNat e).toNatClampNeg) = xs := by
  rw [n32c h']
  have : (0 : Int32).toNatClampNeg = 0 := rfl
  rw [this, Nat.zero_add, ← h]; simp
end Jvm.OwnK
namespace Jvm.OwnK
open Jvm Jvm.ClassFile Sem Op Lib Jvm.Free Jvm.Stand Jvm.LawKit Jvm.RoadKit Bundle
section More
variable {l : Launch} {Z : State} {a0 : Array Value} {EL : List (String × Nat)} {y : MethodName} {Q : Option Value → Heap → Prop} {h : Heap} {sf : List Addr}
theorem Pays.more {R : Room} {as' : Array Value} {rc rs rc' rs' len W : Nat} (hP : Pays l R Z a0 EL sf y len W as' h rc rs Q) (h1 : rc ≤ rc') (h2 : rs ≤ rs') : Pays l R Z a0 EL sf y len W as' h rc' rs' Q := by
  intro p e below s args vm0 hZ H hS hE hEL m meth c A g ig mk a X hg hsize hdg hW hn hp
  obtain ⟨v, B, X', hS', hgr, ⟨L, ⟨q1, q2, q3⟩, hl, hc, hs, hr⟩, hsteps⟩ := hP p e below s args vm0 hZ H hS hE hEL m meth c A g ig mk a X hg hsize hdg hW hn ⟨hp.1, hp.2.1, Nat.le_trans (Nat.add_le_add_left h1 _) hp.2.2.1, Nat.le_trans (Nat.add_le_add_left h2 _) hp.2.2.2⟩
  exact ⟨v, (B.U, B.locs, A.cells + rc', A.slots + rs'), X'.more (by rw [hc]; exact Nat.add_le_add_left h1 _) (by rw [hs]; exact Nat.add_le_add_left h2 _), hS', hgr, ⟨L, ⟨q1, q2, q3⟩, hl, rfl, rfl, hr⟩, hsteps⟩
end More
theorem arv_start {Z : State} {args : Array Value} {t : Term} {ty : FieldType} {n : Int32} {vs : List Value} {a : Addr} (dv : Value) (hf : Fit Z) (ev : t.eval args Z none [] Z = some (.ref a)) (hx : (Cond.arrayOf t ty).value args Z none Z [] = some true) (hlen : (Term.length t).eval args Z none [] Z = some (.int n)) (hz : ¬ n < 0) (hl : n.toNatClampNeg = vs.length)
    (H : ∀ cl, Z.heap[a]? = some cl → HasL cl 0 vs) : ∃ kc, Arv Z Z.heap a kc ty n vs dv := by
  obtain ⟨cl, A⟩ := Arr.start ev hx
  obtain ⟨cl', e1, e2⟩ := length_at hlen ev
  cases A.1.symm.trans e1
  have q : cl.slots.size < 2 ^ 31 := by
    simp only [Term.eval, Option.bind_eq_bind] at hlen
    rw [ev] at hlen
    simp only [Option.bind_some] at hlen
    cases hat : Z.arrayAt? a with
    | none => simp [hat] at hlen
    | some c1 =>
      cases e1.symm.trans (State.arrayAt?_spec hat).1
      simp only [hat, Option.bind_some] at hlen
      by_cases q : cl.slots.size < 2 ^ 31
      · exact q
      · simp [q] at hlen
  exact ⟨_, Arv.start hf A q e2 hz hl (H cl e1)⟩
theorem b255L (x : Int64) : ¬ ((x &&& 255).toInt32).toUInt32.toUInt16.toUInt32.toInt32 < 0 ∧ ¬ (255 : Int32) < ((x &&& 255).toInt32).toUInt32.toUInt16.toUInt32.toInt32 := by
  have h1 := c_maskL x 255 8 (by decide) (by decide)
  have h2 := c_l2i (x &&& 255)
  have h3 := c_i2c ((x &&& 255).toInt32)
  have e : (255 : Int32).toInt = 255 := by decide
  have e0 : (0 : Int32).toInt = 0 := by decide
  have r := Int32.toInt_lt ((x &&& 255).toInt32)
  have r' := Int32.le_toInt ((x &&& 255).toInt32)
  rw [Int32.lt_iff_toInt_lt, Int32.lt_iff_toInt_lt, e, e0]
  omega
theorem rem_ushr (x q : Int32) (k : Nat) (m : Nat) (hk : q.toBitVec.toNat % 32 = k) (h0 : 0 < k) (hm : 0 < m) (hm' : m ≤ 1000) : ∃ i : Nat, i < m ∧ (((x.toUInt32 >>> (q &&& 31).toUInt32).toInt32) % Int32.ofNat m) = Int32.ofNat i := by
  have h1 := c_iushr x q k hk h0
  have h2 := c_iremV ((x.toUInt32 >>> (q &&& 31).toUInt32).toInt32) (Int32.ofNat m)
  have e := n32i (i := m) (by omega)
  have h3 := h2.1 (by rw [h1]; exact Int.ediv_nonneg (by omega) (by exact_mod_cast Nat.zero_le _)) (by rw [e]; omega)
  exact toInt_cases h3.1 (by rw [e] at h3; exact h3.2.1) hm'
end Jvm.OwnK
namespace Jvm.OwnK
open Jvm Jvm.ClassFile Sem Op Lib Jvm.Free Jvm.Stand Jvm.LawKit Jvm.RoadKit Bundle
section Z
variable {l : Launch} {Z : State} {a0 : Array Value} {EL : List (String × Nat)} {y : MethodName} {bytes : ByteArray} {maxL : Nat} {ret : Option FieldType} {rm : Room} {Q : Option Value → Heap → Prop} {h : Heap} {k n : Nat} {sf : List Addr} {pc pc' : Nat} {L : Array Slot} {S : List Value}
theorem Seg.baloadZ {a : Addr} {kc : ClassId} {z j : Int32} {vs : List Value} {dv v : Value} (F : Arv Z h a kc .boolean z vs dv) (hj : ¬ j < 0 ∧ j < z) (hv : vs.getD j.toNatClampNeg dv = v) (hd : decode bytes pc = .ok (.baload, 1)) (hp : pc + 1 = pc')
    (g : Seg l Z a0 EL y bytes maxL ret rm Q h k n sf pc' L (v :: S)) : Seg l Z a0 EL y bytes maxL ret rm Q h k n sf pc L (.int j :: .ref a :: S) := by
  subst hp
  intro p e s m args below meth c T C' w'
  obtain ⟨vm0, locs, k0, X, r1, r2, r3, r4, r⟩ := w'
  obtain ⟨cl, A, q, Sz, N, H, G⟩ := F
  exact Gl.st (X.baloadBooleans C'.1 (by rw [r1]; exact A.1) (State.isArrayOf_alike r4.alike A.2.1) A.2.2 (inb_of Sz hj) (H.at (inb_of Sz hj) hv) (g := mkF m pc L (.int j :: .ref a :: S)) rfl rfl (hb C'.2.1 hd)) (g p e s m args below meth c T C' ⟨vm0, locs, k0, X, r1, r2, r3, r4, r⟩)
theorem no_inst {C K O : String} {nn : Nat} (w : (Cond.superclass C O).before a0 Z = true) (w0 : (Cond.noSuperclass O).before a0 Z = true) (wi : (Cond.instantiable K nn).before a0 Z = true) (h1 : C ≠ K) (h2 : O ≠ K) : ∃ c t, Z.vm.findClass C = some c ∧ Z.vm.findClass K = some t ∧ Z.vm.assignable c t = false := by
  obtain ⟨t, kt, g0, g2, g5, g7, -⟩ := Cond.instantiable_spec (show (Cond.instantiable K nn).holds a0 Z none Z [] = true from wi)
  have g7' : kt.isInterface = false := by cases q : kt.isInterface <;> simp [q] at g7 ⊢
  obtain ⟨co, ko, o1, o2, o3, -, -⟩ := Cond.noSuperclass_spec w0
  have ne0 := ids_ne o1 g0 h2
  have n : NS Z O K := ⟨co, t, o1, g0, fun fuel => by cases fuel with | zero => rfl | succ f => simp [Vm.isSubclassAux, ne0, o2, o3]⟩
  obtain ⟨c, t', h0, g0', n3⟩ := NS.step w n h1
  cases g0.symm.trans g0'
  obtain ⟨p, k, kp, h1', h2', h3, h4, h5, -, h7⟩ := Cond.superclass_spec h0 w
  have ne := ids_ne h0 g0 h1
  refine ⟨c, t, h0, g0, ?_⟩
  show Z.vm.assignableAux (255 + 1) c t = false
  simp [Vm.assignableAux, ne, h2', g2, h5, g5, g7', Vm.isSubclass, n3]
end Z
theorem len_small {Z : State} {args : Array Value} {t : Term} {n : Int32} {a : Addr} (ev : t.eval args Z none [] Z = some (.ref a)) (hlen : (Term.length t).eval args Z none [] Z = some (.int n)) : ∃ cl, Z.arrayAt? a = some cl ∧ Z.heap[a]? = some cl ∧ cl.slots.size < 2 ^ 31 ∧ cl.slots.size.toInt32 = n := by
  obtain ⟨cl, e1, e2⟩ := length_at hlen ev
  simp only [Term.eval, Option.bind_eq_bind] at hlen
  rw [ev] at hlen
  simp only [Option.bind_some] at hlen
  cases hat : Z.arrayAt? a with
  | none => simp [hat] at hlen
  | some c1 =>
    cases e1.symm.trans (State.arrayAt?_spec hat).1
    simp only [hat, Option.bind_some] at hlen
    by_cases q : cl.slots.size < 2 ^ 31
    · exact ⟨cl, rfl, e1, q, e2⟩
    · simp [q] at hlen
theorem hasL_all (c : Cell) : ∀ (i : Nat) (vs : List Value), c.slots.toList.drop i = vs → HasL c i vs
  | _, [], _ => trivial
  | i, v :: r, h => by
    refine ⟨?_, hasL_all c (i + 1) r ?_⟩
    · have := congrArg (·[0]?) h
      simpa using this
    · have := congrArg (List.drop 1) h
      simpa [List.drop_drop, Nat.add_comm] using this
theorem arv_startX {Z : State} {args : Array Value} {t : Term} {ty : FieldType} {n : Int32} {a : Addr} (dv : Value) (hf : Fit Z) (ev : t.eval args Z none [] Z = some (.ref a)) (hx : (Cond.arrayOf t ty).value args Z none Z [] = some true) (hlen : (Term.length t).eval args Z none [] Z = some (.int n)) (hz : ¬ n < 0) :
    ∃ kc cl, Z.arrayAt? a = some cl ∧ Z.heap[a]? = some cl ∧ cl.slots.size = n.toNatClampNeg ∧ Arv Z Z.heap a kc ty n cl.slots.toList dv := by
  obtain ⟨cl, A⟩ := Arr.start ev hx
  obtain ⟨cl', e0, e1, q, e2⟩ := len_small ev hlen
  cases A.1.symm.trans e1
  have S : cl.slots.size = n.toNatClampNeg := by rw [← e2]; simp only [Int32.toNatClampNeg, len_toInt q]; rfl
  exact ⟨_, cl, e0, e1, S, Arv.start hf A q e2 hz (by rw [← S]; simp) (hasL_all cl 0 _ rfl)⟩
theorem all_rng {Z : State} {args : Array Value} {t : Term} {a : Addr} {cl : Cell} {lo hi v : Int32} (ev : ∀ i, t.eval args Z none [i] Z = some (.ref a)) (ev0 : t.eval args Z none [] Z = some (.ref a)) (hat : Z.arrayAt? a = some cl) (hc : Z.heap[a]? = some cl)
    (h : (Cond.all t (.or (.lt (.index 0) (.int lo)) (.or (.le (.int hi) (.index 0)) (.eq (.elem t (.index 0)) (.int v))))).value args Z none Z [] = some true) {i : Nat} (hi' : i < cl.slots.size) (hs : i ≤ 100000) (h1 : ¬ Int32.ofNat i < lo) (h2 : Int32.ofNat i < hi) : cl.slots[i]? = some (.int v) := by
  have q := Cond.all_elim ev0 hat h i hi'
  have ei : (Term.index 0).eval args Z none [i] Z = some (.int (Int32.ofNat i)) := by simp [Term.eval]
  have h2' : ¬ hi ≤ Int32.ofNat i := Int32.not_le.mpr h2
  have e1 : (Cond.lt (.index 0) (.int lo)).value args Z none Z [i] = some false := by rw [Cond.lt_ints ei (Term.int_eval lo)]; simp [h1]
  have e2 : (Cond.le (.int hi) (.index 0)).value args Z none Z [i] = some false := by rw [Cond.le_ints (Term.int_eval hi) ei]; simp [h2]
  rw [Cond.or_of_right e1, Cond.or_of_right e2] at q
  obtain ⟨x, y, g1, g2, g3, -⟩ := cmp_v (Or.inl q)
  have r := (elem_in g1 (ev i) ei hc).2
  rw [n32c hs] at r
  rw [r]
  cases g2
  cases x <;> simp [Cond.value, g1, Term.int_eval] at q ⊢
  exact q
end Jvm.OwnK
namespace Jvm.OwnK
open Jvm Jvm.ClassFile Sem Op Lib Jvm.Free Jvm.Stand Jvm.LawKit Jvm.RoadKit Bundle
section A
variable {l : Launch} {Z : State} {a0 : Array Value} {EL : List (String × Nat)} {y : MethodName} {bytes : ByteArray} {maxL : Nat} {ret : Option FieldType} {rm : Room} {Q : Option Value → Heap → Prop} {h : Heap} {k n : Nat} {sf : List Addr} {pc pc' : Nat} {L : Array Slot} {S : List Value}
theorem safe_arr {vm : Vm} {r : Addr} {kr : ClassId} {ty : FieldType} {z : Int32} {vs : List Value} {d : Value} (hZ : Z.Warmed39 vm) (hw : ∀ p ∈ EL, ∃ text : String, (Cond.stringLink p.1 p.2 text).before a0 Z = true ∧ (∀ c ∈ text.toList, c.toNat < 256) ∧ ¬ text.toList.length = z.toNatClampNeg) (F : Arv Z h r kr ty z vs d) : Safe Z EL vm h r := by
  rintro ⟨p, hp, u, a, ⟨c, k', cf, i, hc', hk', hcf', hpool, hu, hor⟩, q, hqa, B, hy⟩
  obtain ⟨text, wl, ht, hlen⟩ := hw p hp
  obtain ⟨cl, A, q1, Sz, N, H, G⟩ := F
  rcases hy with rfl | rfl
  · have hA : h[q.sa]? = some q.sC := B.ha
    obtain rfl : cl = q.sC := Option.some.inj (A.1.symm.trans hA)
    obtain ⟨cS, S1, ⟨kS, e1, e2, e3⟩, -⟩ := B
    obtain ⟨hs, k, hk, comp, hkind⟩ := A.2.1
    obtain ⟨k2, e4, e5⟩ := hZ.alike.2.2 _ _ hk
    rw [S1.2.2] at e4
    cases e1.symm.trans e4
    rw [e5] at e2
    exact absurd (hkind.symm.trans e2) (fun q => nomatch q)
  · have hD : h[q.sd]? = some q.SA := B.hd
    obtain rfl : cl = q.SA := Option.some.inj (A.1.symm.trans hD)
    obtain ⟨cS, -, -, -, e4⟩ := B
    have wl' : (Cond.stringLink p.1 p.2 text).before a0 (Wst Z vm h) = true := mvS (s := { Z with heap := h }) hZ wl
    obtain ⟨k, cf0, i0, units0, hk, hcf, hp0, hu0, hnm, htext, -⟩ := Cond.stringLink_spec (s := Wst Z vm h) hc' wl'
    cases hk'.symm.trans hk
    cases hcf'.symm.trans hcf
    cases hpool.symm.trans hp0
    cases hu.symm.trans hu0
    have hlat := Jvm.ClassFile.lat_of_text htext ht
    have hun := Jvm.ClassFile.units_of_text htext ht
    refine hlen ?_
    rw [← Sz, e4]
    simp only [stringBytes, hlat, if_true, Array.size_map]
    rw [← Array.length_toList, hun, List.length_map]
theorem Seg.adopt {r : Addr} {kr : ClassId} {ty : FieldType} {z : Int32} {vs : List Value} {d : Value} (F : Arv Z h r kr ty z vs d) (hr : Ext Z.heap h → Z.heap.size ≤ r) (hw : ∀ p ∈ EL, ∃ text : String, (Cond.stringLink p.1 p.2 text).before a0 Z = true ∧ (∀ c ∈ text.toList, c.toNat < 256) ∧ ¬ text.toList.length = z.toNatClampNeg)
    (g : Seg l Z a0 EL y bytes maxL ret rm Q h k n (r :: sf) pc L S) : Seg l Z a0 EL y bytes maxL ret rm Q h k n sf pc L S := by
  intro p e s m args below meth c T C' w'
  obtain ⟨vm0, locs, k0, X, r1, r2, r3, r4, r5, r6, r7, r8, r9, r10⟩ := w'
  exact g p e s m args below meth c T C' ⟨vm0, locs, k0, X, r1, r2, r3, r4, r5, r6, r7, r8, r9, r10.cons (hr r8) F.lt (safe_arr r4 hw F)⟩
end A
end Jvm.OwnK
namespace Jvm.OwnK
open Jvm Jvm.ClassFile Sem Op Lib Jvm.Free Jvm.Stand Jvm.LawKit Jvm.RoadKit Bundle
/-! own kit, part 9: class mirrors, arrays of references, private methods -/
section B
variable {l : Launch} {Z : State} {a0 : Array Value} {EL : List (String × Nat)} {y : MethodName} {bytes : ByteArray} {maxL : Nat} {ret : Option FieldType} {rm : Room} {Q : Option Value → Heap → Prop} {h h' : Heap} {k n : Nat} {sf : List Addr} {pc pc' : Nat} {L : Array Slot} {S : List Value}
def Mirr (Z : State) (C : String) (a : Addr) : Prop := ∃ (c : ClassId) (k : Class), Z.vm.findClass C = some c ∧ Z.vm.classes[c]? = some k ∧ k.mirror = some a
theorem Mirr.at {C : String} {a : Addr} {vm0 : Vm} (hZ : Z.Warmed39 vm0) (M : Mirr Z C a) : ∃ (c : ClassId) (k : Class), vm0.findClass C = some c ∧ vm0.classes[c]? = some k ∧ k.mirror = some a := by
  obtain ⟨c, k, m1, m2, m3⟩ := M
  obtain ⟨k', q1, q2⟩ := hZ.alike.2.2 _ _ m2
  exact ⟨c, k', by rw [hZ.alike.findClass]; exact m1, q1, by rw [q2]; exact m3⟩
theorem Mirr.eval {C : String} {a : Addr} {vm0 : Vm} {s : State} {args : Array Value} (hZ : Z.Warmed39 vm0) (M : Mirr Z C a) : (Term.mirror C).eval args (s.setVm vm0) none [] (s.setVm vm0) = some (.ref a) := by
  obtain ⟨c, k, m1, m2, m3⟩ := M.at hZ
  simp [Term.eval, m1, m2, m3]
theorem Seg.ldcM {C : String} {idx : Nat} {a : Addr} (w : (Cond.classLink y.cls idx C).before a0 Z = true) (M : Mirr Z C a) (hd : decode bytes pc = .ok (.ldc idx, 2)) (hp : pc + 2 = pc')
    (g : Seg l Z a0 EL y bytes maxL ret rm Q h k n sf pc' L (.ref a :: S)) : Seg l Z a0 EL y bytes maxL ret rm Q h k n sf pc L S := by
  subst hp
  intro p e s m args below meth c T C' w'
  obtain ⟨vm0, locs, k0, X, r1, r2, r3, r4, r5, r⟩ := w'
  obtain ⟨vm1, X', st⟩ := X.ldcMirror C'.1 r5 (mvT r4 w) (M.eval r4) (g := mkF m pc L S) rfl (hb C'.2.1 hd)
  exact Gl.st st (g p e s m args below meth c (T.setVm vm1) C' ⟨vm0, locs, k0, X', r1, r2, r3, r4, r5, r⟩)
theorem Seg.getC {C : String} {idx : Nat} {a mir : Addr} (w1 : (Cond.methodLink y.cls idx Jvm.Stand.gcN).before a0 Z = true) (w2 : (Cond.declares Jvm.Stand.gcN).before a0 Z = true) (hnf : ∀ (s : State) (vm0 : Vm), Z.Warmed39 vm0 → Free.NotFace (s.setVm vm0) Jvm.Stand.gcN) (w3 : (Cond.selects C Jvm.Stand.gcN Jvm.Stand.gcN).before a0 Z = true) (w4 : (Cond.instanceMethod Jvm.Stand.gcN).before a0 Z = true) (w5 : (Cond.native Jvm.Stand.gcN).before a0 Z = true)
    (E : Exa Z h a C) (M : Mirr Z C mir) (hsz : L.size = maxL) (hd : decode bytes pc = .ok (.invokevirtual idx, 3)) (hp : pc + 3 = pc') (hf : 1 ≤ rm.frames) {W : Nat} (hW : (S.map fun v => v.category).sum ≤ W) (hl : W + 14 ≤ rm.locals)
    (g : Seg l Z a0 EL y bytes maxL ret rm Q h k n sf pc' L (.ref mir :: S)) : Seg l Z a0 EL y bytes maxL ret rm Q h k n sf pc L (.ref a :: S) := by
  subst hp
  intro p e s m args below meth c T C' w'
  obtain ⟨vm0, locs, k0, X, r1, r2, r3, r4, r5, r⟩ := w'
  obtain ⟨cq, kq, qa, qb, qc⟩ := isOf (s := s.setVm vm0) r4 r1 E
  obtain ⟨cm, km, m1, m2, m3⟩ := M.at r4
  cases (show vm0.findClass C = some cq from qa).symm.trans m1
  obtain ⟨vm1, X', st⟩ := X.getClassOf C'.1 r5 (mvT r4 w1) (mvT r4 w2) (hnf s vm0 r4) (mvT r4 w3) (mvT r4 w4) (mvT r4 w5) qa qc m2 m3 (g := mkF m pc L (.ref a :: S)) rfl (hsz.trans C'.2.2.1.symm) rfl (hb C'.2.1 hd) hf (by rw [show nativeFrameWords "java/lang/Object" "getClass" 1 = 3 from by decide]; show 2 * 0 + _ + _ ≤ _; omega)
  exact Gl.st st (g p e s m args below meth c (T.setVm vm1) C' ⟨vm0, locs, k0, X', r1, r2, r3, r4, r5, r⟩)
theorem Seg.getCI {C : String} {idx count : Nat} {xi : MethodName} {a mir : Addr} (w1 : (Cond.methodLink y.cls idx xi).before a0 Z = true) (w2 : (Cond.declares Jvm.Stand.gcN).before a0 Z = true) (w6 : (Cond.interfaceMethod xi.cls "java/lang/Object" xi.name xi.desc).before a0 Z = true)
    (w3 : (Cond.selects C xi Jvm.Stand.gcN).before a0 Z = true) (w4 : (Cond.instanceMethod Jvm.Stand.gcN).before a0 Z = true) (w7 : (Cond.publicMethod Jvm.Stand.gcN).before a0 Z = true) (w8 : (Cond.unhidden C xi.name xi.desc).before a0 Z = true) (w9 : (Cond.castable C xi.cls).before a0 Z = true) (w5 : (Cond.native Jvm.Stand.gcN).before a0 Z = true) (hx : xi.cls ≠ "java/lang/invoke/MethodHandle" ∧ xi.cls ≠ "java/lang/invoke/VarHandle") (hxo : xi.cls ≠ "java/lang/Object") (hname : xi.name = "getClass") (hdesc : xi.desc = "()Ljava/lang/Class;")
    (E : Exa Z h a C) (M : Mirr Z C mir) (hsz : L.size = maxL) (hd : decode bytes pc = .ok (.invokeinterface idx count, 5)) (hp : pc + 5 = pc') (hf : 1 ≤ rm.frames) {W : Nat} (hW : (S.map fun v => v.category).sum ≤ W) (hl : W + 14 ≤ rm.locals)
    (g : Seg l Z a0 EL y bytes maxL ret rm Q h k n sf pc' L (.ref mir :: S)) : Seg l Z a0 EL y bytes maxL ret rm Q h k n sf pc L (.ref a :: S) := by
  subst hp
  intro p e s m args below meth c T C' w'
  obtain ⟨vm0, locs, k0, X, r1, r2, r3, r4, r5, r⟩ := w'
  obtain ⟨cq, kq, qa, qb, qc⟩ := isOf (s := s.setVm vm0) r4 r1 E
  obtain ⟨cm, km, m1, m2, m3⟩ := M.at r4
  cases (show vm0.findClass C = some cq from qa).symm.trans m1
  obtain ⟨vm1, X', st⟩ := X.getClassOfI C'.1 r5 (mvT r4 w1) (mvT r4 w2) (Jvm.Free.ULB.iface_rides r4.alike w6) (mvT r4 w3) (mvT r4 w4) (mvT r4 w7) (mvT r4 w8) (mvT r4 w9) (mvT r4 w5) hx hxo hname hdesc qa m2 qc m3 (g := mkF m pc L (.ref a :: S)) rfl (hsz.trans C'.2.2.1.symm) rfl (hb C'.2.1 hd) hf (by rw [show nativeFrameWords "java/lang/Object" "getClass" 1 = 3 from by decide]; show 2 * 0 + _ + _ ≤ _; omega)
  exact Gl.st st (g p e s m args below meth c (T.setVm vm1) C' ⟨vm0, locs, k0, X', r1, r2, r3, r4, r5, r⟩)
theorem Seg.newR {C ad : String} {idx : Nat} {z : Int32} (w1 : (Cond.classLink y.cls idx C).before a0 Z = true) (w2 : (Cond.arrayOver (.object C)).before a0 Z = true) (had : "[" ++ (FieldType.object C).toString = ad) (hd : decode bytes pc = .ok (.anewarray idx, 3)) (hp : pc + 3 = pc') (hz : ¬ z < 0) {cap : Nat} (hcap : z.toNatClampNeg ≤ cap) (hb8 : cap * 8 ≤ 536870912) {k' n' : Nat} (hk : k + 1 = k') (hn : n + cap = n') (hk2 : k' ≤ rm.cells) (hn2 : n' ≤ rm.slots)
    (g : ∀ (x : Addr) (h' : Heap) (kc : ClassId), Ext h h' → h.size = x → x < h'.size → Arv Z h' x kc (.object C) z [] .null → Exa Z h' x ad → Ovr Z kc C → Seg l Z a0 EL y bytes maxL ret rm Q h' k' n' (x :: sf) pc' L (.ref x :: S)) :
    Seg l Z a0 EL y bytes maxL ret rm Q h k n sf pc L (.int z :: S) := by
  subst hp hk hn
  intro p e s m args below meth c T C' w'
  obtain ⟨vm0, locs, k0, X, r1, r2, r3, r4, r5, r6, r7, r8, r9, r10⟩ := w'
  obtain ⟨T', h', cA, X', e', E, A, Ex, O, st⟩ := RoadKit.newRE X C'.1 r4 r5 w1 w2 r1 (g := mkF m pc L (.int z :: S)) rfl (hb C'.2.1 hd) rfl hz hcap hb8 hk2 hn2 had
  have V := Arv.new A hz
  refine Gl.st st (g _ h' cA E rfl A.lt V Ex O p e s m args below meth c T' C' ⟨vm0, locs, k0, X', e', r2, Nat.le_trans r3 E.1, r4, r5, r6.trans (CHr.ext E r6.1), r7, ext_tr r8 E, r9, ?_⟩)
  exact (r10.chr (CHr.ext E r6.1)).cons r8.1 A.lt ((Safe.new (Nat.le_refl _)).ext E r6.1)
theorem Seg.aastore {a : Addr} {kc : ClassId} {ty : FieldType} {z j : Int32} {v : Value} {vs : List Value} {dv : Value} {i : Nat} (hty : ty.isReference = true) (F : Arv Z h a kc ty z vs dv) (hj : ¬ j < 0 ∧ j < z) (hi : j.toNatClampNeg = i) (hil : i < vs.length) (St : Sto Z h a v) (hv : fits ty v = true) (hsf : a ∈ sf) (hd : decode bytes pc = .ok (.aastore, 1)) (hp : pc + 1 = pc')
    (g : ∀ h', Wr h h' a i v → Arv Z h' a kc ty z (vs.set i v) dv → Seg l Z a0 EL y bytes maxL ret rm Q h' k n sf pc' L S) : Seg l Z a0 EL y bytes maxL ret rm Q h k n sf pc L (v :: .int j :: .ref a :: S) := by
  subst hp hi
  intro p e s m args below meth c T C' w'
  obtain ⟨vm0, locs, k0, X, r1, r2, r3, r4, r5, r⟩ := w'
  obtain ⟨cl, A, q, Sz, N, H, G⟩ := F
  obtain ⟨T', h', X', e', W, st⟩ := RoadKit.stR X C'.1 r4 r1 A (inb_of Sz hj) hty St (g := mkF m pc L (v :: .int j :: .ref a :: S)) rfl rfl (hb C'.2.1 hd)
  exact Gl.st st (g h' W (Arv.set A q Sz N H G hv W _ rfl hil) p e s m args below meth c T' C' (wkWr W hsf X' e' ⟨r2, r3, r4, r5, r⟩))
/-- null or an Integer -/
def IoN (Z : State) (h : Heap) (v : Value) : Prop := v = .null ∨ ∃ r, v = .ref r ∧ Exa Z h r "java/lang/Integer"
theorem IoN.isRef {v : Value} (F : IoN Z h v) : v.isRef = true := by rcases F with rfl | ⟨r, rfl, -⟩ <;> rfl
theorem IoN.ext {v : Value} (F : IoN Z h v) (E : Ext h h') : IoN Z h' v := F.imp id fun ⟨r, q, x⟩ => ⟨r, q, x.ext E⟩
theorem IoN.wr {v u : Value} {a : Addr} {i : Nat} (F : IoN Z h v) (W : Wr h h' a i u) : IoN Z h' v := F.imp id fun ⟨r, q, x⟩ => ⟨r, q, x.wr W⟩
theorem IoN.keep {v : Value} {ws : List Addr} (F : IoN Z h v) (K : Keep h h' ws) : IoN Z h' v := F.imp id fun ⟨r, q, x⟩ => ⟨r, q, x.keep K⟩
theorem IoN.fits {v : Value} {C : String} (F : IoN Z h v) : fits (.object C) v = true := by rcases F with rfl | ⟨r, rfl, -⟩ <;> rfl
theorem IoN.sto {v : Value} {a : Addr} {kc : ClassId} {ty : FieldType} {z : Int32} {vs : List Value} {dv : Value} (F : IoN Z h v) (A : Arv Z h a kc ty z vs dv) (O : Ovr Z kc "java/lang/Object") (w : (Cond.castable "java/lang/Integer" "java/lang/Object").before a0 Z = true) : Sto Z h a v := by
  rcases F with rfl | ⟨r, rfl, x⟩
  · exact Or.inl rfl
  · obtain ⟨cl, A', rfl, -⟩ := A
    exact Sto.of A' O (Ins.of_exa x w)
theorem nfits {C : String} : fits (.object C) .null = true := rfl
end B
section P
variable {l : Launch} {Z : State} {a0 : Array Value} {EL : List (String × Nat)} {y y' : MethodName} {bytes : ByteArray} {maxL : Nat} {ret : Option FieldType} {rm : Room} {Q Q' : Option Value → Heap → Prop} {h : Heap} {k n k' n' rc rs W idx : Nat} {sf : List Addr} {pc pc' : Nat} {L : Array Slot} {S rest argsL : List Value} {as' : Array Value}
theorem Seg.callPr {a : Addr} {C : String} {bytes' : ByteArray} {maxL' : Nat} {ret' : Option FieldType} (w1 : (Cond.methodLink y.cls idx y').before a0 Z = true) (w2 : (Cond.instanceMethod y').before a0 Z = true) (w3 : (Cond.selects y'.cls y' y').before a0 Z = true) (wp : (Cond.privateMethod y').before a0 Z = true) (w4 : (Cond.code y' bytes' maxL' ret').before a0 Z = true) (hy : y'.cls ≠ "java/lang/invoke/MethodHandle" ∧ y'.cls ≠ "java/lang/invoke/VarHandle") (E : Exa Z h a C)
    (hP : Pays l rm Z a0 EL sf y' 3 W as' h rc rs Q') (has : (.ref a :: argsL).toArray = as') (hlen : ∀ sig, parseMethodDescriptor y'.desc = some sig → argsL.length = sig.parameters.length) (hst : S = argsL.reverse ++ .ref a :: rest) (hW : (rest.map fun v => v.category).sum ≤ W) (hsz : L.size = maxL) (hd : decode bytes pc = .ok (.invokevirtual idx, 3)) (hp : pc + 3 = pc')
    (hk : k + rc = k') (hn : n + rs = n') (hk2 : k' ≤ rm.cells) (hn2 : n' ≤ rm.slots)
    (g : ∀ (v : Option Value) (h' : Heap), h.size ≤ h'.size → Q' v h' → Seg l Z a0 EL y bytes maxL ret rm Q h' k' n' sf pc' L (v.toList ++ rest)) : Seg l Z a0 EL y bytes maxL ret rm Q h k n sf pc L S := by
  subst hp hk hn hst has
  intro p e s m args below meth c T C' w'
  obtain ⟨vm0, locs, k0, X, r1, r2, r3, r4, r5, r6, r7, r8, r9, r10⟩ := w'
  obtain ⟨cq, kq, qa, qb, cell, qc, qd, qe⟩ := isOf (s := s.setVm vm0) r4 r1 E
  obtain ⟨v, vm1, B, -, X', hS, hg, ⟨L0, ⟨q1, q2, q3⟩, hl, hc, hs, q4⟩, st⟩ := X.privateBackS C'.1 r5 (mvT r4 w1) (mvT r4 w2) (mvT r4 w3) (Cond.privateMethod_at (args := args) (mvP r4 wp)) (mvT r4 w4) hy (hP p e below s args vm0 r4 r6.1 r10 r8 r9) (g := mkF m pc L (argsL.reverse ++ .ref a :: rest)) rfl (hsz.trans C'.2.2.1.symm) (Steps.refl _) qc (fun z q => by rw [q] at qe; cases qe) (argsL := argsL) (rest := rest) hlen rfl (by show 2 * 0 + _ ≤ _; omega) (hb C'.2.1 hd) (fun _ _ => ⟨rfl, r1, hk2, hn2⟩)
  rw [r1] at hg
  exact Gl.st (fun t hr => st.trans hr) (g v B.U.heap hg q3 p e s m args below meth c B.U C' (wkBack ⟨r2, r3, r4, r5, r6, r7, r8, r9, r10⟩ X' hS hg ⟨q1, q2⟩ hl hc hs q4))
end P
theorem all_exa {Z : State} {args : Array Value} {C0 n0 d0 K : String} {B : Cond} {a : Addr} {cl : Cell} (ev0 : (Term.static C0 n0 d0).eval args Z none [] Z = some (.ref a)) (hat : Z.arrayAt? a = some cl) (hc : Z.heap[a]? = some cl)
    (h : (Cond.all (.static C0 n0 d0) (.and (.exactly (.elem (.static C0 n0 d0) (.index 0)) K) B)).value args Z none Z [] = some true) {i : Nat} (hi : i < cl.slots.size) (hs : i ≤ 100000) : ∃ r, cl.slots[i]? = some (.ref r) ∧ Exa Z Z.heap r K := by
  have q := Cond.all_elim ev0 hat h i hi
  obtain ⟨q1, -⟩ := and_e q
  have e : (Term.elem (.static C0 n0 d0) (.int (Int32.ofNat i))).eval args Z none [] Z = (Term.elem (.static C0 n0 d0) (.index 0)).eval args Z none [i] Z := by simp [Term.eval]
  have q2 : (Cond.exactly (.elem (.static C0 n0 d0) (.int (Int32.ofNat i))) K).value args Z none Z [] = some true := by
    simp only [Cond.value, e] at q1 ⊢
    exact q1
  obtain ⟨r, er⟩ := exa_v q2
  refine ⟨r, ?_, Exa.start er q2⟩
  have g := (elem_in er ev0 (Term.int_eval _) hc).2
  rw [n32c hs] at g
  exact g
end Jvm.OwnK
namespace Jvm.OwnK
open Jvm Jvm.ClassFile Sem Op Lib Jvm.Free Jvm.Stand Jvm.LawKit Jvm.RoadKit Bundle
/-! own kit, part 10: calls of a superclass's methods, private methods met by a subclass's word -/
section P
variable {l : Launch} {Z : State} {a0 : Array Value} {EL : List (String × Nat)} {y y' : MethodName} {bytes : ByteArray} {maxL : Nat} {ret : Option FieldType} {rm : Room} {Q Q' : Option Value → Heap → Prop} {h : Heap} {k n k' n' rc rs W idx : Nat} {sf : List Addr} {pc pc' : Nat} {L : Array Slot} {S rest argsL : List Value} {as' : Array Value}
theorem sel_self {C : String} (ws : (Cond.selects C y y).before a0 Z = true) (wp : (Cond.privateMethod y).before a0 Z = true) (wi : (Cond.instanceMethod y).before a0 Z = true) (hy : y.cls ≠ "java/lang/invoke/MethodHandle" ∧ y.cls ≠ "java/lang/invoke/VarHandle") : (Cond.selects y.cls y y).before a0 Z = true := by
  obtain ⟨c2, r2, m2, -, -, q3, -, kP, hkP, hkPi⟩ := Cond.selects_spec ws
  exact Jvm.Stand.selects_self_of_private (findClass_of_methodNamed q3) hkP hkPi (Cond.privateMethod_at wp) wi hy
theorem same_of {z : MethodName} {C : String} (wi : (Cond.instanceMethod y).before a0 Z = true) (ws : (Cond.selects C z z).before a0 Z = true) (hc : z.cls = y.cls) (hy : y.cls ≠ "java/lang/invoke/MethodHandle" ∧ y.cls ≠ "java/lang/invoke/VarHandle") : (Cond.sameMethod y.cls y.cls y.name y.desc).before a0 Z = true := by
  obtain ⟨mk, methM, hnamed, hmethM, -, -⟩ := Cond.instanceMethod_spec wi
  have hfound := State.methodFound?_of_named hnamed hy
  obtain ⟨c2, r2, m2, -, -, q3, -, kP, hkP, hkPi⟩ := Cond.selects_spec ws
  have f1 := findClass_of_methodNamed q3
  have f2 := findClass_of_methodNamed hnamed
  rw [hc] at f1
  have e : m2.cls = mk.cls := Option.some.inj (f1.symm.trans f2)
  rw [e] at hkP
  simp only [Cond.before, Cond.holds, Cond.value, f2, hfound, hnamed, hkP]
  simp [hkPi]
theorem nf_cls {z : MethodName} {C : String} (ws : (Cond.selects C z z).before a0 Z = true) (hc : z.cls = y'.cls) (s : State) (vm0 : Vm) (hZ : Z.Warmed39 vm0) : Free.NotFace (s.setVm vm0) y' := by
  have w := mvT (s := s.setVm vm0) (args := #[]) hZ ws
  obtain ⟨c2, r2, m2, -, -, q3, -, kP, hkP, hkPi⟩ := Cond.selects_spec w
  intro r0 hn
  have f1 := findClass_of_methodNamed q3
  have f2 := findClass_of_methodNamed hn
  rw [hc] at f1
  have e : m2.cls = r0.cls := Option.some.inj (f1.symm.trans f2)
  exact ⟨kP, by rw [← e]; exact hkP, hkPi⟩
theorem Seg.callSup {K : String} {a : Addr} {bytes' : ByteArray} {maxL' : Nat} {ret' : Option FieldType} (w1 : (Cond.methodLink y.cls idx y').before a0 Z = true) (w2 : (Cond.sameMethod y'.cls y'.cls y'.name y'.desc).before a0 Z = true) (w3 : (Cond.instanceMethod y').before a0 Z = true) (w4 : (Cond.superclass y.cls y'.cls).before a0 Z = true) (hn' : y'.name ≠ "<init>") (wc : (Cond.code y' bytes' maxL' ret').before a0 Z = true) (E : Ins Z h a K true)
    (hP : Pays l rm Z a0 EL sf y' 3 W as' h rc rs Q') (has : (.ref a :: argsL).toArray = as') (hlen : ∀ sig, parseMethodDescriptor y'.desc = some sig → argsL.length = sig.parameters.length) (hst : S = argsL.reverse ++ .ref a :: rest) (hW : (rest.map fun v => v.category).sum ≤ W) (hsz : L.size = maxL) (hd : decode bytes pc = .ok (.invokespecial idx, 3)) (hp : pc + 3 = pc')
    (hk : k + rc = k') (hn : n + rs = n') (hk2 : k' ≤ rm.cells) (hn2 : n' ≤ rm.slots)
    (g : ∀ (v : Option Value) (h' : Heap), h.size ≤ h'.size → Q' v h' → Seg l Z a0 EL y bytes maxL ret rm Q h' k' n' sf pc' L (v.toList ++ rest)) : Seg l Z a0 EL y bytes maxL ret rm Q h k n sf pc L S := by
  subst hp hk hn hst has
  intro p e s m args below meth c T C' w'
  obtain ⟨vm0, locs, k0, X, r1, r2, r3, r4, r5, r6, r7, r8, r9, r10⟩ := w'
  obtain ⟨v, vm1, B, -, X', hS, hg, ⟨L0, ⟨q1, q2, q3⟩, hl, hc, hs, q4⟩, st⟩ := RoadKit.superBackS X C'.1 r4 r5 w1 w2 w3 w4 hn' (hP p e below s args vm0 r4 r6.1 r10 r8 r9) r1 E (g := mkF m pc L (argsL.reverse ++ .ref a :: rest)) rfl (hsz.trans C'.2.2.1.symm) wc (argsL := argsL) (rest := rest) hlen rfl (by show 2 * 0 + _ ≤ _; omega) (hb C'.2.1 hd) (fun _ _ => ⟨rfl, r1, hk2, hn2⟩)
  rw [r1] at hg
  exact Gl.st (fun t hr => st.trans hr) (g v B.U.heap hg q3 p e s m args below meth c B.U C' (wkBack ⟨r2, r3, r4, r5, r6, r7, r8, r9, r10⟩ X' hS hg ⟨q1, q2⟩ hl hc hs q4))
end P
end Jvm.OwnK
/- laws to paste: Road.backV, Road.codOf, Road.lenW (cut by pick.py; bodies as the Statement names them) -/
namespace Jvm.Pilot.@@N@@
namespace StrChars
open Jvm Sem ClassFile Op Lib Jvm.Stand Jvm.Free.XT Jvm.Free.ALB Jvm.Free.JM Jvm.Free
open Jvm.Lib.Cold (StaticIs)
/-- a char array whose places are chars -/
def Ch (a : Addr) (A : Cell) (U : State) : Prop := Arr .char a A U ∧ Typed .char A
theorem Ch.mv {a : Addr} {A : Cell} {U U' : State} (h : Ch a A U) (hal : U.vm.Alike U'.vm) (hh : U'.heap = U.heap) : Ch a A U' := ⟨h.1.mv hal hh, h.2⟩
theorem Ch.keep {a : Addr} {A : Cell} {U U' : State} (h : Ch a A U) (hal : U.vm.Alike U'.vm) (hk : U'.heap[a]? = some A) : Ch a A U' := ⟨h.1.keep hal hk, h.2⟩
/-- what place i of a char[]'s cell holds -/
def cv (A : Cell) (i : Nat) : Int32 := match A.slots[i]? with | some (.int x) => x | _ => 0
theorem Ch.get {a : Addr} {A : Cell} {U : State} (h : Ch a A U) {i : Nat} (hi : i < A.slots.size) : A.slots[i]? = some (.int (cv A i)) := by
  have e := Array.getElem?_eq_getElem hi
  have f := h.2 i _ e
  unfold cv; rw [e]
  generalize A.slots[i] = v at f
  cases v <;> simp [fits] at f ⊢
/-- the byte that i2b leaves of a char -/
def lo8 (x : Int32) : Int32 := x.toInt8.toInt32
theorem fits_lo8 (y : Int32) : fits .byte (.int (lo8 y)) = true := by
  have h1 := y.toInt8.le_toInt
  have h2 := y.toInt8.toInt_lt
  simp only [lo8, fits, Bool.and_eq_true, decide_eq_true_eq, Int32.le_iff_toInt_le, Int8.toInt_toInt32, show (-128 : Int32).toInt = -128 from by decide, show (127 : Int32).toInt = 127 from by decide]
  omega
/-- A' is A but that each place j of lo .. hi - 1 holds f j -/
def Laid (A A' : Cell) (lo hi : Nat) (f : Nat → Value) : Prop := A'.cls = A.cls ∧ A'.vm = A.vm ∧ A'.slots.size = A.slots.size ∧ ∀ i, A'.slots[i]? = if lo ≤ i ∧ i < hi then some (f i) else A.slots[i]?
theorem Laid.zero (A : Cell) (lo : Nat) (f : Nat → Value) : Laid A A lo (lo + 0) f := ⟨rfl, rfl, rfl, fun i => by rw [if_neg (by omega)]⟩
theorem Laid.step {A Ak : Cell} {lo k : Nat} {f : Nat → Value} {v : Value} (h : Laid A Ak lo k f) (hlo : lo ≤ k) (hk : k < Ak.slots.size) (hv : v = f k) : Laid A (Ak.setSlot k v) lo (k + 1) f := by
  refine ⟨h.1, h.2.1, by simpa [Cell.setSlot] using h.2.2.1, fun i => ?_⟩
  by_cases e : k = i
  · subst e; rw [Cell.slots_setSlot_self v hk, if_pos (by omega), hv]
  · rw [Cell.slots_setSlot_ne v e, h.2.2.2 i]
    by_cases q : lo ≤ i ∧ i < k
    · rw [if_pos q, if_pos (by omega)]
    · rw [if_neg q, if_neg (by omega)]
def U16 : String := "java/lang/StringUTF16"
namespace Cmp5
def yN : MethodName := ⟨"java/lang/StringUTF16", "compress", "([CI[BII)I"⟩
abbrev yB : ByteArray := jdk_52_method_21_code
theorem d0 : decode yB 0 = .ok (.iconst 0, 1) := by decide +kernel
theorem d1 : decode yB 1 = .ok (.istore 5, 2) := by decide +kernel
theorem d3 : decode yB 3 = .ok (.iload 5, 2) := by decide +kernel
theorem d5 : decode yB 5 = .ok (.iload 4, 2) := by decide +kernel
theorem d7 : decode yB 7 = .ok (.if_icmp (.ge) 37, 3) := by decide +kernel
theorem d10 : decode yB 10 = .ok (.aload_n 0, 1) := by decide +kernel
theorem d11 : decode yB 11 = .ok (.iload_n 1, 1) := by decide +kernel
theorem d12 : decode yB 12 = .ok (.caload, 1) := by decide +kernel
theorem d13 : decode yB 13 = .ok (.istore 6, 2) := by decide +kernel
theorem d15 : decode yB 15 = .ok (.iload 6, 2) := by decide +kernel
theorem d17 : decode yB 17 = .ok (.sipush 255, 3) := by decide +kernel
theorem d20 : decode yB 20 = .ok (.if_icmp (.le) 6, 3) := by decide +kernel
theorem d26 : decode yB 26 = .ok (.aload_n 2, 1) := by decide +kernel
theorem d27 : decode yB 27 = .ok (.iload_n 3, 1) := by decide +kernel
theorem d28 : decode yB 28 = .ok (.iload 6, 2) := by decide +kernel
theorem d30 : decode yB 30 = .ok (.i2b, 1) := by decide +kernel
theorem d31 : decode yB 31 = .ok (.bastore, 1) := by decide +kernel
theorem d32 : decode yB 32 = .ok (.iinc 1 1, 3) := by decide +kernel
theorem d35 : decode yB 35 = .ok (.iinc 3 1, 3) := by decide +kernel
theorem d38 : decode yB 38 = .ok (.iinc 5 1, 3) := by decide +kernel
theorem d41 : decode yB 41 = .ok (.goto (-38), 3) := by decide +kernel
theorem d44 : decode yB 44 = .ok (.iload 4, 2) := by decide +kernel
theorem d46 : decode yB 46 = .ok (.ireturn, 1) := by decide +kernel
def site : List Cond := []
def tab : Cond := tabOf yN yB 7 (some .int) site
def P (b : Addr) (A : Cell) (d : Addr) (B : Cell) (o q len : Nat) (args : Array Value) (s : State) : Prop := args = #[.ref b, .int (Int32.ofNat o), .ref d, .int (Int32.ofNat q), .int (Int32.ofNat len)] ∧ Ch b A s ∧ Arr .byte d B s ∧ b ≠ d ∧ o + len ≤ A.slots.size ∧ q + len ≤ B.slots.size ∧ ∀ i, i < len → ¬ 255 < cv A (o + i)
def E (b : Addr) (A : Cell) (d : Addr) (B : Cell) (o q len : Nat) (r : Option Value) (s u : State) : Prop := r = some (.int (Int32.ofNat len)) ∧ ∃ B', Put d B' s u ∧ Laid B B' q (q + len) (fun j => Value.int (lo8 (cv A (o + (j - q)))))
/-- no char of the range above 255: len; the places written hold each char's low byte -/
theorem law (l : Launch) (b : Addr) (A : Cell) (d : Addr) (B : Cell) (o q len : Nat) : Law l yN 5 5 0 0 yB 7 (some .int) site (P b A d B o q len) (E b A d B o q len) (copyLocs d q len) 0 0 := by
  refine Law.of_walk (plainFor_of_name (by decide +kernel)) (by decide +kernel) (by decide +kernel) (by decide) (fun _ _ h => by rw [h.1]; rfl) (fun _ U U' hal hh h => ⟨h.1, h.2.1.mv hal hh, h.2.2.1.mv hal hh, h.2.2.2⟩) (fun r U U' V V' h1 hal h2 h => ⟨h.1, h.2.elim fun B' q => ⟨B', q.1.mv h1 h2, q.2⟩⟩) ?_
  intro p e s m args below meth c s₁ X0 hexec hbytes hml hret hlk hnm hown hh0 W hP
  obtain ⟨rfl, hA, hB, hne, l1, l2, hp⟩ := hP
  have c1 : Steps p.tables e below (s₁.setTop (entryFrame m #[.ref b, .int (Int32.ofNat o), .ref d, .int (Int32.ofNat q), .int (Int32.ofNat len)] 7)) (s₁.setTop (mkF m 0 #[.val (.ref b), .val (.int (Int32.ofNat o)), .val (.ref d), .val (.int (Int32.ofNat q)), .val (.int (Int32.ofNat len)), .unset, .unset] [])) := entry rfl
  have hA0 := hA.1.mv X0.warmed.alike hh0
  have hB0 := hB.mv X0.warmed.alike hh0
  have a31 := hA.1.2.2.2
  have c2 : Steps p.tables e below (s₁.setTop (entryFrame m #[.ref b, .int (Int32.ofNat o), .ref d, .int (Int32.ofNat q), .int (Int32.ofNat len)] 7)) (s₁.setTop (mkF m 3 #[.val (.ref b), .val (.int (Int32.ofNat o)), .val (.ref d), .val (.int (Int32.ofNat q)), .val (.int (Int32.ofNat len)), .val (.int 0), .unset] [])) := c1.trans (by
    refine iconstV X0.here hexec rfl 0 (hb hbytes d0) (by decide) ?_
    refine XS.istore X0.here hexec rfl (hb hbytes d1) rfl rfl ?_
    exact Steps.refl _)
  have loop : ∀ (r i : Nat), i + r = len → ∀ (z : Slot), (z = .unset ∨ ∃ w, z = .val w ∧ w.category = 1) → ∀ (Tl : State) (Bk : Cell), Stand p l e { frames := 0, locals := 0, cells := 0, slots := 0 } s m #[.ref b, .int (Int32.ofNat o), .ref d, .int (Int32.ofNat q), .int (Int32.ofNat len)] below meth c Tl ([] ++ copyLocs d q i) 0 0 → Put d Bk s₁ Tl → Laid B Bk q (q + i) (fun j => Value.int (lo8 (cv A (o + (j - q))))) →
      Steps p.tables e below (s₁.setTop (entryFrame m #[.ref b, .int (Int32.ofNat o), .ref d, .int (Int32.ofNat q), .int (Int32.ofNat len)] 7)) (Tl.setTop (mkF m 3 #[.val (.ref b), .val (.int (Int32.ofNat (o + i))), .val (.ref d), .val (.int (Int32.ofNat (q + i))), .val (.int (Int32.ofNat len)), .val (.int (Int32.ofNat i)), z] [])) → ∃ (T' : State) (B' : Cell) (z' : Slot), Stand p l e { frames := 0, locals := 0, cells := 0, slots := 0 } s m #[.ref b, .int (Int32.ofNat o), .ref d, .int (Int32.ofNat q), .int (Int32.ofNat len)] below meth c T' ([] ++ copyLocs d q len) 0 0 ∧ Put d B' s₁ T' ∧ Laid B B' q (q + len) (fun j => Value.int (lo8 (cv A (o + (j - q))))) ∧
      Steps p.tables e below (s₁.setTop (entryFrame m #[.ref b, .int (Int32.ofNat o), .ref d, .int (Int32.ofNat q), .int (Int32.ofNat len)] 7)) (T'.setTop (mkF m 3 #[.val (.ref b), .val (.int (Int32.ofNat (o + len))), .val (.ref d), .val (.int (Int32.ofNat (q + len))), .val (.int (Int32.ofNat len)), .val (.int (Int32.ofNat len)), z'] [])) := by
    intro r
    induction r with
    | zero =>
      intro i hi z hz Tl Bk Xl pl fl cl
      have hil : i = len := by omega
      rw [hil] at Xl fl cl
      exact ⟨Tl, Bk, z, Xl, pl, fl, cl⟩
    | succ r ih =>
      intro i hi z hz Tl Bk Xl pl fl cl
      have all := X0.warmed.alike.symm.trans Xl.warmed.alike
      have hAl := hA0.keep all (pl.other hne hA0.1)
      have hBk := hB0.like all pl.1 fl.1 fl.2.1 fl.2.2.1
      have hlt : q + i < Bk.slots.size := by rw [fl.2.2.1]; omega
      have c3 : Steps p.tables e below (s₁.setTop (entryFrame m #[.ref b, .int (Int32.ofNat o), .ref d, .int (Int32.ofNat q), .int (Int32.ofNat len)] 7)) (Tl.setTop (mkF m 12 #[.val (.ref b), .val (.int (Int32.ofNat (o + i))), .val (.ref d), .val (.int (Int32.ofNat (q + i))), .val (.int (Int32.ofNat len)), .val (.int (Int32.ofNat i)), z] [.int (Int32.ofNat (o + i)), .ref b])) := cl.trans (by
        refine XS.iload Xl.here hexec rfl (hb hbytes d3) rfl ?_
        refine XS.iload Xl.here hexec rfl (hb hbytes d5) rfl ?_
        refine XS.icmpNo Xl.here hexec rfl (hb hbytes d7) rfl (ii_ge_f (lt32 (by omega) (by omega))) ?_
        refine XS.aloadN Xl.here hexec rfl (hb hbytes d10) rfl rfl ?_
        refine XS.iloadN Xl.here hexec rfl (hb hbytes d11) rfl ?_
        exact Steps.refl _)
      have c4 : Steps p.tables e below (s₁.setTop (entryFrame m #[.ref b, .int (Int32.ofNat o), .ref d, .int (Int32.ofNat q), .int (Int32.ofNat len)] 7)) (Tl.setTop (mkF m 13 #[.val (.ref b), .val (.int (Int32.ofNat (o + i))), .val (.ref d), .val (.int (Int32.ofNat (q + i))), .val (.int (Int32.ofNat len)), .val (.int (Int32.ofNat i)), z] [.int (cv A (o + i))])) := c3.trans (by
        refine Xl.aget hexec hAl rfl (hA.get (i := o + i) (by omega)) rfl rfl (hb hbytes d12) ?_
        exact Steps.refl _)
      have c5 : Steps p.tables e below (s₁.setTop (entryFrame m #[.ref b, .int (Int32.ofNat o), .ref d, .int (Int32.ofNat q), .int (Int32.ofNat len)] 7)) (Tl.setTop (mkF m 15 #[.val (.ref b), .val (.int (Int32.ofNat (o + i))), .val (.ref d), .val (.int (Int32.ofNat (q + i))), .val (.int (Int32.ofNat len)), .val (.int (Int32.ofNat i)), .val (.int (cv A (o + i)))] [])) := c4.trans (by
        refine XS.istoreS Xl.here hexec rfl (hb hbytes d13) rfl rfl hz ?_
        exact Steps.refl _)
      have c6 : Steps p.tables e below (s₁.setTop (entryFrame m #[.ref b, .int (Int32.ofNat o), .ref d, .int (Int32.ofNat q), .int (Int32.ofNat len)] 7)) (Tl.setTop (mkF m 31 #[.val (.ref b), .val (.int (Int32.ofNat (o + i))), .val (.ref d), .val (.int (Int32.ofNat (q + i))), .val (.int (Int32.ofNat len)), .val (.int (Int32.ofNat i)), .val (.int (cv A (o + i)))] [.int (lo8 (cv A (o + i))), .int (Int32.ofNat (q + i)), .ref d])) := c5.trans (by
        refine XS.iload Xl.here hexec rfl (hb hbytes d15) rfl ?_
        refine sipushV Xl.here hexec rfl 255 (hb hbytes d17) (by decide) ?_
        refine XS.icmpYes Xl.here hexec rfl (pc0 := 20) rfl (hb hbytes d20) rfl (ii_le_t (hp i (by omega))) (by decide) rfl ?_
        refine XS.aloadN Xl.here hexec rfl (hb hbytes d26) rfl rfl ?_
        refine XS.iloadN Xl.here hexec rfl (hb hbytes d27) rfl ?_
        refine XS.iload Xl.here hexec rfl (hb hbytes d28) rfl ?_
        refine i2b Xl.here hexec rfl (hb hbytes d30) rfl ?_
        exact Steps.refl _)
      obtain ⟨T7, X7, p7, st7⟩ := Xl.aput hexec hBk rfl hlt rfl (fits_lo8 (cv A (o + i))) (g := (mkF m 31 #[.val (.ref b), .val (.int (Int32.ofNat (o + i))), .val (.ref d), .val (.int (Int32.ofNat (q + i))), .val (.int (Int32.ofNat len)), .val (.int (Int32.ofNat i)), .val (.int (cv A (o + i)))] [.int (lo8 (cv A (o + i))), .int (Int32.ofNat (q + i)), .ref d])) rfl (rest := []) rfl (hb hbytes d31)
      have c8 : Steps p.tables e below (s₁.setTop (entryFrame m #[.ref b, .int (Int32.ofNat o), .ref d, .int (Int32.ofNat q), .int (Int32.ofNat len)] 7)) (T7.setTop (mkF m 32 #[.val (.ref b), .val (.int (Int32.ofNat (o + i))), .val (.ref d), .val (.int (Int32.ofNat (q + i))), .val (.int (Int32.ofNat len)), .val (.int (Int32.ofNat i)), .val (.int (cv A (o + i)))] [])) := c6.trans (st7 _ (Steps.refl _))
      have c9 : Steps p.tables e below (s₁.setTop (entryFrame m #[.ref b, .int (Int32.ofNat o), .ref d, .int (Int32.ofNat q), .int (Int32.ofNat len)] 7)) (T7.setTop (mkF m 3 #[.val (.ref b), .val (.int (Int32.ofNat (o + i) + 1)), .val (.ref d), .val (.int (Int32.ofNat (q + i) + 1)), .val (.int (Int32.ofNat len)), .val (.int (Int32.ofNat i + 1)), .val (.int (cv A (o + i)))] [])) := c8.trans (by
        refine iincV X7.here hexec rfl 1 (hb hbytes d32) (by decide) rfl rfl ?_
        refine iincV X7.here hexec rfl 1 (hb hbytes d35) (by decide) rfl rfl ?_
        refine iincV X7.here hexec rfl 1 (hb hbytes d38) (by decide) rfl rfl ?_
        refine XS.goto X7.here hexec rfl (pc0 := 41) rfl (hb hbytes d41) (by decide) rfl ?_
        exact Steps.refl _)
      have c10 : Steps p.tables e below (s₁.setTop (entryFrame m #[.ref b, .int (Int32.ofNat o), .ref d, .int (Int32.ofNat q), .int (Int32.ofNat len)] 7)) (T7.setTop (mkF m 3 #[.val (.ref b), .val (.int (Int32.ofNat (o + (i + 1)))), .val (.ref d), .val (.int (Int32.ofNat (q + (i + 1)))), .val (.int (Int32.ofNat len)), .val (.int (Int32.ofNat (i + 1))), .val (.int (cv A (o + i)))] [])) := by
        have := c9
        rw [succ32, succ32, succ32] at this
        exact this
      exact ih (i + 1) (by omega) _ (Or.inr ⟨_, rfl, rfl⟩) T7 _ (by rw [copyLocs_step, ← List.append_assoc]; exact X7) (pl.trans p7) (fl.step (by omega) hlt (by simp)) c10
  obtain ⟨T9, B9, z9, X9, p9, f9, g9⟩ := loop len 0 (by omega) .unset (Or.inl rfl) s₁ B (by simpa [copyLocs] using X0) ⟨hB0.1, fun _ _ => rfl, rfl⟩ (Laid.zero _ _ _) c2
  have c11 : Steps p.tables e below (s₁.setTop (entryFrame m #[.ref b, .int (Int32.ofNat o), .ref d, .int (Int32.ofNat q), .int (Int32.ofNat len)] 7)) (T9.setTop (mkF m 46 #[.val (.ref b), .val (.int (Int32.ofNat (o + len))), .val (.ref d), .val (.int (Int32.ofNat (q + len))), .val (.int (Int32.ofNat len)), .val (.int (Int32.ofNat len)), z9] [.int (Int32.ofNat len)])) := g9.trans (by
    refine XS.iload X9.here hexec rfl (hb hbytes d3) rfl ?_
    refine XS.iload X9.here hexec rfl (hb hbytes d5) rfl ?_
    refine XS.icmpYes X9.here hexec rfl (pc0 := 7) rfl (hb hbytes d7) rfl (ii_ge_t (nlt32 (by omega) (Nat.le_refl _))) (by decide) rfl ?_
    refine XS.iload X9.here hexec rfl (hb hbytes d44) rfl ?_
    exact Steps.refl _)
  exact ⟨T9, some (.int (Int32.ofNat len)), _, _, _, X9, by simp, rfl, rfl, (fun h => by cases h), ⟨rfl, B9, p9.from hh0, f9⟩, fun fs hl => c11.trans (X9.ireturnOut hexec hret rfl (Or.inl rfl) (hb hbytes d46) hl)⟩
end Cmp5
namespace Cmp3
def yN : MethodName := ⟨"java/lang/StringUTF16", "compress", "([CII)[B"⟩
abbrev yB : ByteArray := jdk_52_method_16_code
theorem d0 : decode yB 0 = .ok (.iload_n 2, 1) := by decide +kernel
theorem d1 : decode yB 1 = .ok (.newarray .byte, 2) := by decide +kernel
theorem d3 : decode yB 3 = .ok (.astore_n 3, 1) := by decide +kernel
theorem d4 : decode yB 4 = .ok (.aload_n 0, 1) := by decide +kernel
theorem d5 : decode yB 5 = .ok (.iload_n 1, 1) := by decide +kernel
theorem d6 : decode yB 6 = .ok (.aload_n 3, 1) := by decide +kernel
theorem d7 : decode yB 7 = .ok (.iconst 0, 1) := by decide +kernel
theorem d8 : decode yB 8 = .ok (.iload_n 2, 1) := by decide +kernel
theorem d9 : decode yB 9 = .ok (.invokestatic 115, 3) := by decide +kernel
theorem d12 : decode yB 12 = .ok (.istore 4, 2) := by decide +kernel
theorem d14 : decode yB 14 = .ok (.iload 4, 2) := by decide +kernel
theorem d16 : decode yB 16 = .ok (.iload_n 2, 1) := by decide +kernel
theorem d17 : decode yB 17 = .ok (.if_icmp (.eq) 40, 3) := by decide +kernel
theorem d57 : decode yB 57 = .ok (.aload_n 3, 1) := by decide +kernel
theorem d58 : decode yB 58 = .ok (.areturn, 1) := by decide +kernel
def site : List Cond := [.arrayClass .byte, Cmp5.tab] ++ staticW U16 115 Cmp5.yN
def tab : Cond := tabOf yN yB 6 (some (.array .byte)) site
def P (b : Addr) (A : Cell) (o len : Nat) (args : Array Value) (s : State) : Prop := args = #[.ref b, .int (Int32.ofNat o), .int (Int32.ofNat len)] ∧ Ch b A s ∧ o + len ≤ A.slots.size ∧ len ≤ 536870912 ∧ ∀ i, i < len → ¬ 255 < cv A (o + i)
def E (b : Addr) (A : Cell) (o len : Nat) (r : Option Value) (s u : State) : Prop := NewArr .byte "[B" len (fun j => .int (lo8 (cv A (o + j)))) r s u ∧ u.heap.size = s.heap.size + 1
/-- no char of the range above 255: a new byte[] of their low bytes -/
theorem law (l : Launch) (b : Addr) (A : Cell) (o len : Nat) : Law l yN 3 3 1 18 yB 6 (some (.array .byte)) site (P b A o len) (E b A o len) [] 1 len := by
  refine Law.of_walk (plainFor_of_name (by decide +kernel)) (by decide +kernel) (by decide +kernel) (by decide) (fun _ _ h => by rw [h.1]; rfl) (fun _ U U' hal hh h => ⟨h.1, h.2.1.mv hal hh, h.2.2⟩) (fun r U U' V V' h1 hal h2 h => ⟨NewArr.mv r U U' V V' h1 hal h2 h.1, by rw [h1, h2]; exact h.2⟩) ?_
  intro p e s m args below meth c s₁ X0 hexec hbytes hml hret hlk hnm hown hh0 W hP
  obtain ⟨rfl, hA, l1, l2, hp⟩ := hP
  have a31 := hA.1.2.2.2
  have c1 : Steps p.tables e below (s₁.setTop (entryFrame m #[.ref b, .int (Int32.ofNat o), .int (Int32.ofNat len)] 6)) (s₁.setTop (mkF m 0 #[.val (.ref b), .val (.int (Int32.ofNat o)), .val (.int (Int32.ofNat len)), .unset, .unset, .unset] [])) := entry rfl
  have c2 : Steps p.tables e below (s₁.setTop (entryFrame m #[.ref b, .int (Int32.ofNat o), .int (Int32.ofNat len)] 6)) (s₁.setTop (mkF m 1 #[.val (.ref b), .val (.int (Int32.ofNat o)), .val (.int (Int32.ofNat len)), .unset, .unset, .unset] [.int (Int32.ofNat len)])) := c1.trans (by
    refine XS.iloadN X0.here hexec rfl (hb hbytes d0) rfl ?_
    exact Steps.refl _)
  obtain ⟨T3, B3, X3, ba3, bs3, bv3, bh3, bf3, st3⟩ := X0.anew hexec (atype := .byte) (wk W (.arrayClass .byte)) rfl (by show len * 1 ≤ _; omega) (by omega) (g := (mkF m 1 #[.val (.ref b), .val (.int (Int32.ofNat o)), .val (.int (Int32.ofNat len)), .unset, .unset, .unset] [.int (Int32.ofNat len)])) rfl (hb hbytes d1) (rest := []) rfl (Nat.le_refl _) (by show 0 + len ≤ len; omega)
  rw [hh0] at ba3 st3
  have kp3 : XT.Kept s T3 := (XT.Kept.of_eq hh0).push bh3
  have hA3 := hA.keep X3.warmed.alike (kp3 _ _ hA.1.1)
  have hne : b ≠ s.heap.size := hA.1.ne
  have c4 : Steps p.tables e below (s₁.setTop (entryFrame m #[.ref b, .int (Int32.ofNat o), .int (Int32.ofNat len)] 6)) (T3.setTop (mkF m 3 #[.val (.ref b), .val (.int (Int32.ofNat o)), .val (.int (Int32.ofNat len)), .unset, .unset, .unset] [.ref s.heap.size])) := c2.trans (st3 _ (Steps.refl _))
  have c5 : Steps p.tables e below (s₁.setTop (entryFrame m #[.ref b, .int (Int32.ofNat o), .int (Int32.ofNat len)] 6)) (T3.setTop (mkF m 9 #[.val (.ref b), .val (.int (Int32.ofNat o)), .val (.int (Int32.ofNat len)), .val (.ref s.heap.size), .unset, .unset] [.int (Int32.ofNat len), .int 0, .ref s.heap.size, .int (Int32.ofNat o), .ref b])) := c4.trans (by
    refine XS.astoreN X3.here hexec rfl (hb hbytes d3) rfl rfl rfl ?_
    refine XS.aloadN X3.here hexec rfl (hb hbytes d4) rfl rfl ?_
    refine XS.iloadN X3.here hexec rfl (hb hbytes d5) rfl ?_
    refine XS.aloadN X3.here hexec rfl (hb hbytes d6) rfl rfl ?_
    refine iconstV X3.here hexec rfl 0 (hb hbytes d7) (by decide) ?_
    refine XS.iloadN X3.here hexec rfl (hb hbytes d8) rfl ?_
    exact Steps.refl _)
  obtain ⟨v6, T6, X6, E6, g6⟩ := X3.callS hexec (Cmp5.law l b A s.heap.size B3 o 0 len) hown (wks W (staticW U16 115 Cmp5.yN)) (wk W Cmp5.tab) (W := 0) (Nat.le_of_ble_eq_true rfl) (Nat.le_of_ble_eq_true rfl) (Nat.le_refl _) (by show 0 + len + 0 ≤ len; omega) (g := (mkF m 9 #[.val (.ref b), .val (.int (Int32.ofNat o)), .val (.int (Int32.ofNat len)), .val (.ref s.heap.size), .unset, .unset] [.int (Int32.ofNat len), .int (Int32.ofNat 0), .ref s.heap.size, .int (Int32.ofNat o), .ref b])) rfl (by rw [hml]; rfl) c5 (argsL := [.ref b, .int (Int32.ofNat o), .ref s.heap.size, .int (Int32.ofNat 0), .int (Int32.ofNat len)]) (rest := []) rfl rfl (by show 2 * 0 + 0 ≤ _; decide) (hb hbytes d9) (⟨rfl, hA3, ba3, hne, l1, by rw [bs3]; simp, hp⟩)
  obtain ⟨rfl, B6, p6, f6⟩ := E6
  have c7 : Steps p.tables e below (s₁.setTop (entryFrame m #[.ref b, .int (Int32.ofNat o), .int (Int32.ofNat len)] 6)) (T6.setTop (mkF m 12 #[.val (.ref b), .val (.int (Int32.ofNat o)), .val (.int (Int32.ofNat len)), .val (.ref s.heap.size), .unset, .unset] [.int (Int32.ofNat len)])) := g6
  have c8 : Steps p.tables e below (s₁.setTop (entryFrame m #[.ref b, .int (Int32.ofNat o), .int (Int32.ofNat len)] 6)) (T6.setTop (mkF m 58 #[.val (.ref b), .val (.int (Int32.ofNat o)), .val (.int (Int32.ofNat len)), .val (.ref s.heap.size), .val (.int (Int32.ofNat len)), .unset] [.ref s.heap.size])) := c7.trans (by
    refine XS.istore X6.here hexec rfl (hb hbytes d12) rfl rfl ?_
    refine XS.iload X6.here hexec rfl (hb hbytes d14) rfl ?_
    refine XS.iloadN X6.here hexec rfl (hb hbytes d16) rfl ?_
    refine XS.icmpYes X6.here hexec rfl (pc0 := 17) rfl (hb hbytes d17) rfl (ii_eq_t rfl) (by decide) rfl ?_
    refine XS.aloadN X6.here hexec rfl (hb hbytes d57) rfl rfl ?_
    exact Steps.refl _)
  have X8 := X6.wide (L' := []) (cells' := 1) (slots' := len) (fun x hx hlt => by
    simp only [List.nil_append, copyLocs, List.mem_map, List.mem_range] at hx
    obtain ⟨i, -, rfl⟩ := hx
    exact absurd hlt (Nat.lt_irrefl _)) (Nat.le_refl _) (by omega)
  exact ⟨T6, some (.ref s.heap.size), _, _, _, X8, rfl, rfl, rfl, (fun h => by cases h), ⟨⟨rfl, B6, ba3.like (X3.warmed.alike.symm.trans X6.warmed.alike) p6.1 f6.1 f6.2.1 f6.2.2.1, f6.2.1.trans bv3, by rw [X6.warmed.alike.findClass, f6.1]; exact bf3, by rw [f6.2.2.1, bs3]; simp, fun j hj => by rw [f6.2.2.2 j, if_pos (by omega)]; rfl, kp3.put p6 (Nat.le_refl _)⟩, by rw [p6.2.2, bh3, hh0]; simp⟩, fun fs hl => c8.trans (X8.areturnOut hexec rfl hret rfl (hb hbytes d58) hl)⟩
end Cmp3
namespace CodL
def yN : MethodName := ⟨"java/lang/StringUTF16", "coderFromArrayLen", "([BI)B"⟩
abbrev yB : ByteArray := jdk_52_method_15_code
theorem d0 : decode yB 0 = .ok (.iload_n 1, 1) := by decide +kernel
theorem d1 : decode yB 1 = .ok (.aload_n 0, 1) := by decide +kernel
theorem d2 : decode yB 2 = .ok (.arraylength, 1) := by decide +kernel
theorem d3 : decode yB 3 = .ok (.isub, 1) := by decide +kernel
theorem d4 : decode yB 4 = .ok (.bipush 31, 2) := by decide +kernel
theorem d6 : decode yB 6 = .ok (.iushr, 1) := by decide +kernel
theorem d7 : decode yB 7 = .ok (.i2b, 1) := by decide +kernel
theorem d8 : decode yB 8 = .ok (.ireturn, 1) := by decide +kernel
def site : List Cond := []
def tab : Cond := tabOf yN yB 2 (some .byte) site
def P (d : Addr) (B : Cell) (args : Array Value) (s : State) : Prop := args = #[.ref d, .int (Int32.ofNat B.slots.size)] ∧ Arr .byte d B s
def E (r : Option Value) (s u : State) : Prop := XT.PureE (some (.int 0)) r s u
/-- an array as long as the number of chars: LATIN1 -/
theorem law (l : Launch) (d : Addr) (B : Cell) : Law l yN 2 2 0 0 yB 2 (some .byte) site (P d B) E [] 0 0 := by
  refine Law.of_walk (plainFor_of_name (by decide +kernel)) (by decide +kernel) (by decide +kernel) (by decide) (fun _ _ h => by rw [h.1]; rfl) (fun _ U U' hal hh h => ⟨h.1, h.2.mv hal hh⟩) (fun r U U' V V' h1 hal h2 h => XT.PureE.mv r U U' V V' h1 hal h2 h) ?_
  intro p e s m args below meth c s₁ X0 hexec hbytes hml hret hlk hnm hown hh0 W hP
  obtain ⟨rfl, hB⟩ := hP
  have hB0 := hB.mv X0.warmed.alike hh0
  have c1 : Steps p.tables e below (s₁.setTop (entryFrame m #[.ref d, .int (Int32.ofNat B.slots.size)] 2)) (s₁.setTop (mkF m 0 #[.val (.ref d), .val (.int (Int32.ofNat B.slots.size))] [])) := entry rfl
  have c2 : Steps p.tables e below (s₁.setTop (entryFrame m #[.ref d, .int (Int32.ofNat B.slots.size)] 2)) (s₁.setTop (mkF m 2 #[.val (.ref d), .val (.int (Int32.ofNat B.slots.size))] [.ref d, .int (Int32.ofNat B.slots.size)])) := c1.trans (by
    refine XS.iloadN X0.here hexec rfl (hb hbytes d0) rfl ?_
    refine XS.aloadN X0.here hexec rfl (hb hbytes d1) rfl rfl ?_
    exact Steps.refl _)
  have c3 : Steps p.tables e below (s₁.setTop (entryFrame m #[.ref d, .int (Int32.ofNat B.slots.size)] 2)) (s₁.setTop (mkF m 8 #[.val (.ref d), .val (.int (Int32.ofNat B.slots.size))] [.int (lo8 (ushr (Int32.ofNat B.slots.size - Int32.ofNat B.slots.size) 31))])) := c2.trans (by
    refine X0.alen hexec hB0 rfl rfl (hb hbytes d2) ?_
    refine XS.isub X0.here hexec rfl (hb hbytes d3) rfl ?_
    refine bipushV X0.here hexec rfl 31 (hb hbytes d4) (by decide) ?_
    refine iushr X0.here hexec rfl (hb hbytes d6) rfl ?_
    refine i2b X0.here hexec rfl (hb hbytes d7) rfl ?_
    exact Steps.refl _)
  have e0 : lo8 (ushr (Int32.ofNat B.slots.size - Int32.ofNat B.slots.size) 31) = 0 := by rw [Int32.sub_self]; decide
  rw [e0] at c3
  exact ⟨s₁, some (.int 0), _, _, _, X0, rfl, rfl, rfl, (fun h => by cases h), ⟨rfl, hh0⟩, fun fs hl => c3.trans (X0.ireturnOut hexec hret rfl (Or.inr (Or.inr (Or.inl rfl))) (hb hbytes d8) hl)⟩
end CodL
/-- the String at a is Latin-1 over a new byte[] (the heap's one new cell): the low bytes of the len chars of A from o on; every cell but a is kept -/
def Got (a : Addr) (D : Cell) (fV fC : Field) (A : Cell) (o len : Nat) (r : Option Value) (s u : State) : Prop := r = none ∧ ∃ D' V : Cell, Blank "java/lang/String" a D' u ∧ Same D D' [fV.slot, fC.slot] ∧ D'.slots[fV.slot]? = some (.ref s.heap.size) ∧ D'.slots[fC.slot]? = some (.int 0) ∧ Arr .byte s.heap.size V u ∧ V.vm = .none ∧ u.vm.findClass "[B" = some V.cls ∧ V.slots.size = len ∧ (∀ j, j < len → V.slots[j]? = some (.int (lo8 (cv A (o + j))))) ∧ (∀ (y : Addr) (c : Cell), y ≠ a → s.heap[y]? = some c → u.heap[y]? = some c) ∧ u.heap.size = s.heap.size + 1
theorem Got.mv {a : Addr} {D A : Cell} {fV fC : Field} {o len : Nat} : ∀ r (U U' V V' : State), U'.heap = U.heap → V.vm.Alike V'.vm → V'.heap = V.heap → Got a D fV fC A o len r U V → Got a D fV fC A o len r U' V' :=
  fun r U U' V V' h1 hal h2 ⟨e0, D', X, a1, a2, a3, a4, a5, a6, a7, a8, a9, a10, a11⟩ => ⟨e0, D', X, a1.mv hal h2, a2, by rw [h1]; exact a3, a4, by rw [h1]; exact a5.mv hal h2, a6, by rw [hal.findClass]; exact a7, a8, a9, by rw [h1, h2]; exact a10, by rw [h1, h2]; exact a11⟩
namespace New4
def yN : MethodName := ⟨"java/lang/String", "<init>", "([CIILjava/lang/Void;)V"⟩
abbrev yB : ByteArray := jdk_42_method_149_code
theorem d0 : decode yB 0 = .ok (.aload_n 0, 1) := by decide +kernel
theorem d1 : decode yB 1 = .ok (.invokespecial 1, 3) := by decide +kernel
theorem d4 : decode yB 4 = .ok (.iload_n 3, 1) := by decide +kernel
theorem d5 : decode yB 5 = .ok (.ifCond (.ne) 22, 3) := by decide +kernel
theorem d27 : decode yB 27 = .ok (.getstatic 38, 3) := by decide +kernel
theorem d30 : decode yB 30 = .ok (.ifCond (.eq) 28, 3) := by decide +kernel
theorem d33 : decode yB 33 = .ok (.aload_n 1, 1) := by decide +kernel
theorem d34 : decode yB 34 = .ok (.iload_n 2, 1) := by decide +kernel
theorem d35 : decode yB 35 = .ok (.iload_n 3, 1) := by decide +kernel
theorem d36 : decode yB 36 = .ok (.invokestatic 177, 3) := by decide +kernel
theorem d39 : decode yB 39 = .ok (.astore 5, 2) := by decide +kernel
theorem d41 : decode yB 41 = .ok (.aload_n 0, 1) := by decide +kernel
theorem d42 : decode yB 42 = .ok (.aload 5, 2) := by decide +kernel
theorem d44 : decode yB 44 = .ok (.iload_n 3, 1) := by decide +kernel
theorem d45 : decode yB 45 = .ok (.invokestatic 47, 3) := by decide +kernel
theorem d48 : decode yB 48 = .ok (.putfield 15, 3) := by decide +kernel
theorem d51 : decode yB 51 = .ok (.aload_n 0, 1) := by decide +kernel
theorem d52 : decode yB 52 = .ok (.aload 5, 2) := by decide +kernel
theorem d54 : decode yB 54 = .ok (.putfield 9, 3) := by decide +kernel
theorem d57 : decode yB 57 = .ok (.return_, 1) := by decide +kernel
def site : List Cond := [.fieldLink "java/lang/String" 38 "java/lang/String" "COMPACT_STRINGS" "Z", Cmp3.tab, CodL.tab, .laysFinal "java/lang/String" "java/lang/String" "value" "[B", .fieldLink "java/lang/String" 9 "java/lang/String" "value" "[B", .laysFinal "java/lang/String" "java/lang/String" "coder" "B", .fieldLink "java/lang/String" 15 "java/lang/String" "coder" "B"] ++ objW "java/lang/String" 1 ++ staticW "java/lang/String" 177 Cmp3.yN ++ staticW "java/lang/String" 47 CodL.yN
def tab : Cond := tabOf yN yB 6 none site
def P (a : Addr) (D : Cell) (fV fC : Field) (b : Addr) (A : Cell) (z : Int32) (o len : Nat) (args : Array Value) (s : State) : Prop := args = #[.ref a, .ref b, .int (Int32.ofNat o), .int (Int32.ofNat len), .null] ∧ Blank "java/lang/String" a D s ∧ Found "java/lang/String" "value" "[B" fV s ∧ Found "java/lang/String" "coder" "B" fC s ∧ Ch b A s ∧ StaticIs s "java/lang/String" "COMPACT_STRINGS" "Z" (.int z) ∧ ¬ z = 0 ∧ 0 < len ∧ o + len ≤ A.slots.size ∧ len ≤ 536870912 ∧ ∀ i, i < len → ¬ 255 < cv A (o + i)
def E (a : Addr) (D : Cell) (fV fC : Field) (A : Cell) (o len : Nat) (r : Option Value) (s u : State) : Prop := Got a D fV fC A o len r s u
/-- len > 0, no char of the range above 255: a Latin-1 String of their low bytes -/
theorem law (l : Launch) (a : Addr) (D : Cell) (fV fC : Field) (b : Addr) (A : Cell) (z : Int32) (o len : Nat) : Law l yN 5 4 2 35 yB 6 none site (P a D fV fC b A z o len) (E a D fV fC A o len) [⟨a, fC.slot⟩, ⟨a, fV.slot⟩] 1 len := by
  refine Law.of_walk (plainFor_of_name (by decide +kernel)) (by decide +kernel) (by decide +kernel) (by decide) (fun _ _ h => by rw [h.1]; rfl) (fun _ U U' hal hh h => ⟨h.1, h.2.1.mv hal hh, h.2.2.1.al hal, h.2.2.2.1.al hal, h.2.2.2.2.1.mv hal hh, h.2.2.2.2.2.1.there hal hh, h.2.2.2.2.2.2⟩) (fun r U U' V V' h1 hal h2 h => Got.mv r U U' V V' h1 hal h2 h) ?_
  intro p e s m args below meth c s₁ X0 hexec hbytes hml hret hlk hnm hown hh0 W hP
  obtain ⟨rfl, hB, f1, f2, hA, s1, hz, l0, l1, l2, hp⟩ := hP
  have a31 := hA.1.2.2.2
  have c1 : Steps p.tables e below (s₁.setTop (entryFrame m #[.ref a, .ref b, .int (Int32.ofNat o), .int (Int32.ofNat len), .null] 6)) (s₁.setTop (mkF m 0 #[.val (.ref a), .val (.ref b), .val (.int (Int32.ofNat o)), .val (.int (Int32.ofNat len)), .val .null, .unset] [])) := entry rfl
  have c2 : Steps p.tables e below (s₁.setTop (entryFrame m #[.ref a, .ref b, .int (Int32.ofNat o), .int (Int32.ofNat len), .null] 6)) (s₁.setTop (mkF m 1 #[.val (.ref a), .val (.ref b), .val (.int (Int32.ofNat o)), .val (.int (Int32.ofNat len)), .val .null, .unset] [.ref a])) := c1.trans (by
    refine XS.aloadN X0.here hexec rfl (hb hbytes d0) rfl rfl ?_
    exact Steps.refl _)
  obtain ⟨T3, X3, q3, st3⟩ := X0.oinit hexec hown (wks W (objW "java/lang/String" 1)) (g := (mkF m 1 #[.val (.ref a), .val (.ref b), .val (.int (Int32.ofNat o)), .val (.int (Int32.ofNat len)), .val .null, .unset] [.ref a])) rfl (by rw [hml]; rfl) (rest := []) rfl (hb hbytes d1) (W := 0) (by show 2 * 0 + 0 ≤ _; decide) (Nat.le_of_ble_eq_true rfl) (Nat.le_of_ble_eq_true rfl)
  have hh3 := q3.trans hh0
  have c4 : Steps p.tables e below (s₁.setTop (entryFrame m #[.ref a, .ref b, .int (Int32.ofNat o), .int (Int32.ofNat len), .null] 6)) (T3.setTop (mkF m 27 #[.val (.ref a), .val (.ref b), .val (.int (Int32.ofNat o)), .val (.int (Int32.ofNat len)), .val .null, .unset] [])) := (c2.trans (st3 _ (Steps.refl _))).trans (by
    refine XS.iloadN X3.here hexec rfl (hb hbytes d4) rfl ?_
    refine XS.ifYes X3.here hexec rfl (pc0 := 5) rfl (hb hbytes d5) rfl (i0_ne_t (nz32 (by omega) l0)) (by decide) rfl ?_
    exact Steps.refl _)
  obtain ⟨T5, X5, q5, st5⟩ := X3.sget hexec hown (wk W (.fieldLink "java/lang/String" 38 "java/lang/String" "COMPACT_STRINGS" "Z")) s1 (fun _ _ h => by rw [hh3]; exact h) (g := (mkF m 27 #[.val (.ref a), .val (.ref b), .val (.int (Int32.ofNat o)), .val (.int (Int32.ofNat len)), .val .null, .unset] [])) rfl (hb hbytes d27)
  have hh5 := q5.trans hh3
  have c6 : Steps p.tables e below (s₁.setTop (entryFrame m #[.ref a, .ref b, .int (Int32.ofNat o), .int (Int32.ofNat len), .null] 6)) (T5.setTop (mkF m 30 #[.val (.ref a), .val (.ref b), .val (.int (Int32.ofNat o)), .val (.int (Int32.ofNat len)), .val .null, .unset] [.int z])) := c4.trans (st5 _ (Steps.refl _))
  have c7 : Steps p.tables e below (s₁.setTop (entryFrame m #[.ref a, .ref b, .int (Int32.ofNat o), .int (Int32.ofNat len), .null] 6)) (T5.setTop (mkF m 36 #[.val (.ref a), .val (.ref b), .val (.int (Int32.ofNat o)), .val (.int (Int32.ofNat len)), .val .null, .unset] [.int (Int32.ofNat len), .int (Int32.ofNat o), .ref b])) := c6.trans (by
    refine XS.ifNo X5.here hexec rfl (hb hbytes d30) rfl (i0_eq_f hz) ?_
    refine XS.aloadN X5.here hexec rfl (hb hbytes d33) rfl rfl ?_
    refine XS.iloadN X5.here hexec rfl (hb hbytes d34) rfl ?_
    refine XS.iloadN X5.here hexec rfl (hb hbytes d35) rfl ?_
    exact Steps.refl _)
  obtain ⟨v8, T8, X8, E8, g8⟩ := X5.callS hexec (Cmp3.law l b A o len) hown (wks W (staticW "java/lang/String" 177 Cmp3.yN)) (wk W Cmp3.tab) (W := 0) (Nat.le_of_ble_eq_true rfl) (Nat.le_of_ble_eq_true rfl) (Nat.le_refl _) (by show 0 + len ≤ len; omega) (g := (mkF m 36 #[.val (.ref a), .val (.ref b), .val (.int (Int32.ofNat o)), .val (.int (Int32.ofNat len)), .val .null, .unset] [.int (Int32.ofNat len), .int (Int32.ofNat o), .ref b])) rfl (by rw [hml]; rfl) c7 (argsL := [.ref b, .int (Int32.ofNat o), .int (Int32.ofNat len)]) (rest := []) rfl rfl (by show 2 * 0 + 0 ≤ _; decide) (hb hbytes d36) (⟨rfl, hA.mv X5.warmed.alike hh5, l1, l2, hp⟩)
  obtain ⟨e8, z8⟩ := E8
  obtain ⟨rfl, N, n1, n2, n3, n4, n5, n6⟩ := NewArr.mv _ T5 s _ _ hh5.symm (Vm.Alike.refl _) rfl e8
  rw [hh5] at z8
  have hB1 := hB.keep X8.warmed.alike (n6 _ _ hB.1)
  have hne : s.heap.size ≠ a := (Nat.ne_of_lt (Array.getElem?_eq_some_iff.mp hB.1).1).symm
  have c9 : Steps p.tables e below (s₁.setTop (entryFrame m #[.ref a, .ref b, .int (Int32.ofNat o), .int (Int32.ofNat len), .null] 6)) (T8.setTop (mkF m 39 #[.val (.ref a), .val (.ref b), .val (.int (Int32.ofNat o)), .val (.int (Int32.ofNat len)), .val .null, .unset] [.ref s.heap.size])) := g8
  have c10 : Steps p.tables e below (s₁.setTop (entryFrame m #[.ref a, .ref b, .int (Int32.ofNat o), .int (Int32.ofNat len), .null] 6)) (T8.setTop (mkF m 45 #[.val (.ref a), .val (.ref b), .val (.int (Int32.ofNat o)), .val (.int (Int32.ofNat len)), .val .null, .val (.ref s.heap.size)] [.int (Int32.ofNat N.slots.size), .ref s.heap.size, .ref a])) := by
    have hc : Steps p.tables e below (s₁.setTop (entryFrame m #[.ref a, .ref b, .int (Int32.ofNat o), .int (Int32.ofNat len), .null] 6)) (T8.setTop (mkF m 45 #[.val (.ref a), .val (.ref b), .val (.int (Int32.ofNat o)), .val (.int (Int32.ofNat len)), .val .null, .val (.ref s.heap.size)] [.int (Int32.ofNat len), .ref s.heap.size, .ref a])) := c9.trans (by
      refine XS.astore X8.here hexec rfl (hb hbytes d39) rfl rfl rfl ?_
      refine XS.aloadN X8.here hexec rfl (hb hbytes d41) rfl rfl ?_
      refine XS.aload X8.here hexec rfl (hb hbytes d42) rfl rfl ?_
      refine XS.iloadN X8.here hexec rfl (hb hbytes d44) rfl ?_
      exact Steps.refl _)
    rw [n4]; exact hc
  obtain ⟨v11, T11, X11, E11, g11⟩ := X8.callS hexec (CodL.law l s.heap.size N) hown (wks W (staticW "java/lang/String" 47 CodL.yN)) (wk W CodL.tab) (W := 1) (Nat.le_of_ble_eq_true rfl) (Nat.le_of_ble_eq_true rfl) (Nat.le_refl _) (by show 0 + len + 0 ≤ len; omega) (g := (mkF m 45 #[.val (.ref a), .val (.ref b), .val (.int (Int32.ofNat o)), .val (.int (Int32.ofNat len)), .val .null, .val (.ref s.heap.size)] [.int (Int32.ofNat N.slots.size), .ref s.heap.size, .ref a])) rfl (by rw [hml]; rfl) c10 (argsL := [.ref s.heap.size, .int (Int32.ofNat N.slots.size)]) (rest := [.ref a]) rfl rfl (by show 2 * 0 + (1 + 0) ≤ _; decide) (hb hbytes d45) (⟨rfl, n1⟩)
  obtain ⟨rfl, q11⟩ := E11
  have hB11 := hB1.mv (X8.warmed.alike.symm.trans X11.warmed.alike) q11
  have c12 : Steps p.tables e below (s₁.setTop (entryFrame m #[.ref a, .ref b, .int (Int32.ofNat o), .int (Int32.ofNat len), .null] 6)) (T11.setTop (mkF m 48 #[.val (.ref a), .val (.ref b), .val (.int (Int32.ofNat o)), .val (.int (Int32.ofNat len)), .val .null, .val (.ref s.heap.size)] [.int 0, .ref a])) := g11
  obtain ⟨T13, X13, p13, bl13, sl13, st13⟩ := X11.finit hexec hown (wk W (.fieldLink "java/lang/String" 15 "java/lang/String" "coder" "B")) (Or.inr ⟨_, (wk W (.laysFinal "java/lang/String" "java/lang/String" "coder" "B"))⟩) (Or.inl ⟨rfl, hnm⟩) f2 (Or.inl rfl) hB11 (t := .byte) (by decide +kernel) rfl (g := (mkF m 48 #[.val (.ref a), .val (.ref b), .val (.int (Int32.ofNat o)), .val (.int (Int32.ofNat len)), .val .null, .val (.ref s.heap.size)] [.int 0, .ref a])) rfl (rest := []) rfl (hb hbytes d48)
  have c14 : Steps p.tables e below (s₁.setTop (entryFrame m #[.ref a, .ref b, .int (Int32.ofNat o), .int (Int32.ofNat len), .null] 6)) (T13.setTop (mkF m 54 #[.val (.ref a), .val (.ref b), .val (.int (Int32.ofNat o)), .val (.int (Int32.ofNat len)), .val .null, .val (.ref s.heap.size)] [.ref s.heap.size, .ref a])) := (c12.trans (st13 _ (Steps.refl _))).trans (by
    refine XS.aloadN X13.here hexec rfl (hb hbytes d51) rfl rfl ?_
    refine XS.aload X13.here hexec rfl (hb hbytes d52) rfl rfl ?_
    exact Steps.refl _)
  obtain ⟨T15, X15, p15, bl15, sl15, st15⟩ := X13.finit hexec hown (wk W (.fieldLink "java/lang/String" 9 "java/lang/String" "value" "[B")) (Or.inr ⟨_, (wk W (.laysFinal "java/lang/String" "java/lang/String" "value" "[B"))⟩) (Or.inl ⟨rfl, hnm⟩) f1 (Or.inl rfl) bl13 (t := (.array .byte)) (by decide +kernel) rfl (g := (mkF m 54 #[.val (.ref a), .val (.ref b), .val (.int (Int32.ofNat o)), .val (.int (Int32.ofNat len)), .val .null, .val (.ref s.heap.size)] [.ref s.heap.size, .ref a])) rfl (rest := []) rfl (hb hbytes d54)
  have c16 : Steps p.tables e below (s₁.setTop (entryFrame m #[.ref a, .ref b, .int (Int32.ofNat o), .int (Int32.ofNat len), .null] 6)) (T15.setTop (mkF m 57 #[.val (.ref a), .val (.ref b), .val (.int (Int32.ofNat o)), .val (.int (Int32.ofNat len)), .val .null, .val (.ref s.heap.size)] [])) := c14.trans (st15 _ (Steps.refl _))
  have ap := apart (Or.inr ⟨_, (wk W (.laysFinal "java/lang/String" "java/lang/String" "value" "[B"))⟩) (Or.inr ⟨_, (wk W (.laysFinal "java/lang/String" "java/lang/String" "coder" "B"))⟩) f1 f2 (t₁ := .array .byte) (t₂ := .byte) (by decide +kernel) (by decide +kernel) (by decide)
  have al := X8.warmed.alike.symm.trans X15.warmed.alike
  have n7 : T11.heap[s.heap.size]? = some N := by rw [q11]; exact n1.1
  exact ⟨T15, none, _, _, _, X15, by simp, rfl, by omega, (fun _ => rfl), ⟨rfl, _, N, bl15, ((Same.refl D _).set _ (by simp)).set _ (by simp), sl15, (Cell.slots_setSlot_ne _ ap).trans sl13, n1.keep al (p15.other hne (p13.other hne n7)), n2, by rw [al.findClass]; exact n3, n4, n5, fun y c h1 h2 => p15.other h1 (p13.other h1 (by rw [q11]; exact n6 y c h2)), by rw [p15.2.2, p13.2.2, q11]; exact z8⟩, fun fs hl => c16.trans (X15.returnOut hexec hret (hb hbytes d57) hl)⟩
end New4
namespace New1
def yN : MethodName := ⟨"java/lang/String", "<init>", "([C)V"⟩
abbrev yB : ByteArray := jdk_42_method_3_code
theorem d0 : decode yB 0 = .ok (.aload_n 0, 1) := by decide +kernel
theorem d1 : decode yB 1 = .ok (.aload_n 1, 1) := by decide +kernel
theorem d2 : decode yB 2 = .ok (.iconst 0, 1) := by decide +kernel
theorem d3 : decode yB 3 = .ok (.aload_n 1, 1) := by decide +kernel
theorem d4 : decode yB 4 = .ok (.arraylength, 1) := by decide +kernel
theorem d5 : decode yB 5 = .ok (.aconst_null, 1) := by decide +kernel
theorem d6 : decode yB 6 = .ok (.invokespecial 27, 3) := by decide +kernel
theorem d9 : decode yB 9 = .ok (.return_, 1) := by decide +kernel
def site : List Cond := [New4.tab] ++ initW "java/lang/String" 27 New4.yN
def tab : Cond := tabOf yN yB 2 none site
def P (a : Addr) (D : Cell) (fV fC : Field) (b : Addr) (A : Cell) (z : Int32) (args : Array Value) (s : State) : Prop := args = #[.ref a, .ref b] ∧ Blank "java/lang/String" a D s ∧ Found "java/lang/String" "value" "[B" fV s ∧ Found "java/lang/String" "coder" "B" fC s ∧ Ch b A s ∧ StaticIs s "java/lang/String" "COMPACT_STRINGS" "Z" (.int z) ∧ ¬ z = 0 ∧ 0 < A.slots.size ∧ A.slots.size ≤ 536870912 ∧ ∀ i, i < A.slots.size → ¬ 255 < cv A i
def E (a : Addr) (D : Cell) (fV fC : Field) (A : Cell) (r : Option Value) (s u : State) : Prop := Got a D fV fC A 0 A.slots.size r s u
/-- new String(chars), not empty, no char above 255: a Latin-1 String of their low bytes -/
theorem law (l : Launch) (a : Addr) (D : Cell) (fV fC : Field) (b : Addr) (A : Cell) (z : Int32) : Law l yN 2 1 3 52 yB 2 none site (P a D fV fC b A z) (E a D fV fC A) [⟨a, fC.slot⟩, ⟨a, fV.slot⟩] 1 A.slots.size := by
  refine Law.of_walk (plainFor_of_name (by decide +kernel)) (by decide +kernel) (by decide +kernel) (by decide) (fun _ _ h => by rw [h.1]; rfl) (fun _ U U' hal hh h => ⟨h.1, h.2.1.mv hal hh, h.2.2.1.al hal, h.2.2.2.1.al hal, h.2.2.2.2.1.mv hal hh, h.2.2.2.2.2.1.there hal hh, h.2.2.2.2.2.2⟩) (fun r U U' V V' h1 hal h2 h => Got.mv r U U' V V' h1 hal h2 h) ?_
  intro p e s m args below meth c s₁ X0 hexec hbytes hml hret hlk hnm hown hh0 W hP
  obtain ⟨rfl, hB, f1, f2, hA, s1, hz, l0, l2, hp⟩ := hP
  have c1 : Steps p.tables e below (s₁.setTop (entryFrame m #[.ref a, .ref b] 2)) (s₁.setTop (mkF m 0 #[.val (.ref a), .val (.ref b)] [])) := entry rfl
  have c2 : Steps p.tables e below (s₁.setTop (entryFrame m #[.ref a, .ref b] 2)) (s₁.setTop (mkF m 6 #[.val (.ref a), .val (.ref b)] [.null, .int (Int32.ofNat A.slots.size), .int 0, .ref b, .ref a])) := c1.trans (by
    refine XS.aloadN X0.here hexec rfl (hb hbytes d0) rfl rfl ?_
    refine XS.aloadN X0.here hexec rfl (hb hbytes d1) rfl rfl ?_
    refine iconstV X0.here hexec rfl 0 (hb hbytes d2) (by decide) ?_
    refine XS.aloadN X0.here hexec rfl (hb hbytes d3) rfl rfl ?_
    refine X0.alen hexec (hA.1.mv X0.warmed.alike hh0) rfl rfl (hb hbytes d4) ?_
    refine XS.aconstNull X0.here hexec rfl (hb hbytes d5) ?_
    exact Steps.refl _)
  obtain ⟨v3, T3, X3, E3, g3⟩ := X0.callN hexec (New4.law l a D fV fC b A z 0 A.slots.size) rfl hown (wks W (initW "java/lang/String" 27 New4.yN)) (W New4.tab (by simp only [site, List.mem_cons, List.mem_append, true_or, or_true])) (W := 0) (Nat.le_of_ble_eq_true rfl) (Nat.le_of_ble_eq_true rfl) (Nat.le_refl _) (by show 0 + A.slots.size ≤ A.slots.size; omega) (g := (mkF m 6 #[.val (.ref a), .val (.ref b)] [.null, .int (Int32.ofNat A.slots.size), .int (Int32.ofNat 0), .ref b, .ref a])) rfl (by rw [hml]; rfl) c2 (argsL := [.ref b, .int (Int32.ofNat 0), .int (Int32.ofNat A.slots.size), .null]) (rest := []) rfl rfl (by show 2 * 0 + 0 ≤ _; decide) (hb hbytes d6) (⟨rfl, hB.mv X0.warmed.alike hh0, f1.al X0.warmed.alike, f2.al X0.warmed.alike, hA.mv X0.warmed.alike hh0, s1.there X0.warmed.alike hh0, hz, l0, by omega, l2, fun i hi => by rw [Nat.zero_add]; exact hp i hi⟩)
  have e0 := Got.mv _ s₁ s _ _ hh0.symm (Vm.Alike.refl _) rfl E3
  obtain rfl := e0.1
  have c4 : Steps p.tables e below (s₁.setTop (entryFrame m #[.ref a, .ref b] 2)) (T3.setTop (mkF m 9 #[.val (.ref a), .val (.ref b)] [])) := g3
  exact ⟨T3, none, _, _, _, X3, by simp, rfl, by omega, (fun _ => rfl), e0, fun fs hl => c4.trans (X3.returnOut hexec hret (hb hbytes d9) hl)⟩
theorem pays {l : Launch} {R : Room} {p : Program} {e : Env} {below : List Frame} {s : State} {sargs : Array Value} {len W : Nat} (a : Addr) (D : Cell) (fV fC : Field) (b : Addr) (A : Cell) (z : Int32) (htab : tab.before sargs s = true) (hfr : 4 ≤ R.frames) (hlo : W + 65 ≤ R.locals) :
    Back l R p e below s sargs yN len W (fun A₁ a₁ => A₁.cells + 1 ≤ R.cells ∧ A₁.slots + A.slots.size ≤ R.slots ∧ P a D fV fC b A z a₁ A₁.U) (fun A₁ _ v₁ B₁ => E a D fV fC A v₁ A₁.U B₁.U ∧ B₁.locs = A₁.locs ++ [⟨a, fC.slot⟩, ⟨a, fV.slot⟩] ∧ B₁.cells = A₁.cells + 1 ∧ B₁.slots = A₁.slots + A.slots.size) :=
  (law l a D fV fC b A z).pays htab hfr (by omega)
end New1
end StrChars
namespace StrChars.Road
open Jvm Sem ClassFile Op Lib Jvm.Stand Jvm.Free Jvm.Free.XT
open Jvm.Lib.Cold (StaticIs)
abbrev ST : String := "java/lang/String"
/-- every table word that New1's law asks, flat -/
abbrev words : List Jvm.Cond := [.code New1.yN New1.yB 2 none, .initialized ST, .methodLink ST 27 New4.yN, .instanceMethod New4.yN,
  .code New4.yN New4.yB 6 none, .fieldLink ST 38 ST "COMPACT_STRINGS" "Z", .laysFinal ST ST "value" "[B", .fieldLink ST 9 ST "value" "[B", .laysFinal ST ST "coder" "B", .fieldLink ST 15 ST "coder" "B",
  .methodLink ST 1 Lib.objectInit, .instanceMethod Lib.objectInit, .code Lib.objectInit ⟨#[0xb1]⟩ 1 none, .methodLink ST 177 Cmp3.yN, .static Cmp3.yN, .methodLink ST 47 CodL.yN, .static CodL.yN,
  .code Cmp3.yN Cmp3.yB 6 (some (.array .byte)), .initialized U16, .arrayClass .byte, .methodLink U16 115 Cmp5.yN, .static Cmp5.yN, .code Cmp5.yN Cmp5.yB 7 (some .int), .code CodL.yN CodL.yB 2 (some .byte)]
theorem tab_of {a : Array Value} {s : State} (h : ∀ w ∈ words, w.before a s = true) : New1.tab.before a s = true := by
  have h5 : Cmp5.tab.before a s = true := unparts (wk h (.code Cmp5.yN Cmp5.yB 7 (some .int))) (wks h (.initialized Cmp5.yN.cls :: Cmp5.site))
  have hc : CodL.tab.before a s = true := unparts (wk h (.code CodL.yN CodL.yB 2 (some .byte))) (wks h (.initialized CodL.yN.cls :: CodL.site))
  have q5 : ∀ w ∈ Cmp5.tab :: words, w.before a s = true := fun w hw => (List.mem_cons.mp hw).elim (fun e => e ▸ h5) (h w)
  have h3 : Cmp3.tab.before a s = true := unparts (wk q5 (.code Cmp3.yN Cmp3.yB 6 (some (.array .byte)))) (wks q5 (.initialized Cmp3.yN.cls :: Cmp3.site))
  have q3 : ∀ w ∈ Cmp3.tab :: CodL.tab :: words, w.before a s = true := fun w hw => (List.mem_cons.mp hw).elim (fun e => e ▸ h3) fun hw => (List.mem_cons.mp hw).elim (fun e => e ▸ hc) (h w)
  have h4 : New4.tab.before a s = true := unparts (wk q3 (.code New4.yN New4.yB 6 none)) (wks q3 (.initialized New4.yN.cls :: New4.site))
  have q4 : ∀ w ∈ New4.tab :: words, w.before a s = true := fun w hw => (List.mem_cons.mp hw).elim (fun e => e ▸ h4) (h w)
  exact unparts (wk q4 (.code New1.yN New1.yB 2 none)) (wks q4 (.initialized New1.yN.cls :: New1.site))
/-- the words ride from the start Z to the walk's own state -/
theorem moved {Z s : State} {a0 args : Array Value} (hZ : Z.Warmed39 s.vm) (hw : ∀ d ∈ words, d.before a0 Z = true) : ∀ d ∈ words, d.before args s = true := fun d hd => by
  have q := hw d hd
  have t : ∀ d ∈ words, d = .arrayClass .byte ∨ (d.onTables && d.keepsFace) = true := by decide +kernel
  rcases t d hd with rfl | t
  · exact RoadKit.mvA hZ q
  · exact RoadKit.mv hZ q t
/-- WHAT COMES BACK, over the tables of the start Z: h the heap at the call, h' behind it -/
def Q (Z : State) (x : Addr) (A : Cell) (h : Heap) (v : Option Value) (h' : Heap) (L : List Loc) : Prop := v = none ∧ (∀ y ∈ L, y.base = x) ∧ RoadKit.Keep h h' [x] ∧ h'.size = h.size + 1 ∧ RoadKit.Exa Z h' x ST ∧ RoadKit.Fld Z h' x ST "value" "[B" (.ref h.size) ∧ RoadKit.Fld Z h' x ST "coder" "B" (.int 0) ∧
  (∃ V : Cell, RoadKit.Arr Z h' h.size V .byte ∧ V.vm = .none ∧ Z.vm.findClass "[B" = some V.cls ∧ V.slots.size = A.slots.size ∧ ∀ j, j < A.slots.size → V.slots[j]? = some (.int (lo8 (cv A j)))) ∧
  ∀ (O n d : String) (w : Value), RoadKit.Fld Z h x O n d w → RoadKit.slotOf Z O n d ≠ RoadKit.slotOf Z ST "value" "[B" → RoadKit.slotOf Z O n d ≠ RoadKit.slotOf Z ST "coder" "B" → RoadKit.Fld Z h' x O n d w
/-- **new String(chars) AT A CALL, IN THE ROAD'S FORM**: for specialBack behind newO: x the fresh String, b the char[] with the cell A -/
theorem back {p : Program} {l : Launch} {e : Env} {R : Room} {s : State} {args : Array Value} {below : List Frame} {len W : Nat} {Z : State} {a0 : Array Value} {h : Heap} (hZ : Z.Warmed39 s.vm) (hw : ∀ d ∈ words, d.before a0 Z = true) {kI : Nat} (wi : (Jvm.Cond.instantiable ST kI).before a0 Z = true)
    {x b : Addr} {A : Cell} {z : Int32} {v0 c0 : Value} (E : RoadKit.Exa Z h x ST) (V : RoadKit.Fld Z h x ST "value" "[B" v0) (C : RoadKit.Fld Z h x ST "coder" "B" c0) (K : RoadKit.Arr Z h b A .char) (hty : Typed .char A) (S : RoadKit.Sta Z h ST "COMPACT_STRINGS" "Z" (.int z)) (hz : ¬ z = 0)
    (l0 : 0 < A.slots.size) (l2 : A.slots.size ≤ 536870912) (hp : ∀ i, i < A.slots.size → ¬ 255 < cv A i) (hfr : 4 ≤ R.frames) (hlo : W + 65 ≤ R.locals) :
    Back l R p e below s args New1.yN len W (fun P a => a = #[.ref x, .ref b] ∧ P.U.heap = h ∧ P.cells + 1 ≤ R.cells ∧ P.slots + A.slots.size ≤ R.slots)
      (fun P _ v B => ∃ L, Q Z x A h v B.U.heap L ∧ B.locs = P.locs ++ L ∧ B.cells = P.cells + 1 ∧ B.slots = P.slots + A.slots.size) := by
  intro m meth c P g ig mk a X hg hsize hdg hW hn hp'
  obtain ⟨rfl, rfl, r1, r2⟩ := hp'
  have al : Z.vm.Alike P.U.vm := hZ.alike.trans X.warmed.alike
  obtain ⟨D, cfV, kV, iV, fV, hD, gV, stV, knV, obV, asV, slV⟩ := id V
  obtain ⟨D', cfC, kC, iC, fC, hD', gC, stC, -, -, asC, slC⟩ := id C
  cases hD.symm.trans hD'
  obtain ⟨D2, kD, e1, e2, e3, e4, e5⟩ := id E
  cases hD.symm.trans e1
  obtain ⟨c2, k2, i1, i2, i3, -⟩ := Cond.instantiable_spec wi
  cases e2.symm.trans i1
  cases e3.symm.trans i2
  obtain ⟨kU, u1, u2⟩ := al.2.2 _ _ e3
  have hB : Blank ST x D P.U := ⟨hD, ⟨knV, fun q hq => by rw [hq] at obV; cases obV⟩, by rw [al.findClass]; exact e2, kU, u1, by rw [u2]; exact i3, by rw [u2]; exact e5 i3⟩
  have F1 : Found ST "value" "[B" fV P.U := ⟨SBG.found_only al ⟨cfV, kV, iV, gV⟩, stV⟩
  have F2 : Found ST "coder" "B" fC P.U := ⟨SBG.found_only al ⟨cfC, kC, iC, gC⟩, stC⟩
  have hA : Ch b A P.U := ⟨⟨K.1, State.isArrayOf_alike al K.2.1, K.2.2, by omega⟩, hty⟩
  have hS : StaticIs P.U ST "COMPACT_STRINGS" "Z" (.int z) := by
    obtain ⟨cfS, iS, kS, fS, st, cS, t1, t2, t3, t4, t5, t6, t7⟩ := S
    exact StaticIs.there (s := { Z with heap := P.U.heap }) ⟨cfS, iS, kS, fS, st, cS, t1, t2, t3, t4, t5, (fun q => by rw [q] at t6; cases t6), t7⟩ al rfl
  obtain ⟨v, B, X', ⟨⟨hv, E', V', q1, q2, q3, q4, q5, q6, q7, q8, q9, q10, q11⟩, hl, hc, hs⟩, st⟩ := New1.pays x D fV fC b A z (tab_of (moved hZ hw)) hfr hlo m meth c P g ig mk _ X hg hsize hdg hW hn ⟨r1, r2, rfl, hB, F1, F2, hA, hS, hz, l0, l2, hp⟩
  have al' : Z.vm.Alike B.U.vm := hZ.alike.trans X'.warmed.alike
  have hsz : E'.slots.size = D.slots.size := by
    obtain ⟨-, -, -, kB, w1, w2, w3⟩ := q1
    obtain ⟨kB', y1, y2⟩ := al'.2.2 _ _ e3
    rw [q2.2.1] at w1
    cases w1.symm.trans y1
    rw [w3, e5 i3, y2]
  refine ⟨v, B, X', ⟨_, ⟨hv, ?_, ⟨by omega, fun y cy hy hn' => q10 y cy (by simpa using hn') hy, fun y cy hy => ?_⟩, q11, ⟨E', _, q1.1, by rw [q2.2.1]; exact e2, by rw [q2.2.1]; exact e3, by rw [q2.1]; exact obV, fun _ => by rw [hsz]; exact e5 i3⟩,
    ⟨E', cfV, kV, iV, fV, q1.1, gV, stV, by rw [q2.1]; exact knV, by rw [q2.1]; exact obV, by rw [q2.2.1]; exact asV, q3⟩, ⟨E', cfC, kC, iC, fC, q1.1, gC, stC, by rw [q2.1]; exact knV, by rw [q2.1]; exact obV, by rw [q2.2.1]; exact asC, q4⟩,
    ⟨V', ⟨q5.1, State.isArrayOf_alike al'.symm q5.2.1, q5.2.2.1⟩, q6, by rw [← al'.findClass]; exact q7, q8, fun j hj => by have := q9 j hj; rwa [Nat.zero_add] at this⟩, fun O n d w F n1 n2 => ?_⟩, hl, hc, hs⟩, st⟩
  · intro y hy
    simp only [List.mem_cons, List.not_mem_nil, or_false] at hy
    rcases hy with rfl | rfl <;> rfl
  · by_cases q : y = x
    · subst q
      cases hD.symm.trans hy
      exact ⟨E', q1.1, q2.2.1, q2.1, hsz⟩
    · exact ⟨cy, q10 y cy q hy, rfl, rfl, rfl⟩
  · obtain ⟨D3, cf, k, i, f, g1, g2, g3, g4, g5, g6, g7⟩ := F
    cases hD.symm.trans g1
    simp only [RoadKit.slotOf, g2, gV, gC, Option.map_some, Option.getD_some] at n1 n2
    exact ⟨E', cf, k, i, f, q1.1, g2, g3, by rw [q2.1]; exact g4, by rw [q2.1]; exact g5, by rw [q2.2.1]; exact g6, by rw [q2.2.2 f.slot (by simp [n1, n2])]; exact g7⟩
end StrChars.Road
namespace StrChars.Road
open Jvm Sem ClassFile Op Lib Jvm.Stand Jvm.Free Jvm.Free.XT
/-- WHAT COMES BACK, the byte[] as a list of values -/
def QA (Z : State) (x : Addr) (zn : Int32) (cs : List Int32) (h : Heap) (v : Option Value) (h' : Heap) (L : List Loc) : Prop := v = none ∧ (∀ y ∈ L, y.base = x) ∧ RoadKit.Keep h h' [x] ∧ h'.size = h.size + 1 ∧ RoadKit.Exa Z h' x ST ∧ RoadKit.Fld Z h' x ST "value" "[B" (.ref h.size) ∧ RoadKit.Fld Z h' x ST "coder" "B" (.int 0) ∧
  (∃ kb, Z.vm.findClass "[B" = some kb ∧ RoadKit.Arv Z h' h.size kb .byte zn (cs.map fun c => .int (lo8 c)) (.int 0)) ∧
  ∀ (O n d : String) (w : Value), RoadKit.Fld Z h x O n d w → RoadKit.slotOf Z O n d ≠ RoadKit.slotOf Z ST "value" "[B" → RoadKit.slotOf Z O n d ≠ RoadKit.slotOf Z ST "coder" "B" → RoadKit.Fld Z h' x O n d w
/-- **new String(chars) AT A CALL, THE ARRAYS AS LISTS**: the char[] at b holds cs, not empty, no char above 255 -/
theorem backArv {p : Program} {l : Launch} {e : Env} {R : Room} {s : State} {args : Array Value} {below : List Frame} {len W : Nat} {Z : State} {a0 : Array Value} {h : Heap} (hZ : Z.Warmed39 s.vm) (hw : ∀ d ∈ words, d.before a0 Z = true) {kI : Nat} (wi : (Jvm.Cond.instantiable ST kI).before a0 Z = true)
    {x b : Addr} {k : ClassId} {zn z : Int32} {cs : List Int32} {dv v0 c0 : Value} (E : RoadKit.Exa Z h x ST) (V : RoadKit.Fld Z h x ST "value" "[B" v0) (C : RoadKit.Fld Z h x ST "coder" "B" c0) (K : RoadKit.Arv Z h b k .char zn (cs.map Value.int) dv) (S : RoadKit.Sta Z h ST "COMPACT_STRINGS" "Z" (.int z)) (hz : ¬ z = 0)
    (hlen : zn.toNatClampNeg = cs.length) (h0 : 0 < cs.length) (hbig : cs.length ≤ 536870912) (hall : ∀ c ∈ cs, ¬ 255 < c) (hfr : 4 ≤ R.frames) (hlo : W + 65 ≤ R.locals) :
    Back l R p e below s args New1.yN len W (fun P a => a = #[.ref x, .ref b] ∧ P.U.heap = h ∧ P.cells + 1 ≤ R.cells ∧ P.slots + cs.length ≤ R.slots)
      (fun P _ v B => ∃ L, QA Z x zn cs h v B.U.heap L ∧ B.locs = P.locs ++ L ∧ B.cells = P.cells + 1 ∧ B.slots = P.slots + cs.length) := by
  obtain ⟨A, K1, K2, K3, K4, K5, K6⟩ := K
  have e : A.slots.size = cs.length := K3.trans hlen
  have hat : ∀ (i : Nat) (hi : i < cs.length), A.slots[i]? = some (.int cs[i]) := fun i hi => by rw [K5 i (by omega)]; simp [List.getD_eq_getElem?_getD, hi]
  have hcv : ∀ (i : Nat) (hi : i < cs.length), cv A i = cs[i] := fun i hi => by unfold cv; rw [hat i hi]
  have hty : Typed .char A := fun i v hv => by
    have hi : i < A.slots.size := (Array.getElem?_eq_some_iff.mp hv).1
    have q := K5 i hi
    rw [hv] at q
    rw [Option.some.inj q]
    exact K6 i hi
  refine Back.mono (back hZ hw wi E V C K1 hty S hz (by omega) (by omega) (fun i hi => by rw [hcv i (by omega)]; exact hall _ (List.getElem_mem _)) hfr hlo) (fun P a hp => ⟨hp.1, hp.2.1, hp.2.2.1, by rw [e]; exact hp.2.2.2⟩) (fun P a v B hp hq => ?_)
  obtain ⟨L, ⟨q1, q2, q3, q4, q5, q6, q7, ⟨V', v1, v2, v3, v4, v5⟩, q9⟩, hl, hc, hs⟩ := hq
  refine ⟨L, ⟨q1, q2, q3, q4, q5, q6, q7, ⟨V'.cls, v3, V', v1, rfl, by rw [v4, e, hlen], K4, fun i hi => ?_, fun i hi => ?_⟩, q9⟩, hl, hc, by rw [hs, e]⟩
  · have hi' : i < cs.length := by omega
    rw [v5 i (by omega), hcv i hi']; simp [List.getD_eq_getElem?_getD, hi']
  · have hi' : i < cs.length := by omega
    simp only [List.getD_eq_getElem?_getD, List.getElem?_map, List.getElem?_eq_getElem hi', Option.map_some, Option.getD_some]
    exact fits_lo8 _
end StrChars.Road
namespace StrChars.Road
open Jvm Sem ClassFile Op Lib Jvm.Stand Jvm.Free Jvm.Free.XT
/-- WHAT COMES BACK, in the writer's own shape -/
def QV (Z : State) (x : Addr) (N : Int32) (bs : List Int32) (h : Heap) (n0 : Nat) (v : Option Value) (h' : Heap) (L : List Loc) : Prop := v = none ∧ RoadKit.Fr n0 L ∧ RoadKit.Keep h h' [x] ∧ RoadKit.Exa Z h' x ST ∧ RoadKit.Fld Z h' x ST "coder" "B" (.int 0) ∧
  ∃ (t : Addr) (kb : ClassId), n0 ≤ t ∧ h.size ≤ t ∧ ¬ t = x ∧ RoadKit.Fld Z h' x ST "value" "[B" (.ref t) ∧ RoadKit.Arv Z h' t kb .byte N (bs.map Value.int) (.int 0)
/-- **new String(chars) AT A CALL, FOR THE WRITER**: a char[] of n known ints, each 0 to 255 -/
theorem backV {p : Program} {l : Launch} {e : Env} {R : Room} {s : State} {args : Array Value} {below : List Frame} {len W : Nat} {Z : State} {a0 : Array Value} {h : Heap} (hZ : Z.Warmed39 s.vm) (hw : ∀ d ∈ words, d.before a0 Z = true) {kI : Nat} (wi : (Jvm.Cond.instantiable ST kI).before a0 Z = true)
    {x b : Addr} {kC : ClassId} {cs bs : List Int32} {d v0 c0 : Value} {z N : Int32} {n n0 : Nat} (hx0 : n0 ≤ x) (hh0 : n0 ≤ h.size) (E : RoadKit.Exa Z h x ST) (V : RoadKit.Fld Z h x ST "value" "[B" v0) (C : RoadKit.Fld Z h x ST "coder" "B" c0) (K : RoadKit.Arv Z h b kC .char N (cs.map Value.int) d) (S : RoadKit.Sta Z h ST "COMPACT_STRINGS" "Z" (.int z)) (hz : ¬ z = 0)
    (hn : cs.length = n) (hN : N = Int32.ofNat n) (l0 : 0 < n) (l2 : n ≤ 4000) (hp : ∀ c ∈ cs, ¬ c < 0 ∧ ¬ (255 : Int32) < c) (hb : bs = cs.map (fun c => c.toInt8.toInt32)) (hfr : 4 ≤ R.frames) (hlo : W + 65 ≤ R.locals) :
    Back l R p e below s args (⟨"java/lang/String", "<init>", "([C)V"⟩ : MethodName) len W (fun P a => a = #[.ref x, .ref b] ∧ P.U.heap = h ∧ P.cells + 1 ≤ R.cells ∧ P.slots + n ≤ R.slots)
      (fun P _ v B => ∃ L, QV Z x N bs h n0 v B.U.heap L ∧ B.locs = P.locs ++ L ∧ B.cells = P.cells + 1 ∧ B.slots = P.slots + n) := by
  subst hn hN hb
  refine Back.mono (backArv hZ hw wi E V C K S hz (n32 (by omega)) l0 (by omega) (fun c hc => (hp c hc).2) hfr hlo) (fun P a hp => hp) (fun P a v B hp hq => ?_)
  obtain ⟨L, ⟨q1, q2, q3, q4, q5, q6, q7, ⟨kb, v1, v2⟩, q9⟩, hl, hc, hs⟩ := hq
  exact ⟨L, ⟨q1, fun y hy => by rw [q2 y hy]; exact hx0, q3, q5, q7, h.size, kb, hh0, Nat.le_refl _, Nat.ne_of_gt E.lt, q6, by rw [List.map_map]; exact v2⟩, hl, hc, hs⟩
end StrChars.Road
namespace StrChars
open Jvm Sem ClassFile Op Lib Jvm.Stand Jvm.Free.XT Jvm.Free.ALB Jvm.Free.JM Jvm.Free
open Jvm.Lib.Cold (StaticIs)
def hi8 (x : Int32) : Int32 := lo8 (x >>> ((8 : Int32) &&& 31))
theorem shr0 (c : Int32) : c >>> ((0 : Int32) &&& 31) = c := by
  have e : ((0 : Int32) &&& 31) = 0 := by decide
  rw [e]
  apply Int32.toBitVec_inj.mp
  rw [Int32.toBitVec_shiftRight]
  have e1 : ((0 : Int32).toBitVec.smod 32) = 0#32 := by decide
  rw [e1, BitVec.sshiftRight_eq']
  exact BitVec.sshiftRight_zero
end StrChars
namespace StrChars
open Jvm Sem ClassFile Op Lib Jvm.Stand Jvm.Free.XT Jvm.Free.ALB Jvm.Free.JM Jvm.Free
open Jvm.Lib.Cold (StaticIs)
theorem shr1 {n : Nat} (h : 2 * n < 2 ^ 31) : Int32.ofNat (2 * n) >>> ((1 : Int32) &&& 31) = Int32.ofNat n := by
  have e : ((1 : Int32) &&& 31) = 1 := by decide
  rw [e]
  apply Int32.toBitVec_inj.mp
  rw [Int32.toBitVec_shiftRight]
  have e1 : ((1 : Int32).toBitVec.smod 32) = 1#32 := by decide
  have hm : (BitVec.ofNat 32 (2 * n)).toNat = 2 * n := by rw [BitVec.toNat_ofNat, Nat.mod_eq_of_lt (by omega)]
  rw [e1, BitVec.sshiftRight_eq']
  apply BitVec.eq_of_toNat_eq
  show ((BitVec.ofNat 32 (2 * n)).sshiftRight 1).toNat = (BitVec.ofNat 32 n).toNat
  rw [BitVec.toNat_sshiftRight_of_msb_false (by rw [BitVec.msb_eq_false_iff_two_mul_lt, hm]; omega), hm, BitVec.toNat_ofNat, Nat.shiftRight_eq_div_pow]
  omega
/-- the array's cell V codes the n chars f 0 .. f (n - 1) by the coder cd, as the JDK does: coder 1 just where some char is above 255 -/
def Cod (cd : Int32) (n : Nat) (f : Nat → Int32) (V : Cell) : Prop := (cd = 0 ∧ V.slots.size = n ∧ ∀ j, j < n → V.slots[j]? = some (.int (lo8 (f j))) ∧ ¬ 255 < f j) ∨ (cd = 1 ∧ V.slots.size = 2 * n ∧ (∀ j, j < n → V.slots[2 * j]? = some (.int (lo8 (f j))) ∧ V.slots[2 * j + 1]? = some (.int (hi8 (f j)))) ∧ ∃ j, j < n ∧ 255 < f j)
theorem Cod.cd {cd : Int32} {n : Nat} {f : Nat → Int32} {V : Cell} (h : Cod cd n f V) : cd = 0 ∨ cd = 1 := h.imp (fun q => q.1) fun q => q.1
theorem Cod.len {cd : Int32} {n : Nat} {f : Nat → Int32} {V : Cell} (h : Cod cd n f V) (hs : V.slots.size < 2 ^ 31) : Int32.ofNat V.slots.size >>> (cd &&& 31) = Int32.ofNat n := by
  rcases h with ⟨rfl, h, -⟩ | ⟨rfl, h, -⟩
  · rw [shr0, h]
  · rw [h, shr1 (by omega)]
/-- **x is a String of the n chars f 0 .. f (n - 1)**, Latin-1 or UTF-16; its array at t has the cell V -/
def Txt (x t : Addr) (V : Cell) (cd : Int32) (n : Nat) (f : Nat → Int32) (U : State) : Prop := Exact "java/lang/String" x U ∧ Has x "java/lang/String" "value" "[B" (.ref t) U ∧ Has x "java/lang/String" "coder" "B" (.int cd) U ∧ XT.Arr .byte t V U ∧ Cod cd n f V ∧ ∀ j, j < n → ¬ f j < 0 ∧ ¬ 65535 < f j
theorem Txt.mv {x t : Addr} {V : Cell} {cd : Int32} {n : Nat} {f : Nat → Int32} {U U' : State} (h : Txt x t V cd n f U) (hal : U.vm.Alike U'.vm) (hh : U'.heap = U.heap) : Txt x t V cd n f U' := ⟨h.1.mv hal hh, h.2.1.mv hal hh, h.2.2.1.mv hal hh, h.2.2.2.1.mv hal hh, h.2.2.2.2⟩
namespace Cdr
def yN : MethodName := ⟨"java/lang/String", "coder", "()B"⟩
abbrev yB : ByteArray := jdk_42_method_152_code
theorem d0 : decode yB 0 = .ok (.getstatic 38, 3) := by decide +kernel
theorem d3 : decode yB 3 = .ok (.ifCond (.eq) 10, 3) := by decide +kernel
theorem d6 : decode yB 6 = .ok (.aload_n 0, 1) := by decide +kernel
theorem d7 : decode yB 7 = .ok (.getfield 15, 3) := by decide +kernel
theorem d10 : decode yB 10 = .ok (.goto 4, 3) := by decide +kernel
theorem d14 : decode yB 14 = .ok (.ireturn, 1) := by decide +kernel
def site : List Cond := [.fieldLink "java/lang/String" 38 "java/lang/String" "COMPACT_STRINGS" "Z", .fieldLink "java/lang/String" 15 "java/lang/String" "coder" "B"]
def tab : Cond := tabOf yN yB 1 (some .byte) site
def P (x : Addr) (cd z : Int32) (args : Array Value) (s : State) : Prop := args = #[.ref x] ∧ Has x "java/lang/String" "coder" "B" (.int cd) s ∧ (cd = 0 ∨ cd = 1) ∧ StaticIs s "java/lang/String" "COMPACT_STRINGS" "Z" (.int z) ∧ ¬ z = 0
def E (cd : Int32) (r : Option Value) (s u : State) : Prop := XT.PureE (some (.int cd)) r s u
theorem law (l : Launch) (x : Addr) (cd z : Int32) : Law l yN 1 0 0 0 yB 1 (some .byte) site (P x cd z) (E cd) [] 0 0 := by
  refine Law.of_walk (plainFor_of_name (by decide +kernel)) (by decide +kernel) (by decide +kernel) (by decide) (fun _ _ h => by rw [h.1]; rfl) (fun _ U U' hal hh h => ⟨h.1, h.2.1.mv hal hh, h.2.2.1, h.2.2.2.1.there hal hh, h.2.2.2.2⟩) (fun r U U' V V' h1 hal h2 h => XT.PureE.mv r U U' V V' h1 hal h2 h) ?_
  intro p e s m args below meth c s₁ X0 hexec hbytes hml hret hlk hnm hown hh0 W hP
  obtain ⟨rfl, hx, hc, s1, hz⟩ := hP
  have c1 : Steps p.tables e below (s₁.setTop (entryFrame m #[.ref x] 1)) (s₁.setTop (mkF m 0 #[.val (.ref x)] [])) := entry rfl
  obtain ⟨T2, X2, q2, st2⟩ := X0.sget hexec hown (wk W (.fieldLink "java/lang/String" 38 "java/lang/String" "COMPACT_STRINGS" "Z")) s1 (fun _ _ h => by rw [hh0]; exact h) (g := (mkF m 0 #[.val (.ref x)] [])) rfl (hb hbytes d0)
  have hh2 := q2.trans hh0
  have c3 : Steps p.tables e below (s₁.setTop (entryFrame m #[.ref x] 1)) (T2.setTop (mkF m 7 #[.val (.ref x)] [.ref x])) := (c1.trans (st2 _ (Steps.refl _))).trans (by
    refine XS.ifNo X2.here hexec rfl (hb hbytes d3) rfl (i0_eq_f hz) ?_
    refine XS.aloadN X2.here hexec rfl (hb hbytes d6) rfl rfl ?_
    exact Steps.refl _)
  obtain ⟨T4, X4, q4, st4⟩ := X2.hget hexec hown (wk W (.fieldLink "java/lang/String" 15 "java/lang/String" "coder" "B")) (hx.mv X2.warmed.alike hh2) (g := (mkF m 7 #[.val (.ref x)] [.ref x])) rfl (rest := []) rfl (hb hbytes d7)
  have c5 : Steps p.tables e below (s₁.setTop (entryFrame m #[.ref x] 1)) (T4.setTop (mkF m 14 #[.val (.ref x)] [.int cd])) := (c3.trans (st4 _ (Steps.refl _))).trans (by
    refine XS.goto X4.here hexec rfl (pc0 := 10) rfl (hb hbytes d10) (by decide) rfl ?_
    exact Steps.refl _)
  exact ⟨T4, some (.int cd), _, _, _, X4, rfl, rfl, rfl, (fun h => by cases h), ⟨rfl, q4.trans hh2⟩, fun fs hl => c5.trans (X4.ireturnOut hexec hret (by rcases hc with rfl | rfl <;> rfl) (Or.inr (Or.inr (Or.inl rfl))) (hb hbytes d14) hl)⟩
end Cdr
namespace Len
def yN : MethodName := ⟨"java/lang/String", "length", "()I"⟩
abbrev yB : ByteArray := jdk_42_method_54_code
theorem d0 : decode yB 0 = .ok (.aload_n 0, 1) := by decide +kernel
theorem d1 : decode yB 1 = .ok (.getfield 9, 3) := by decide +kernel
theorem d4 : decode yB 4 = .ok (.arraylength, 1) := by decide +kernel
theorem d5 : decode yB 5 = .ok (.aload_n 0, 1) := by decide +kernel
theorem d6 : decode yB 6 = .ok (.invokevirtual 335, 3) := by decide +kernel
theorem d9 : decode yB 9 = .ok (.ishr, 1) := by decide +kernel
theorem d10 : decode yB 10 = .ok (.ireturn, 1) := by decide +kernel
def site : List Cond := [.fieldLink "java/lang/String" 9 "java/lang/String" "value" "[B", Cdr.tab] ++ virtW "java/lang/String" 335 "java/lang/String" Cdr.yN Cdr.yN
def tab : Cond := tabOf yN yB 1 (some .int) site
def P (x t : Addr) (V : Cell) (cd : Int32) (n : Nat) (f : Nat → Int32) (z : Int32) (args : Array Value) (s : State) : Prop := args = #[.ref x] ∧ Txt x t V cd n f s ∧ StaticIs s "java/lang/String" "COMPACT_STRINGS" "Z" (.int z) ∧ ¬ z = 0
def E (n : Nat) (r : Option Value) (s u : State) : Prop := XT.PureE (some (.int (Int32.ofNat n))) r s u
/-- length() of a String of n chars, in either coding -/
theorem law (l : Launch) (x t : Addr) (V : Cell) (cd : Int32) (n : Nat) (f : Nat → Int32) (z : Int32) : Law l yN 1 0 1 13 yB 1 (some .int) site (P x t V cd n f z) (E n) [] 0 0 := by
  refine Law.of_walk (plainFor_of_name (by decide +kernel)) (by decide +kernel) (by decide +kernel) (by decide) (fun _ _ h => by rw [h.1]; rfl) (fun _ U U' hal hh h => ⟨h.1, h.2.1.mv hal hh, h.2.2.1.there hal hh, h.2.2.2⟩) (fun r U U' V V' h1 hal h2 h => XT.PureE.mv r U U' V V' h1 hal h2 h) ?_
  intro p e s m args below meth c s₁ X0 hexec hbytes hml hret hlk hnm hown hh0 W hP
  obtain ⟨rfl, hx, s1, hz⟩ := hP
  have v31 := hx.2.2.2.1.2.2.2
  have c1 : Steps p.tables e below (s₁.setTop (entryFrame m #[.ref x] 1)) (s₁.setTop (mkF m 1 #[.val (.ref x)] [.ref x])) := Steps.trans (entry rfl) (by
    show Steps p.tables e below (s₁.setTop (mkF m 0 #[.val (.ref x)] [])) _
    refine XS.aloadN X0.here hexec rfl (hb hbytes d0) rfl rfl ?_
    exact Steps.refl _)
  obtain ⟨T2, X2, q2, st2⟩ := X0.hget hexec hown (wk W (.fieldLink "java/lang/String" 9 "java/lang/String" "value" "[B")) (hx.mv X0.warmed.alike hh0).2.1 (g := (mkF m 1 #[.val (.ref x)] [.ref x])) rfl (rest := []) rfl (hb hbytes d1)
  have hh2 := q2.trans hh0
  have hx2 := hx.mv X2.warmed.alike hh2
  have c3 : Steps p.tables e below (s₁.setTop (entryFrame m #[.ref x] 1)) (T2.setTop (mkF m 6 #[.val (.ref x)] [.ref x, .int (Int32.ofNat V.slots.size)])) := (c1.trans (st2 _ (Steps.refl _))).trans (by
    refine X2.alen hexec hx2.2.2.2.1 rfl rfl (hb hbytes d4) ?_
    refine XS.aloadN X2.here hexec rfl (hb hbytes d5) rfl rfl ?_
    exact Steps.refl _)
  obtain ⟨v4, T4, X4, E4, g4⟩ := X2.callV hexec (Cdr.law l x cd z) hown (wks W (virtW "java/lang/String" 335 "java/lang/String" Cdr.yN Cdr.yN)) rfl (by decide) (wk W Cdr.tab) (W := 1) (Nat.le_of_ble_eq_true rfl) (Nat.le_of_ble_eq_true rfl) (Nat.le_refl _) (Nat.le_refl _) (hx2.1.fc X2.warmed.alike) hx2.1.is (g := (mkF m 6 #[.val (.ref x)] [.ref x, .int (Int32.ofNat V.slots.size)])) rfl (by rw [hml]; rfl) c3 (argsL := []) (rest := [.int (Int32.ofNat V.slots.size)]) rfl rfl (by show 2 * 0 + (1 + 0) ≤ _; decide) (hb hbytes d6) (⟨rfl, hx2.2.2.1, hx.2.2.2.2.1.cd, s1.there X2.warmed.alike hh2, hz⟩)
  obtain ⟨rfl, q4⟩ := E4
  have c5 : Steps p.tables e below (s₁.setTop (entryFrame m #[.ref x] 1)) (T4.setTop (mkF m 10 #[.val (.ref x)] [.int (Int32.ofNat V.slots.size >>> (cd &&& 31))])) := Steps.trans g4 (by
    refine ishr X4.here hexec rfl (hb hbytes d9) rfl ?_
    exact Steps.refl _)
  rw [hx.2.2.2.2.1.len v31] at c5
  exact ⟨T4, some (.int (Int32.ofNat n)), _, _, _, X4, rfl, rfl, rfl, (fun h => by cases h), ⟨rfl, q4.trans hh2⟩, fun fs hl => c5.trans (X4.ireturnOut hexec hret rfl (Or.inl rfl) (hb hbytes d10) hl)⟩
theorem pays {l : Launch} {R : Room} {p : Program} {e : Env} {below : List Frame} {s : State} {sargs : Array Value} {len W : Nat} (x t : Addr) (V : Cell) (cd : Int32) (n : Nat) (f : Nat → Int32) (z : Int32) (htab : tab.before sargs s = true) (hfr : 2 ≤ R.frames) (hlo : W + 25 ≤ R.locals) :
    Back l R p e below s sargs yN len W (fun A₁ a₁ => A₁.cells + 0 ≤ R.cells ∧ A₁.slots + 0 ≤ R.slots ∧ P x t V cd n f z a₁ A₁.U) (fun A₁ _ v₁ B₁ => E n v₁ A₁.U B₁.U ∧ B₁.locs = A₁.locs ++ [] ∧ B₁.cells = A₁.cells + 0 ∧ B₁.slots = A₁.slots + 0) :=
  (law l x t V cd n f z).pays htab hfr (by omega)
end Len
end StrChars
namespace StrChars.Road
open Jvm Sem ClassFile Op Lib Jvm.Stand Jvm.Free Jvm.Free.XT
open Jvm.Lib.Cold (StaticIs)
theorem consq {a : Array Value} {s : State} {c : Jvm.Cond} {L : List Jvm.Cond} (h0 : c.before a s = true) (h : ∀ w ∈ L, w.before a s = true) : ∀ w ∈ c :: L, w.before a s = true := fun w hw => (List.mem_cons.mp hw).elim (fun e => e ▸ h0) (h w)
/-- the words of String.length(), either coding -/
abbrev wordsLen : List Jvm.Cond := [.code Len.yN Len.yB 1 (some .int), .initialized ST, .fieldLink ST 9 ST "value" "[B", .fieldLink ST 38 ST "COMPACT_STRINGS" "Z", .fieldLink ST 15 ST "coder" "B", .code Cdr.yN Cdr.yB 1 (some .byte), .methodLink ST 335 Cdr.yN, .declares Cdr.yN, .selects ST Cdr.yN Cdr.yN, .instanceMethod Cdr.yN]
theorem tabLen_of {a : Array Value} {s : State} (h : ∀ w ∈ wordsLen, w.before a s = true) : Len.tab.before a s = true := by
  have hc : Cdr.tab.before a s = true := unparts (wk h (.code Cdr.yN Cdr.yB 1 (some .byte))) (wks h (.initialized Cdr.yN.cls :: Cdr.site))
  have q := consq hc h
  exact unparts (wk q (.code Len.yN Len.yB 1 (some .int))) (wks q (.initialized Len.yN.cls :: Len.site))
theorem movedLen {Z s : State} {a0 args : Array Value} (hZ : Z.Warmed39 s.vm) (hw : ∀ d ∈ wordsLen, d.before a0 Z = true) : ∀ d ∈ wordsLen, d.before args s = true := fun d hd => by
  have q := hw d hd
  have t : ∀ d ∈ wordsLen, d = .arrayClass .byte ∨ (d.onTables && d.keepsFace) = true := by decide +kernel
  rcases t d hd with rfl | t
  · exact RoadKit.mvA hZ q
  · exact RoadKit.mv hZ q t
/-- the bytes of the chars cs, low before high -/
def wideBytes : List Int32 → List Value
  | [] => []
  | c :: cs => .int (lo8 c) :: .int (hi8 c) :: wideBytes cs
theorem wide_lo (d : Value) : ∀ (cs : List Int32) (j : Nat), j < cs.length → (wideBytes cs).getD (2 * j) d = .int (lo8 (cs.getD j 0))
  | [], j, h => absurd h (Nat.not_lt_zero j)
  | c :: cs, 0, _ => rfl
  | c :: cs, j + 1, h => by
    have q := wide_lo d cs j (by simpa using h)
    rw [show 2 * (j + 1) = 2 * j + 1 + 1 from by omega]
    simpa [wideBytes] using q
theorem wide_hi (d : Value) : ∀ (cs : List Int32) (j : Nat), j < cs.length → (wideBytes cs).getD (2 * j + 1) d = .int (hi8 (cs.getD j 0))
  | [], j, h => absurd h (Nat.not_lt_zero j)
  | c :: cs, 0, _ => rfl
  | c :: cs, j + 1, h => by
    have q := wide_hi d cs j (by simpa using h)
    rw [show 2 * (j + 1) + 1 = 2 * j + 1 + 1 + 1 from by omega]
    simpa [wideBytes] using q
theorem low_at (d : Value) (cs : List Int32) (j : Nat) (h : j < cs.length) : (cs.map fun c => Value.int (lo8 c)).getD j d = .int (lo8 (cs.getD j 0)) := by
  simp [List.getD_eq_getElem?_getD, h]
/-- an array of N2 bytes vs codes the chars cs by the coder cd -/
def CodA (cs : List Int32) (cd N2 : Int32) (vs : List Value) : Prop := (cd = 0 ∧ N2 = Int32.ofNat cs.length ∧ vs = (cs.map fun c => Value.int (lo8 c)) ∧ ∀ c ∈ cs, ¬ 255 < c) ∨ (cd = 1 ∧ N2 = Int32.ofNat (2 * cs.length) ∧ vs = wideBytes cs ∧ ∃ c ∈ cs, 255 < c)
theorem CodA.cod {cs : List Int32} {cd N2 : Int32} {vs : List Value} {V : Cell} (h : CodA cs cd N2 vs) (hn : 2 * cs.length < 2 ^ 31) (hs : V.slots.size = N2.toNatClampNeg) (hv : RoadKit.Has V vs (.int 0)) : Cod cd cs.length (fun j => cs.getD j 0) V := by
  rcases h with ⟨rfl, rfl, rfl, h⟩ | ⟨rfl, rfl, rfl, c, hc, hw⟩
  · rw [n32 (by omega)] at hs
    exact Or.inl ⟨rfl, hs, fun j hj => ⟨by rw [hv j (by omega), low_at _ _ _ hj], by
      have e : cs.getD j 0 = cs[j] := by simp [List.getD_eq_getElem?_getD, hj]
      show ¬ 255 < cs.getD j 0
      rw [e]; exact h _ (List.getElem_mem _)⟩⟩
  · rw [n32 (by omega)] at hs
    obtain ⟨j, hj, rfl⟩ := List.getElem_of_mem hc
    exact Or.inr ⟨rfl, hs, fun j hj => ⟨by rw [hv _ (by omega), wide_lo _ _ _ hj], by rw [hv _ (by omega), wide_hi _ _ _ hj]⟩, j, hj, by
      have e : cs.getD j 0 = cs[j] := by simp [List.getD_eq_getElem?_getD, hj]
      show 255 < cs.getD j 0
      rw [e]; exact hw⟩
/-- an object of exactly java/lang/String, its two fields found: as the laws ask it -/
theorem strObj {Z U : State} {a0 : Array Value} {kI : Nat} (wi : (Jvm.Cond.instantiable ST kI).before a0 Z = true) (al : Z.vm.Alike U.vm) {x : Addr} {v0 c0 : Value} (E : RoadKit.Exa Z U.heap x ST) (V : RoadKit.Fld Z U.heap x ST "value" "[B" v0) (C : RoadKit.Fld Z U.heap x ST "coder" "B" c0) :
    ∃ (D : Cell) (fV fC : Field), Blank ST x D U ∧ Found ST "value" "[B" fV U ∧ Found ST "coder" "B" fC U ∧ D.slots[fV.slot]? = some v0 ∧ D.slots[fC.slot]? = some c0 ∧ RoadKit.slotOf Z ST "value" "[B" = fV.slot ∧ RoadKit.slotOf Z ST "coder" "B" = fC.slot := by
  obtain ⟨D, cfV, kV, iV, fV, hD, gV, stV, knV, obV, asV, slV⟩ := V
  obtain ⟨D', cfC, kC, iC, fC, hD', gC, stC, -, -, asC, slC⟩ := C
  cases hD.symm.trans hD'
  obtain ⟨D2, kD, e1, e2, e3, e4, e5⟩ := E
  cases hD.symm.trans e1
  obtain ⟨c2, k2, i1, i2, i3, -⟩ := Cond.instantiable_spec wi
  cases e2.symm.trans i1
  cases e3.symm.trans i2
  obtain ⟨kU, u1, u2⟩ := al.2.2 _ _ e3
  exact ⟨D, fV, fC, ⟨hD, ⟨knV, fun q hq => by rw [hq] at obV; cases obV⟩, by rw [al.findClass]; exact e2, kU, u1, by rw [u2]; exact i3, by rw [u2]; exact e5 i3⟩, ⟨SBG.found_only al ⟨cfV, kV, iV, gV⟩, stV⟩, ⟨SBG.found_only al ⟨cfC, kC, iC, gC⟩, stC⟩, slV, slC, by simp [RoadKit.slotOf, gV], by simp [RoadKit.slotOf, gC]⟩
theorem sta_is {Z U : State} (al : Z.vm.Alike U.vm) {C n d : String} {v : Value} (S : RoadKit.Sta Z U.heap C n d v) : StaticIs U C n d v := by
  obtain ⟨cfS, iS, kS, fS, st, cS, t1, t2, t3, t4, t5, t6, t7⟩ := S
  exact StaticIs.there (s := { Z with heap := U.heap }) ⟨cfS, iS, kS, fS, st, cS, t1, t2, t3, t4, t5, (fun q => by rw [q] at t6; cases t6), t7⟩ al rfl
/-- **length() OF SUCH A STRING** -/
theorem lenW {p : Program} {l : Launch} {e : Env} {R : Room} {s : State} {args : Array Value} {below : List Frame} {len W : Nat} {Z : State} {a0 : Array Value} {h : Heap} (hZ : Z.Warmed39 s.vm) (hw : ∀ d ∈ wordsLen, d.before a0 Z = true) {kI : Nat} (wi : (Jvm.Cond.instantiable ST kI).before a0 Z = true)
    {x t : Addr} {kb : ClassId} {cs : List Int32} {cd N2 z : Int32} {vs : List Value} (E : RoadKit.Exa Z h x ST) (V : RoadKit.Fld Z h x ST "value" "[B" (.ref t)) (C : RoadKit.Fld Z h x ST "coder" "B" (.int cd)) (K : RoadKit.Arv Z h t kb .byte N2 vs (.int 0)) (hc : CodA cs cd N2 vs) (hb : ∀ c ∈ cs, ¬ c < 0 ∧ ¬ (65535 : Int32) < c)
    (S : RoadKit.Sta Z h ST "COMPACT_STRINGS" "Z" (.int z)) (hz : ¬ z = 0) (l2 : cs.length ≤ 4000) (hfr : 2 ≤ R.frames) (hlo : W + 25 ≤ R.locals) :
    Back l R p e below s args (⟨"java/lang/String", "length", "()I"⟩ : MethodName) len W (fun P a => a = #[.ref x] ∧ P.U.heap = h ∧ P.cells + 0 ≤ R.cells ∧ P.slots + 0 ≤ R.slots)
      (fun P _ v B => ∃ L, (v = some (.int (Int32.ofNat cs.length)) ∧ L = [] ∧ B.U.heap = h) ∧ B.locs = P.locs ++ L ∧ B.cells = P.cells + 0 ∧ B.slots = P.slots + 0) := by
  obtain ⟨A, K1, K2, K3, K4, K5, K6⟩ := K
  have hcod := hc.cod (by omega) K3 K5
  intro m meth c P g ig mk a X hg hsize hdg hW hn hp'
  obtain ⟨rfl, rfl, r1, r2⟩ := hp'
  have al : Z.vm.Alike P.U.vm := hZ.alike.trans X.warmed.alike
  obtain ⟨D, fV, fC, hB, F1, F2, g1, g2, -, -⟩ := strObj wi al E V C
  have hx : Txt x t A cd cs.length (fun j => cs.getD j 0) P.U := ⟨⟨_, hB.2.2.1, D, hB.1, rfl, by cases q : D.vm <;> first | rfl | exact absurd q (hB.2.1.2 _)⟩, Has.of hB F1 g1, Has.of hB F2 g2, ⟨K1.1, State.isArrayOf_alike al K1.2.1, K1.2.2, by rcases hcod with ⟨-, q, -⟩ | ⟨-, q, -⟩ <;> omega⟩, hcod, fun j hj => by
    have e : cs.getD j 0 = cs[j] := by simp [List.getD_eq_getElem?_getD, hj]
    show ¬ cs.getD j 0 < 0 ∧ ¬ 65535 < cs.getD j 0
    rw [e]; exact hb _ (List.getElem_mem _)⟩
  obtain ⟨v, B, X', ⟨⟨hv, hh⟩, hl, hk, hs⟩, st⟩ := Len.pays x t A cd cs.length (fun j => cs.getD j 0) z (tabLen_of (movedLen hZ hw)) hfr hlo m meth c P g ig mk _ X hg hsize hdg hW hn ⟨r1, r2, rfl, hx, sta_is al S, hz⟩
  exact ⟨v, B, X', ⟨[], ⟨hv, rfl, hh⟩, hl, hk, hs⟩, st⟩
end StrChars.Road
namespace StrChars.Road
open Jvm Sem ClassFile Op Lib Jvm.Stand Jvm.Free Jvm.Free.XT
open Jvm.Lib.Cold (StaticIs)
/-- what backV says of its String, as the contracts of this text ask it: cs's low bytes, coder 0 -/
theorem codOf {cs : List Int32} {n : Nat} (hn : cs.length = n) (hb : ∀ c ∈ cs, ¬ 255 < c) : CodA cs 0 (Int32.ofNat n) ((cs.map lo8).map Value.int) := Or.inl ⟨rfl, by rw [hn], by simp [List.map_map, Function.comp_def], hb⟩
end StrChars.Road
end Jvm.Pilot.@@N@@
namespace Jvm.Pilot.@@N@@
open Jvm Jvm.ClassFile Sem Op Lib Jvm.Free Jvm.Stand Jvm.LawKit Jvm.RoadKit Bundle Jvm.OwnK Jvm.Pilot.@@N@@.Jvm.D
def EL1 : List (String × Nat) := [("java/lang/String", 7)]
def Env1 (Z : State) (a0 : Array Value) : Prop := (∀ d ∈ tables_1, d.before a0 Z = true) ∧ EW Z a0 EL1 ∧ (∃ z : Int32, Sta Z Z.heap "java/lang/String" "COMPACT_STRINGS" "Z" (.int z) ∧ ¬ z = 0) ∧ ((∃ fm : Value, Sta Z Z.heap "jdk/internal/util/Preconditions" "SIOOBE_FORMATTER" "Ljava/util/function/BiFunction;" fm ∧ fm.isRef = true) ∧ Sta Z Z.heap "java/lang/StringUTF16" "$assertionsDisabled" "Z" (.int 1) ∧ Sta Z Z.heap "java/lang/StringUTF16" "HI_BYTE_SHIFT" "I" (.int 0) ∧ Sta Z Z.heap "java/lang/StringUTF16" "LO_BYTE_SHIFT" "I" (.int 8))
theorem wd {Z : State} {a0 : Array Value} (G : Env1 Z a0) (i : Nat) {d : Jvm.Cond} (h : tables_1[i]? = some d) : d.before a0 Z = true := G.1 d (List.mem_of_getElem? h)
theorem wS_in : ∀ a ∈ Bundle.stringAtoms, a ∈ tables_1 := by decide +kernel
theorem wS {Z : State} {a0 : Array Value} (G : Env1 Z a0) : ∀ a ∈ Bundle.stringAtoms, a.before a0 Z = true := fun a ha => G.1 a (wS_in a ha)
abbrev STN : String := "java/lang/String"
/-- a String that spells the chars cs -/
def Str (Z : State) (h : Heap) (a : Addr) (cs : List Int32) : Prop := ∃ (b : Addr) (kb : ClassId) (cd N2 : Int32) (vs : List Value), Exa Z h a STN ∧ Fld Z h a STN "value" "[B" (.ref b) ∧ Fld Z h a STN "coder" "B" (.int cd) ∧ Arv Z h b kb .byte N2 vs (.int 0) ∧ StrChars.Road.CodA cs cd N2 vs ∧ (∀ c ∈ cs, ¬ c < 0 ∧ ¬ (65535 : Int32) < c) ∧ cs.length ≤ 4000
theorem Str.ext {Z : State} {h h' : Heap} {a : Addr} {cs : List Int32} (F : Str Z h a cs) (E : Ext h h') : Str Z h' a cs := by
  obtain ⟨b, kb, cd, N2, vs, f1, f2, f3, f4, r⟩ := F
  exact ⟨b, kb, cd, N2, vs, f1.ext E, f2.ext E, f3.ext E, f4.ext E, r⟩
theorem Str.exa {Z : State} {h : Heap} {a : Addr} {cs : List Int32} (F : Str Z h a cs) : Exa Z h a STN := by obtain ⟨b, kb, cd, N2, vs, f1, -⟩ := F; exact f1
theorem Str.lt {Z : State} {h : Heap} {a : Addr} {cs : List Int32} (F : Str Z h a cs) : a < h.size := F.exa.lt
theorem le16 {cs : List Int32} (h : ∀ c ∈ cs, ¬ c < 0 ∧ ¬ (255 : Int32) < c) : ∀ c ∈ cs, ¬ c < 0 ∧ ¬ (65535 : Int32) < c := fun c hc => ⟨(h c hc).1, fun q => (h c hc).2 (Int32.lt_trans (by decide) q)⟩
theorem and255 (x : Int32) : ¬ (x &&& 255) < 0 ∧ ¬ (255 : Int32) < (x &&& 255) := by
  have h := c_and x 255 (by decide)
  have e : (255 : Int32).toInt = 255 := by decide
  have e0 : (0 : Int32).toInt = 0 := by decide
  rw [Int32.lt_iff_toInt_lt, Int32.lt_iff_toInt_lt, e, e0]; omega
theorem wBackV : ∀ d ∈ StrChars.Road.words, d ∈ tables_1 := by decide +kernel
theorem pays_str {l : Launch} {R : Room} {Z : State} {a0 : Array Value} {sf : List Addr} {W : Nat} (G : Env1 Z a0) {x b : Addr} {kc : ClassId} (cs : List Int32) {d v0 c0 : Value} {N : Int32} (n : Nat) (h : Heap) (E : Exa Z h x STN) (V : Fld Z h x STN "value" "[B" v0) (C : Fld Z h x STN "coder" "B" c0) (K : Arv Z h b kc .char N (cs.map Value.int) d)
    (hn : cs.length = n) (hN : N = Int32.ofNat n) (l0 : 0 < n) (l2 : n ≤ 4000) (hp : ∀ c ∈ cs, ¬ c < 0 ∧ ¬ (255 : Int32) < c) (hsf : x ∈ sf) (hfr : 4 ≤ R.frames) (hlo : W + 65 ≤ R.locals) :
    Pays l R Z a0 EL1 sf (⟨"java/lang/String", "<init>", "([C)V"⟩ : MethodName) 3 W #[.ref x, .ref b] h 1 n (fun v h' => v = none ∧ Keep h h' [x] ∧ Str Z h' x cs) := by
  obtain ⟨z, hS, hz⟩ := G.2.2.1
  refine Pays.of_back (ws := [x]) (fun p e below s args hZ hE hsz => StrChars.Road.backV (n0 := Z.heap.size) (bs := cs.map (fun c => c.toInt8.toInt32)) hZ (fun d hd => G.1 d (wBackV d hd)) (kI := 4) (wd G 11 rfl) (hsz x hsf) hE.1 E V C K (hS.ext hE) hz hn hN l0 l2 hp rfl hfr hlo) (allS hsf all0) ?_
  intro v h' L hE q
  obtain ⟨q1, q2, q3, q4, q5, t, kb, -, -, -, q6, q7⟩ := q
  refine ⟨q2, q3, q1, q3, t, kb, 0, N, _, q4, q6, q5, q7, ?_, le16 hp, by omega⟩
  subst hN
  exact StrChars.Road.codOf hn (fun c hc => (hp c hc).2)
theorem wLen : ∀ d ∈ StrChars.Road.wordsLen, d ∈ tables_1 := by decide +kernel
theorem pays_len {l : Launch} {R : Room} {Z : State} {a0 : Array Value} {sf : List Addr} {W : Nat} (G : Env1 Z a0) {x : Addr} {cs : List Int32} (h : Heap) (F : Str Z h x cs) (hfr : 2 ≤ R.frames) (hlo : W + 25 ≤ R.locals) :
    Pays l R Z a0 EL1 sf (⟨"java/lang/String", "length", "()I"⟩ : MethodName) 3 W #[.ref x] h 0 0 (fun v h' => v = some (.int (Int32.ofNat cs.length)) ∧ h = h') := by
  obtain ⟨z, hS, hz⟩ := G.2.2.1
  obtain ⟨b, kb, cd, N2, vs, f1, f2, f3, f4, f5, f6, f7⟩ := F
  refine Pays.of_back (ws := []) (QL := fun v h' L => v = some (.int (Int32.ofNat cs.length)) ∧ L = [] ∧ h' = h) (fun p e below s args hZ hE hsz => StrChars.Road.lenW hZ (fun d hd => G.1 d (wLen d hd)) (kI := 4) (wd G 11 rfl) f1 f2 f3 f4 f5 f6 (hS.ext hE) hz f7 hfr hlo) all0 ?_
  intro v h' L hE q
  obtain ⟨q1, q2, q3⟩ := q
  subst q2 q3
  exact ⟨Fr.nil _, Keep.refl _ _, q1, rfl⟩
theorem narrow_obj (C : String) (v : Value) : narrow (.object C) v = v := by cases v <;> rfl
theorem fits_obj {C : String} {v : Value} (h : v.isRef = true) : fits (.object C) v = true := by cases v <;> simp_all [Value.isRef, fits]
theorem narrow_bool {r : Int32} (h : r = 0 ∨ r = 1) : narrow .boolean (.int r) = .int r := by rcases h with rfl | rfl <;> rfl
theorem fits_bool {r : Int32} (h : r = 0 ∨ r = 1) : fits .boolean (.int r) = true := by rcases h with rfl | rfl <;> rfl
theorem and3 (x : Int32) : (x &&& 3) = 0 ∨ (x &&& 3) = 1 ∨ (x &&& 3) = 2 ∨ (x &&& 3) = 3 := by
  have h := c_and x 3 (by decide)
  have e : (3 : Int32).toInt = 3 := by decide
  rw [e] at h
  obtain ⟨i, hi, q⟩ := toInt_cases (n := 4) h.1 (by omega) (by decide)
  rw [q]
  match i, hi with
  | 0, _ => decide
  | 1, _ => decide
  | 2, _ => decide
  | 3, _ => decide
theorem and1 (x : Int32) : (x &&& 1) = 0 ∨ (x &&& 1) = 1 := and_one x
theorem mask31 (x : Int32) : 0 ≤ (x &&& 2147483647).toInt := (c_and x 2147483647 (by decide)).1
theorem rem3 (x : Int32) : ((x &&& 2147483647) % 3) = 0 ∨ ((x &&& 2147483647) % 3) = 1 ∨ ((x &&& 2147483647) % 3) = 2 := by
  have h := (c_iremV (x &&& 2147483647) 3).1 (mask31 x) (by decide)
  have e : (3 : Int32).toInt = 3 := by decide
  rw [e] at h
  obtain ⟨i, hi, q⟩ := toInt_cases (n := 3) h.1 (by omega) (by decide)
  rw [q]
  match i, hi with
  | 0, _ => decide
  | 1, _ => decide
  | 2, _ => decide
theorem nar255 {u : Int32} (h : ¬ u < 0 ∧ ¬ (255 : Int32) < u) : nar .char u = u := by
  have q := c_i2c u
  refine Int32.toInt_inj.mp ?_
  rw [Int32.lt_iff_toInt_lt, Int32.lt_iff_toInt_lt] at h
  have e : (255 : Int32).toInt = 255 := by decide
  have e0 : (0 : Int32).toInt = 0 := by decide
  rw [e, e0] at h
  show u.toUInt32.toUInt16.toUInt32.toInt32.toInt = u.toInt
  omega
theorem narb (u : Int32) : nar .byte (u.toInt8.toInt32) = u.toInt8.toInt32 := by
  have h1 := c_i2b (u.toInt8.toInt32)
  have h2 := c_i2b u
  refine Int32.toInt_inj.mp ?_
  show (u.toInt8.toInt32).toInt8.toInt32.toInt = _
  omega
theorem shr0 (c : Int32) : c >>> ((0 : Int32) &&& 31) = c := by
  refine Int32.toInt_inj.mp ?_
  rw [c_ishr c 0 0 (by decide)]; simp
theorem shl0 (c : Int32) : c <<< ((0 : Int32) &&& 31) = c := by
  refine Int32.toInt_inj.mp ?_
  have h := c_ishl c 0 0 (by decide)
  have r := Int32.toInt_lt c
  have r' := Int32.le_toInt c
  have q := Int32.toInt_lt (c <<< ((0 : Int32) &&& 31))
  have q' := Int32.le_toInt (c <<< ((0 : Int32) &&& 31))
  omega
theorem n32dbl {i : Nat} (h : i ≤ 10000) : Int32.ofNat i <<< ((1 : Int32) &&& 31) = Int32.ofNat (2 * i) := by
  refine Int32.toInt_inj.mp ?_
  have h1 := c_ishl (Int32.ofNat i) 1 1 (by decide)
  rw [n32i (by omega)] at h1
  rw [n32i (by omega)]
  have q := Int32.toInt_lt (Int32.ofNat i <<< ((1 : Int32) &&& 31))
  have q' := Int32.le_toInt (Int32.ofNat i <<< ((1 : Int32) &&& 31))
  omega
theorem n32hlf {i : Nat} (h : i ≤ 10000) : Int32.ofNat (2 * i) >>> ((1 : Int32) &&& 31) = Int32.ofNat i := by
  refine Int32.toInt_inj.mp ?_
  rw [c_ishr _ 1 1 (by decide), n32i (by omega), n32i (by omega)]; omega
theorem getc {c : Int32} (h : ¬ c < 0 ∧ ¬ (65535 : Int32) < c) : ((((StrChars.lo8 c &&& (255 : Int32))) ||| ((StrChars.hi8 c &&& (255 : Int32)) <<< ((8 : Int32) &&& 31))).toUInt32.toUInt16.toUInt32.toInt32) = c := by
  refine Int32.toInt_inj.mp ?_
  rw [Int32.lt_iff_toInt_lt, Int32.lt_iff_toInt_lt] at h
  have e1 : (65535 : Int32).toInt = 65535 := by decide
  have e0 : (0 : Int32).toInt = 0 := by decide
  rw [e1, e0] at h
  have a1 := c_i2b c
  have a2 := c_mask (StrChars.lo8 c) 255 8 (by decide) (by decide)
  have b0 := c_ishr c 8 8 (by decide)
  have b1 := c_i2b (c >>> ((8 : Int32) &&& 31))
  have b2 := c_mask (StrChars.hi8 c) 255 8 (by decide) (by decide)
  have b3 := c_ishl (StrChars.hi8 c &&& 255) 8 8 (by decide)
  have q := Int32.toInt_lt ((StrChars.hi8 c &&& 255) <<< ((8 : Int32) &&& 31))
  have q' := Int32.le_toInt ((StrChars.hi8 c &&& 255) <<< ((8 : Int32) &&& 31))
  change ((StrChars.lo8 c).toInt - c.toInt) % 256 = 0 ∧ _ at a1
  change ((StrChars.hi8 c).toInt - (c >>> ((8 : Int32) &&& 31)).toInt) % 256 = 0 ∧ _ at b1
  have o := c_or' (StrChars.lo8 c &&& 255) ((StrChars.hi8 c &&& 255) <<< ((8 : Int32) &&& 31)) 8 (by decide) 256 (by decide) (by omega) (by omega) (by omega)
  have w := c_i2c ((StrChars.lo8 c &&& (255 : Int32)) ||| ((StrChars.hi8 c &&& (255 : Int32)) <<< ((8 : Int32) &&& 31)))
  have p := Int32.toInt_lt ((StrChars.lo8 c &&& (255 : Int32)) ||| ((StrChars.hi8 c &&& (255 : Int32)) <<< ((8 : Int32) &&& 31)))
  have p' := Int32.le_toInt ((StrChars.lo8 c &&& (255 : Int32)) ||| ((StrChars.hi8 c &&& (255 : Int32)) <<< ((8 : Int32) &&& 31)))
  omega
theorem wide_len : ∀ cs : List Int32, (StrChars.Road.wideBytes cs).length = 2 * cs.length
  | [] => rfl
  | c :: r => by simp only [StrChars.Road.wideBytes, List.length_cons, wide_len r]; omega
theorem nar16 {u : Int32} (h : ¬ u < 0 ∧ ¬ (65535 : Int32) < u) : nar .char u = u := by
  have q := c_i2c u
  refine Int32.toInt_inj.mp ?_
  rw [Int32.lt_iff_toInt_lt, Int32.lt_iff_toInt_lt] at h
  have e : (65535 : Int32).toInt = 65535 := by decide
  have e0 : (0 : Int32).toInt = 0 := by decide
  rw [e, e0] at h
  show u.toUInt32.toUInt16.toUInt32.toInt32.toInt = u.toInt
  omega
theorem mem_getD {P : Int32 → Prop} {cs : List Int32} (h : ∀ c ∈ cs, P c) {i : Nat} (hi : i < cs.length) : P (cs.getD i 0) := by
  rw [List.getD_eq_getElem?_getD, List.getElem?_eq_getElem hi]; exact h _ (List.getElem_mem hi)
theorem ex1 {a b : Int} (h : (a - b) % 4294967296 = 0) (h1 : -2147483648 ≤ a) (h2 : a < 2147483648) (h3 : -2147483648 ≤ b) (h4 : b < 2147483648) : a = b := by omega
theorem exi (x : Int32) : -2147483648 ≤ x.toInt ∧ x.toInt < 2147483648 := ⟨Int32.le_toInt x, Int32.toInt_lt x⟩
theorem t_a1 {h : Int32} (h1 : ¬ h.toInt < 55296) (h2 : h.toInt < 56320) : (h <<< ((10 : Int32) &&& 31)).toInt = h.toInt * 1024 := by
  have ep : ((2 ^ 10 : Nat) : Int) = 1024 := by decide
  have := c_ishl h 10 10 (by decide)
  rw [ep] at this
  exact ex1 this (exi _).1 (exi _).2 (by omega) (by omega)
theorem t_sum {x y : Int32} {a b : Int} (hx : x.toInt = a) (hy : y.toInt = b) (h1 : -2147483648 ≤ a + b) (h2 : a + b < 2147483648) : (x + y).toInt = a + b := by
  have := c_iadd x y
  rw [hx, hy] at this
  exact ex1 this (exi _).1 (exi _).2 h1 h2
theorem t_sub {x y : Int32} {a b : Int} (hx : x.toInt = a) (hy : y.toInt = b) (h1 : -2147483648 ≤ a - b) (h2 : a - b < 2147483648) : (x - y).toInt = a - b := by
  have := c_isub x y
  rw [hx, hy] at this
  exact ex1 this (exi _).1 (exi _).2 h1 h2
theorem t_shl {x : Int32} {a : Int} (hx : x.toInt = a) (h1 : -2147483648 ≤ a * 1024) (h2 : a * 1024 < 2147483648) : (x <<< ((10 : Int32) &&& 31)).toInt = a * 1024 := by
  have ep : ((2 ^ 10 : Nat) : Int) = 1024 := by decide
  have := c_ishl x 10 10 (by decide)
  rw [ep, hx] at this
  exact ex1 this (exi _).1 (exi _).2 h1 h2
theorem cp_val {h lo : Int32} {a b : Int} (ha : h.toInt = a) (hb : lo.toInt = b) (h1 : 55296 ≤ a) (h2 : a < 56320) (h3 : 56320 ≤ b) (h4 : b < 57344) : ((h <<< ((10 : Int32) &&& 31)) + lo + (-56613888)).toInt = a * 1024 + b + (-56613888) ∧ ((65536 + ((h - 55296) <<< ((10 : Int32) &&& 31))) + (lo - 56320)).toInt = (65536 + (a - 55296) * 1024) + (b - 56320) :=
  ⟨t_sum (t_sum (t_shl ha (by omega) (by omega)) hb (by omega) (by omega)) (by decide +kernel) (by omega) (by omega),
   t_sum (t_sum (by decide +kernel) (t_shl (t_sub ha (by decide +kernel) (by omega) (by omega)) (by omega) (by omega)) (by omega) (by omega)) (t_sub hb (by decide +kernel) (by omega) (by omega)) (by omega) (by omega)⟩
def isH (c : Int32) : Prop := ¬ c < 55296 ∧ c < 56320
def isLo (c : Int32) : Prop := ¬ c < 56320 ∧ c < 57344
instance (c : Int32) : Decidable (isH c) := by unfold isH; infer_instance
instance (c : Int32) : Decidable (isLo c) := by unfold isLo; infer_instance
theorem lt_lit {x y : Int32} {b : Int} (hy : y.toInt = b) : x < y ↔ x.toInt < b := by rw [Int32.lt_iff_toInt_lt, hy]
theorem cp_two {h lo : Int32} (hh : isH h) (hl : isLo lo) : (h <<< ((10 : Int32) &&& 31)) + lo + (-56613888) = (65536 + ((h - 55296) <<< ((10 : Int32) &&& 31))) + (lo - 56320) ∧ ¬ ((h <<< ((10 : Int32) &&& 31)) + lo + (-56613888)) < 65536 := by
  have e1 : (55296 : Int32).toInt = 55296 := by decide +kernel
  have e2 : (56320 : Int32).toInt = 56320 := by decide +kernel
  have e3 : (57344 : Int32).toInt = 57344 := by decide +kernel
  have e4 : (65536 : Int32).toInt = 65536 := by decide +kernel
  have g1 := (not_congr (lt_lit (x := h) e1)).mp hh.1
  have g2 := (lt_lit (x := h) e2).mp hh.2
  have g3 := (not_congr (lt_lit (x := lo) e2)).mp hl.1
  have g4 := (lt_lit (x := lo) e3).mp hl.2
  obtain ⟨q1, q2⟩ := cp_val (h := h) (lo := lo) rfl rfl (Int.not_lt.mp g1) g2 (Int.not_lt.mp g3) g4
  refine ⟨Int32.toInt_inj.mp (q1.trans (Eq.trans ?_ q2.symm)), fun q => ?_⟩
  · generalize h.toInt = a; generalize lo.toInt = b; omega
  · have := (lt_lit e4).mp q
    rw [q1] at this
    omega
def tcp (h lo : Int32) : Int32 := ((h <<< ((10 : Int32) &&& 31)) + lo) + (-56613888 : Int32)
def cpA (cs : List Int32) (i : Nat) : Int32 := if i + 1 < cs.length ∧ isH (cs.getD i 0) ∧ isLo (cs.getD (i + 1) 0) then tcp (cs.getD i 0) (cs.getD (i + 1) 0) else cs.getD i 0
def wd2 (p : Int32) : Nat := if p < 65536 then 1 else 2
def ptsF : Nat → List Int32 → Nat → List Int32
  | 0, _, _ => []
  | f + 1, cs, i => if i < cs.length then cpA cs i :: ptsF f cs (i + wd2 (cpA cs i)) else []
def cmpL : List Int32 → List Int32 → Int32
  | [], [] => 0
  | [], _ :: _ => -1
  | _ :: _, [] => 1
  | a :: as, b :: bs => if a = b then cmpL as bs else if a < b then -1 else 1
theorem ptsS {f : Nat} {cs : List Int32} {i : Nat} (h : i < cs.length) : ptsF (f + 1) cs i = cpA cs i :: ptsF f cs (i + wd2 (cpA cs i)) := if_pos h
theorem ptsY {f : Nat} {cs : List Int32} {i : Nat} (h : i < cs.length) (w : cpA cs i < 65536) : ptsF (f + 1) cs i = cpA cs i :: ptsF f cs (i + 1) := by rw [ptsS h, wd2, if_pos w]
theorem ptsZ {f : Nat} {cs : List Int32} {i : Nat} (h : i < cs.length) (w : ¬ cpA cs i < 65536) : ptsF (f + 1) cs i = cpA cs i :: ptsF f cs (i + 2) := by rw [ptsS h, wd2, if_neg w]
theorem ptsN {cs : List Int32} {i : Nat} (h : cs.length ≤ i) : ∀ {f : Nat}, ptsF f cs i = []
  | 0 => rfl
  | f + 1 => if_neg (Nat.not_lt.mpr h)
theorem cmp_lt {a b : Int32} {x y : List Int32} (h : a < b) : cmpL (a :: x) (b :: y) = -1 := by
  rw [cmpL, if_neg (fun q => by rw [q] at h; exact Int32.lt_irrefl h), if_pos h]
theorem cmp_gt {a b : Int32} {x y : List Int32} (h : ¬ a = b) (h' : ¬ a < b) : cmpL (a :: x) (b :: y) = 1 := by
  rw [cmpL, if_neg h, if_neg h']
theorem cmp_eq {a b : Int32} {x y : List Int32} (h : a = b) : cmpL (a :: x) (b :: y) = cmpL x y := by
  rw [cmpL, if_pos h]
theorem cmp_rng : ∀ x y : List Int32, cmpL x y = -1 ∨ cmpL x y = 0 ∨ cmpL x y = 1
  | [], [] => Or.inr (Or.inl rfl)
  | [], _ :: _ => Or.inl rfl
  | _ :: _, [] => Or.inr (Or.inr rfl)
  | a :: as, b :: bs => by
    by_cases h : a = b
    · rw [cmp_eq h]; exact cmp_rng as bs
    · by_cases h' : a < b
      · exact Or.inl (cmp_lt h')
      · exact Or.inr (Or.inr (cmp_gt h h'))
theorem lt16 {c : Int32} (h : ¬ c < 0 ∧ ¬ (65535 : Int32) < c) : c < 65536 := by
  have e1 : (65535 : Int32).toInt = 65535 := by decide +kernel
  have e2 : (65536 : Int32).toInt = 65536 := by decide +kernel
  have := h.2
  rw [Int32.lt_iff_toInt_lt, e1] at this
  rw [Int32.lt_iff_toInt_lt, e2]; omega
theorem cp_wide {cs : List Int32} {i : Nat} (hr : ∀ c ∈ cs, ¬ c < 0 ∧ ¬ (65535 : Int32) < c) (hi : i < cs.length) (h : ¬ cpA cs i < 65536) : i + 1 < cs.length := by
  by_cases q : i + 1 < cs.length ∧ isH (cs.getD i 0) ∧ isLo (cs.getD (i + 1) 0)
  · exact q.1
  · rw [cpA, if_neg q] at h
    exact absurd (lt16 (mem_getD hr hi)) h
theorem wd2_le {cs : List Int32} {i : Nat} (hr : ∀ c ∈ cs, ¬ c < 0 ∧ ¬ (65535 : Int32) < c) (hi : i < cs.length) : i + wd2 (cpA cs i) ≤ cs.length := by
  unfold wd2
  by_cases h : cpA cs i < 65536
  · rw [if_pos h]; omega
  · have := cp_wide hr hi h
    rw [if_neg h]; omega
theorem wd2_pos (p : Int32) : 1 ≤ wd2 p ∧ wd2 p ≤ 2 := by unfold wd2; by_cases h : p < 65536 <;> simp [h]
theorem cp_lat {cs : List Int32} {i : Nat} (hr : ∀ c ∈ cs, ¬ (255 : Int32) < c) (hi : i < cs.length) : cpA cs i = cs.getD i 0 := by
  refine if_neg fun q => ?_
  have h1 := mem_getD hr hi
  have h2 := q.2.1.1
  have e1 : (255 : Int32).toInt = 255 := by decide +kernel
  have e2 : (55296 : Int32).toInt = 55296 := by decide +kernel
  rw [Int32.lt_iff_toInt_lt, e1] at h1
  rw [Int32.lt_iff_toInt_lt, e2] at h2
  omega
theorem b8and {c : Int32} (h : ¬ c < 0 ∧ ¬ (255 : Int32) < c) : (c.toInt8.toInt32 &&& (255 : Int32)) = c := by
  refine Int32.toInt_inj.mp ?_
  rw [Int32.lt_iff_toInt_lt, Int32.lt_iff_toInt_lt] at h
  have e1 : (255 : Int32).toInt = 255 := by decide
  have e0 : (0 : Int32).toInt = 0 := by decide
  rw [e1, e0] at h
  have a1 := c_i2b c
  have a2 := c_mask (c.toInt8.toInt32) 255 8 (by decide) (by decide)
  omega
theorem i2c16 (x : Int32) : ¬ x.toUInt32.toUInt16.toUInt32.toInt32 < 0 ∧ ¬ (65535 : Int32) < x.toUInt32.toUInt16.toUInt32.toInt32 := by
  have h := c_i2c x
  have e : (65535 : Int32).toInt = 65535 := by decide
  have e0 : (0 : Int32).toInt = 0 := by decide
  rw [Int32.lt_iff_toInt_lt, Int32.lt_iff_toInt_lt, e, e0]; omega
theorem and3n (x : Int32) : ∃ i : Nat, i < 4 ∧ (x &&& (3 : Int32)) = Int32.ofNat i := by
  have h := c_and x 3 (by decide)
  have e : (3 : Int32).toInt = 3 := by decide
  rw [e] at h
  exact toInt_cases (n := 4) h.1 (by omega) (by decide)
theorem leH {h : Int32} (q : ¬ (56319 : Int32) < h) : h < 56320 := by
  have e1 : (56319 : Int32).toInt = 56319 := by decide +kernel
  have e2 : (56320 : Int32).toInt = 56320 := by decide +kernel
  rw [Int32.lt_iff_toInt_lt, e1] at q
  rw [Int32.lt_iff_toInt_lt, e2]; omega
theorem gtH {h : Int32} (q : (56319 : Int32) < h) : ¬ h < 56320 := by
  have e1 : (56319 : Int32).toInt = 56319 := by decide +kernel
  have e2 : (56320 : Int32).toInt = 56320 := by decide +kernel
  rw [Int32.lt_iff_toInt_lt, e1] at q
  rw [Int32.lt_iff_toInt_lt, e2]; omega
theorem leL {h : Int32} (q : ¬ (57343 : Int32) < h) : h < 57344 := by
  have e1 : (57343 : Int32).toInt = 57343 := by decide +kernel
  have e2 : (57344 : Int32).toInt = 57344 := by decide +kernel
  rw [Int32.lt_iff_toInt_lt, e1] at q
  rw [Int32.lt_iff_toInt_lt, e2]; omega
theorem gtL {h : Int32} (q : (57343 : Int32) < h) : ¬ h < 57344 := by
  have e1 : (57343 : Int32).toInt = 57343 := by decide +kernel
  have e2 : (57344 : Int32).toInt = 57344 := by decide +kernel
  rw [Int32.lt_iff_toInt_lt, e1] at q
  rw [Int32.lt_iff_toInt_lt, e2]; omega
theorem takeD {ds : List Int32} {n i : Nat} (hi : i < n) : (ds.take n).getD i 0 = ds.getD i 0 := by simp [List.getD_eq_getElem?_getD, List.getElem?_take, hi]
theorem cpTn {ds : List Int32} {n i : Nat} (hd : ds.length = 3) (hn : n ≤ 3) (hi : i < n) (h : i + 1 < n → isH (ds.getD i 0) → ¬ isLo (ds.getD (i + 1) 0)) : cpA (ds.take n) i = ds.getD i 0 := by
  have hl : (ds.take n).length = n := by rw [List.length_take]; omega
  refine (if_neg fun q => ?_).trans (takeD hi)
  rw [hl, takeD hi] at q
  have q2 := q.2.2
  rw [takeD q.1] at q2
  exact h q.1 q.2.1 q2
theorem cpTy {ds : List Int32} {n i : Nat} (hd : ds.length = 3) (hn : n ≤ 3) (h1 : i + 1 < n) (hh : isH (ds.getD i 0)) (hl : isLo (ds.getD (i + 1) 0)) : cpA (ds.take n) i = (((65536 : Int32) + ((ds.getD i 0 - (55296 : Int32)) <<< ((10 : Int32) &&& 31))) + (ds.getD (i + 1) 0 - (56320 : Int32))) := by
  have hl' : (ds.take n).length = n := by rw [List.length_take]; omega
  refine (if_pos ⟨by rw [hl']; exact h1, by rw [takeD (by omega)]; exact hh, by rw [takeD h1]; exact hl⟩).trans ?_
  rw [takeD (by omega), takeD h1]
  exact (cp_two hh hl).1
def rf3 (kp kq : Nat) : Int32 := if kp < kq then -1 else if kq < kp then 1 else 0
def rfS (i : Nat) (p q : Int32) (kp kq : Nat) (r : Int32) : Int32 := if i < kp ∧ i < kq ∧ ¬ p = q then (if p < q then -1 else 1) else r
theorem rf_cmp {p0 p1 p2 q0 q1 q2 : Int32} {kp kq : Nat} (hp : kp ≤ 3) (hq : kq ≤ 3) : rfS 0 p0 q0 kp kq (rfS 1 p1 q1 kp kq (rfS 2 p2 q2 kp kq (rf3 kp kq))) = cmpL ([p0, p1, p2].take kp) ([q0, q1, q2].take kq) := by
  have cp : kp = 0 ∨ kp = 1 ∨ kp = 2 ∨ kp = 3 := by omega
  have cq : kq = 0 ∨ kq = 1 ∨ kq = 2 ∨ kq = 3 := by omega
  by_cases h0 : p0 = q0 <;> by_cases h1 : p1 = q1 <;> by_cases h2 : p2 = q2 <;> rcases cp with rfl | rfl | rfl | rfl <;> rcases cq with rfl | rfl | rfl | rfl <;> simp [rfS, rf3, cmpL, h0, h1, h2]
theorem litw {Z : State} {a0 : Array Value} (G : Env1 Z a0) (z : Int32) (hz : ∀ m ∈ [(0 : Nat)], ¬ m = z.toNatClampNeg) : ∀ p ∈ EL1, ∃ text : String, (Jvm.Cond.stringLink p.1 p.2 text).before a0 Z = true ∧ (∀ c ∈ text.toList, c.toNat < 256) ∧ ¬ text.toList.length = z.toNatClampNeg := by
  intro p hp
  simp only [EL1, List.mem_cons, List.not_mem_nil, or_false] at hp
  rcases hp with rfl
  · exact ⟨"", wd G 24 rfl, by decide, fun q => hz 0 (by decide) q⟩
theorem d4_0 : decode jdk_42_method_149_code 0 = .ok (.aload_n 0, 1) := by decide +kernel
theorem d4_1 : decode jdk_42_method_149_code 1 = .ok (.invokespecial 1, 3) := by decide +kernel
theorem d4_4 : decode jdk_42_method_149_code 4 = .ok (.iload_n 3, 1) := by decide +kernel
theorem d4_5 : decode jdk_42_method_149_code 5 = .ok (.ifCond .ne 22, 3) := by decide +kernel
theorem d4_8 : decode jdk_42_method_149_code 8 = .ok (.aload_n 0, 1) := by decide +kernel
theorem d4_9 : decode jdk_42_method_149_code 9 = .ok (.ldc 7, 2) := by decide +kernel
theorem d4_11 : decode jdk_42_method_149_code 11 = .ok (.getfield 9, 3) := by decide +kernel
theorem d4_14 : decode jdk_42_method_149_code 14 = .ok (.putfield 9, 3) := by decide +kernel
theorem d4_17 : decode jdk_42_method_149_code 17 = .ok (.aload_n 0, 1) := by decide +kernel
theorem d4_18 : decode jdk_42_method_149_code 18 = .ok (.ldc 7, 2) := by decide +kernel
theorem d4_20 : decode jdk_42_method_149_code 20 = .ok (.getfield 15, 3) := by decide +kernel
theorem d4_23 : decode jdk_42_method_149_code 23 = .ok (.putfield 15, 3) := by decide +kernel
theorem d4_26 : decode jdk_42_method_149_code 26 = .ok (.return_, 1) := by decide +kernel
theorem pn_java_lang_String : plainName "java/lang/String" = true := by first | (simp [plainName, overriddenIn]; done) | decide +kernel
theorem ef_ct_si4e (x : Addr) (b : Addr) (v0 : Value) (c0 : Value) (m : MethodId) : entryFrame m #[(.ref x), (.ref b), (.int (0 : Int32)), (.int (0 : Int32)), Value.null] 6 = mkF m 0 #[.val (.ref x), .val (.ref b), .val (.int (0 : Int32)), .val (.int (0 : Int32)), .val Value.null, .unset] [] := by first | (simp [entryFrame, mkF, argsToLocals, Value.category]; done) | rfl
set_option maxRecDepth 65536 in
set_option maxHeartbeats 4000000 in
theorem ct_si4e {l : Launch} {Z : State} {a0 : Array Value} (G : Env1 Z a0) (x : Addr) (b : Addr) (v0 : Value) (c0 : Value) (h0 : Heap) (A : Exa Z h0 x STN) (F0 : Fld Z h0 x STN "value" "[B" v0) (F1 : Fld Z h0 x STN "coder" "B" c0) :
    Ct l Z EL1 [x] [] (⟨"java/lang/String", "<init>", "([CIILjava/lang/Void;)V"⟩ : MethodName) jdk_42_method_149_code 6 none ({ frames := 1, cells := 4, slots := 8, locals := 12 } : Room) #[(.ref x), (.ref b), (.int (0 : Int32)), (.int (0 : Int32)), Value.null] h0 (fun v h => v = none ∧ Keep h0 h [x] ∧ Str Z h x []) := by
  refine Ct.of_seg (a0 := a0) (plainFor_of_name pn_java_lang_String) G.2.1 (ef_ct_si4e x b v0 c0) ?_
  refine Seg.aloadN d4_0 rfl rfl (pc' := 1) rfl ?_
  refine Seg.initO (wd G 21 rfl) (wd G 22 rfl) (wd G 23 rfl) rfl d4_1 (pc' := 4) rfl (by decide) (W := 0) (Nat.le_of_eq rfl) (by decide) ?_
  refine Seg.iloadN d4_4 rfl (pc' := 5) rfl ?_
  refine Seg.ifN d4_5 (by decide) (pc' := 8) rfl ?_
  refine Seg.aloadN d4_8 rfl rfl (pc' := 9) rfl ?_
  refine Seg.ldcS (text := "") (vs := []) (z := 0) (nn := 0) (wd G 24 rfl) (wS G) (by decide) (by decide +kernel) (by decide) (by decide) d4_9 (pc' := 11) rfl (by decide) (by decide) (k' := 2) (n' := 4) rfl rfl (by decide) (by decide) ?_
  intro a_1 h_10 b_2 kb_3 E_4 A_5 F_6 F_7 A_8 ne_9
  refine Seg.getF (host := "") (Or.inl (wd G 30 rfl)) Via.refl F_7 d4_11 (pc' := 14) rfl ?_
  have F_11 := F0.ext E_4
  have F_12 := A.ext E_4
  refine Seg.putF (host := "") (ty := (.array .byte)) (v' := (.ref b_2)) (wd G 30 rfl) Via.refl F_11 F_12 (Or.inr ⟨(wd G 26 rfl), rfl, rfl⟩) (wd G 11 rfl) (by decide) rfl rfl (List.mem_of_getElem? (i := 0) rfl) d4_14 (pc' := 17) rfl ?_
  intro h_15 W_13 F_14
  refine Seg.aloadN d4_17 rfl rfl (pc' := 18) rfl ?_
  refine Seg.ldcS (text := "") (vs := []) (z := 0) (nn := 0) (wd G 24 rfl) (wS G) (by decide) (by decide +kernel) (by decide) (by decide) d4_18 (pc' := 20) rfl (by decide) (by decide) (k' := 4) (n' := 8) rfl rfl (by decide) (by decide) ?_
  intro a_16 h_25 b_17 kb_18 E_19 A_20 F_21 F_22 A_23 ne_24
  refine Seg.getF (host := "") (Or.inl (wd G 31 rfl)) Via.refl F_21 d4_20 (pc' := 23) rfl ?_
  have F_26 := (((F1.ext E_4).other W_13 (Or.inr (slot_ne (Or.inr (wd G 27 rfl)) (Or.inr (wd G 26 rfl)) (by decide) (t := .byte) (t' := (.array .byte)) (by decide) (by decide)))).ext E_19)
  have F_27 := ((F_12.wr W_13).ext E_19)
  refine Seg.putF (host := "") (ty := .byte) (v' := (.int (0 : Int32))) (wd G 31 rfl) Via.refl F_26 F_27 (Or.inr ⟨(wd G 27 rfl), rfl, rfl⟩) (wd G 11 rfl) (by decide) rfl rfl (List.mem_of_getElem? (i := 0) rfl) d4_23 (pc' := 26) rfl ?_
  intro h_30 W_28 F_29
  have F_31 := (F_27.wr W_28)
  have F_32 := ((F_14.ext E_19).other W_28 (Or.inr (slot_ne (Or.inr (wd G 26 rfl)) (Or.inr (wd G 27 rfl)) (by decide) (t := (.array .byte)) (t' := .byte) (by decide) (by decide))))
  have F_33 := (((A_8.keep (Keep.of_wr W_13) (ninS (ne_9 x (List.mem_of_getElem? (i := 0) rfl)).2.symm nin0)).ext E_19).keep (Keep.of_wr W_28) (ninS (ne_9 x (List.mem_of_getElem? (i := 0) rfl)).2.symm nin0))
  exact Seg.ret0 rfl d4_26 (by decide) (by decide) ⟨rfl, (((((Keep.refl h0 [x]).ext E_4).wr W_13 (Or.inl (List.mem_of_getElem? (i := 0) rfl))).ext E_19).wr W_28 (Or.inl (List.mem_of_getElem? (i := 0) rfl))), b_2, kb_3, 0, 0, [], F_31, F_32, F_29, F_33, Or.inl ⟨rfl, rfl, rfl, (fun c q => nomatch q)⟩, (fun c q => nomatch q), (by decide)⟩
theorem d3_0 : decode jdk_42_method_3_code 0 = .ok (.aload_n 0, 1) := by decide +kernel
theorem d3_1 : decode jdk_42_method_3_code 1 = .ok (.aload_n 1, 1) := by decide +kernel
theorem d3_2 : decode jdk_42_method_3_code 2 = .ok (.iconst 0, 1) := by decide +kernel
theorem d3_3 : decode jdk_42_method_3_code 3 = .ok (.aload_n 1, 1) := by decide +kernel
theorem d3_4 : decode jdk_42_method_3_code 4 = .ok (.arraylength, 1) := by decide +kernel
theorem d3_5 : decode jdk_42_method_3_code 5 = .ok (.aconst_null, 1) := by decide +kernel
theorem d3_6 : decode jdk_42_method_3_code 6 = .ok (.invokespecial 27, 3) := by decide +kernel
theorem pd_0 : parseMethodDescriptor "([CIILjava/lang/Void;)V" = some ⟨[(.array .char), .int, .int, (.object "java/lang/Void")], none⟩ := by decide +kernel
theorem d3_9 : decode jdk_42_method_3_code 9 = .ok (.return_, 1) := by decide +kernel
theorem ef_ct_sie (x : Addr) (b : Addr) (v0 : Value) (c0 : Value) (kc : ClassId) (d : Value) (m : MethodId) : entryFrame m #[(.ref x), (.ref b)] 2 = mkF m 0 #[.val (.ref x), .val (.ref b)] [] := by first | (simp [entryFrame, mkF, argsToLocals, Value.category]; done) | rfl
set_option maxRecDepth 65536 in
set_option maxHeartbeats 4000000 in
theorem ct_sie {l : Launch} {Z : State} {a0 : Array Value} (G : Env1 Z a0) (x : Addr) (b : Addr) (v0 : Value) (c0 : Value) (kc : ClassId) (d : Value) (h0 : Heap) (A : Exa Z h0 x STN) (F0 : Fld Z h0 x STN "value" "[B" v0) (F1 : Fld Z h0 x STN "coder" "B" c0) (Ab : Arv Z h0 b kc .char 0 [] d) :
    Ct l Z EL1 [x] [] (⟨"java/lang/String", "<init>", "([C)V"⟩ : MethodName) jdk_42_method_3_code 2 none ({ frames := 2, cells := 4, slots := 8, locals := 29 } : Room) #[(.ref x), (.ref b)] h0 (fun v h => v = none ∧ Keep h0 h [x] ∧ Str Z h x []) := by
  refine Ct.of_seg (a0 := a0) (plainFor_of_name pn_java_lang_String) G.2.1 (ef_ct_sie x b v0 c0 kc d) ?_
  refine Seg.aloadN d3_0 rfl rfl (pc' := 1) rfl ?_
  refine Seg.aloadN d3_1 rfl rfl (pc' := 2) rfl ?_
  refine Seg.iconst (v := 0) d3_2 (by decide) (pc' := 3) rfl ?_
  refine Seg.aloadN d3_3 rfl rfl (pc' := 4) rfl ?_
  refine Seg.alen Ab d3_4 (pc' := 5) rfl ?_
  refine Seg.anull d3_5 (pc' := 6) rfl ?_
  refine Seg.callN (y' := (⟨"java/lang/String", "<init>", "([CIILjava/lang/Void;)V"⟩ : MethodName)) (a := x) rfl (wd G 17 rfl) (wd G 18 rfl) (wd G 20 rfl) ⟨by decide, by decide⟩ (Pays.of_ct (W := 0) (ct_si4e G x b v0 c0 h0 A F0 F1) (allS (List.mem_of_getElem? (i := 0) rfl) all0) (wd G 20 rfl) (wd G 12 rfl) (by decide) (by decide) rfl rfl) (argsL := [(.ref b), (.int (0 : Int32)), (.int (0 : Int32)), Value.null]) (rest := []) rfl (lenOf pd_0 rfl) rfl (Nat.le_of_eq rfl) rfl d3_6 (pc' := 9) rfl (k' := 4) (n' := 8) rfl rfl (by decide) (by decide) ?_
  intro v_1 h_4 sz_2 q_3
  obtain ⟨rfl, K, F⟩ := q_3
  exact Seg.ret0 rfl d3_9 (by decide) (by decide) ⟨rfl, K, F⟩
theorem d18_0 : decode jdk_52_method_4_code 0 = .ok (.getstatic 44, 3) := by decide +kernel
theorem d18_3 : decode jdk_52_method_4_code 3 = .ok (.ifCond .ne 25, 3) := by decide +kernel
theorem d18_28 : decode jdk_52_method_4_code 28 = .ok (.iload_n 1, 1) := by decide +kernel
theorem d18_29 : decode jdk_52_method_4_code 29 = .ok (.iconst 1, 1) := by decide +kernel
theorem d18_30 : decode jdk_52_method_4_code 30 = .ok (.ishl, 1) := by decide +kernel
theorem d18_31 : decode jdk_52_method_4_code 31 = .ok (.istore_n 1, 1) := by decide +kernel
theorem d18_32 : decode jdk_52_method_4_code 32 = .ok (.aload_n 0, 1) := by decide +kernel
theorem d18_33 : decode jdk_52_method_4_code 33 = .ok (.iload_n 1, 1) := by decide +kernel
theorem d18_34 : decode jdk_52_method_4_code 34 = .ok (.iinc 1 1, 3) := by decide +kernel
theorem d18_37 : decode jdk_52_method_4_code 37 = .ok (.iload_n 2, 1) := by decide +kernel
theorem d18_38 : decode jdk_52_method_4_code 38 = .ok (.getstatic 59, 3) := by decide +kernel
theorem d18_41 : decode jdk_52_method_4_code 41 = .ok (.ishr, 1) := by decide +kernel
theorem d18_42 : decode jdk_52_method_4_code 42 = .ok (.i2b, 1) := by decide +kernel
theorem d18_43 : decode jdk_52_method_4_code 43 = .ok (.bastore, 1) := by decide +kernel
theorem d18_44 : decode jdk_52_method_4_code 44 = .ok (.aload_n 0, 1) := by decide +kernel
theorem d18_45 : decode jdk_52_method_4_code 45 = .ok (.iload_n 1, 1) := by decide +kernel
theorem d18_46 : decode jdk_52_method_4_code 46 = .ok (.iload_n 2, 1) := by decide +kernel
theorem d18_47 : decode jdk_52_method_4_code 47 = .ok (.getstatic 63, 3) := by decide +kernel
theorem d18_50 : decode jdk_52_method_4_code 50 = .ok (.ishr, 1) := by decide +kernel
theorem d18_51 : decode jdk_52_method_4_code 51 = .ok (.i2b, 1) := by decide +kernel
theorem d18_52 : decode jdk_52_method_4_code 52 = .ok (.bastore, 1) := by decide +kernel
theorem d18_53 : decode jdk_52_method_4_code 53 = .ok (.return_, 1) := by decide +kernel
theorem pn_java_lang_StringUTF16 : plainName "java/lang/StringUTF16" = true := by first | (simp [plainName, overriddenIn]; done) | decide +kernel
theorem ef_ct_putc (b : Addr) (kb : ClassId) (n : Nat) (vs : List Value) (i : Nat) (u : Int32) (m : MethodId) : entryFrame m #[(.ref b), (.int (Int32.ofNat i)), (.int u)] 3 = mkF m 0 #[.val (.ref b), .val (.int (Int32.ofNat i)), .val (.int u)] [] := by first | (simp [entryFrame, mkF, argsToLocals, Value.category]; done) | rfl
set_option maxRecDepth 65536 in
set_option maxHeartbeats 4000000 in
theorem ct_putc {l : Launch} {Z : State} {a0 : Array Value} (G : Env1 Z a0) (b : Addr) (kb : ClassId) (n : Nat) (vs : List Value) (i : Nat) (u : Int32) (h0 : Heap) (K : Arv Z h0 b kb .byte (Int32.ofNat n) vs (.int 0)) (hn : n ≤ 10000) (hl : vs.length = n) (hi : 2 * i + 1 < n) :
    Ct l Z EL1 [b] [] (⟨"java/lang/StringUTF16", "putChar", "([BII)V"⟩ : MethodName) jdk_52_method_4_code 3 none ({ frames := 0, cells := 0, slots := 0, locals := 0 } : Room) #[(.ref b), (.int (Int32.ofNat i)), (.int u)] h0 (fun v h => v = none ∧ Keep h0 h [b] ∧ Arv Z h b kb .byte (Int32.ofNat n) ((vs.set (2 * i) (.int (StrChars.lo8 u))).set (2 * i + 1) (.int (StrChars.hi8 u))) (.int 0)) := by
  refine Ct.of_seg (a0 := a0) (plainFor_of_name pn_java_lang_StringUTF16) G.2.1 (ef_ct_putc b kb n vs i u) ?_
  refine Seg.getS (wd G 81 rfl) Via.refl G.2.2.2.2.1 d18_0 (pc' := 3) rfl ?_
  refine Seg.ifY (pc' := 28) d18_3 (by decide) (by decide) (by decide) ?_
  refine Seg.iloadN d18_28 rfl (pc' := 29) rfl ?_
  refine Seg.iconst (v := 1) d18_29 (by decide) (pc' := 30) rfl ?_
  refine Seg.ishl (v := (Int32.ofNat (2 * i))) d18_30 (n32dbl (by omega)) (pc' := 31) rfl ?_
  refine Seg.istoreN (L' := #[.val (.ref b), .val (.int (Int32.ofNat (2 * i))), .val (.int u)]) d18_31 rfl (pc' := 32) rfl ?_
  refine Seg.aloadN d18_32 rfl rfl (pc' := 33) rfl ?_
  refine Seg.iloadN d18_33 rfl (pc' := 34) rfl ?_
  refine Seg.iinc (v := 1) (z := (Int32.ofNat (2 * i + 1))) (L' := #[.val (.ref b), .val (.int (Int32.ofNat (2 * i + 1))), .val (.int u)]) d18_34 (by decide) rfl (n32s _) rfl (pc' := 37) rfl ?_
  refine Seg.iloadN d18_37 rfl (pc' := 38) rfl ?_
  refine Seg.getS (wd G 82 rfl) Via.refl G.2.2.2.2.2.1 d18_38 (pc' := 41) rfl ?_
  refine Seg.ishr (v := u) d18_41 (shr0 u) (pc' := 42) rfl ?_
  refine Seg.i2b (v := (u).toInt8.toInt32) d18_42 rfl (pc' := 43) rfl ?_
  refine Seg.bastore (v' := (StrChars.lo8 u)) (i := 2 * i) K (n32in (by omega) (by omega)) (n32c (by omega)) (by omega) (narb _) (List.mem_of_getElem? (i := 0) rfl) d18_43 (pc' := 44) rfl ?_
  intro h_3 W_1 A_2
  refine Seg.aloadN d18_44 rfl rfl (pc' := 45) rfl ?_
  refine Seg.iloadN d18_45 rfl (pc' := 46) rfl ?_
  refine Seg.iloadN d18_46 rfl (pc' := 47) rfl ?_
  refine Seg.getS (wd G 83 rfl) Via.refl G.2.2.2.2.2.2 d18_47 (pc' := 50) rfl ?_
  refine Seg.ishr (v := (u >>> ((8 : Int32) &&& 31))) d18_50 rfl (pc' := 51) rfl ?_
  refine Seg.i2b (v := ((u >>> ((8 : Int32) &&& 31))).toInt8.toInt32) d18_51 rfl (pc' := 52) rfl ?_
  refine Seg.bastore (v' := (StrChars.hi8 u)) (i := 2 * i + 1) A_2 (n32in (by omega) (by omega)) (n32c (by omega)) (by rw [List.length_set]; omega) (narb _) (List.mem_of_getElem? (i := 0) rfl) d18_52 (pc' := 53) rfl ?_
  intro h_6 W_4 A_5
  exact Seg.ret0 rfl d18_53 (by decide) (by decide) ⟨rfl, ((Keep.refl h0 [b]).wr W_1 (Or.inl (List.mem_of_getElem? (i := 0) rfl))).wr W_4 (Or.inl (List.mem_of_getElem? (i := 0) rfl)), A_5⟩
theorem d19_0 : decode jdk_52_method_5_code 0 = .ok (.getstatic 44, 3) := by decide +kernel
theorem d19_3 : decode jdk_52_method_5_code 3 = .ok (.ifCond .ne 25, 3) := by decide +kernel
theorem d19_28 : decode jdk_52_method_5_code 28 = .ok (.iload_n 1, 1) := by decide +kernel
theorem d19_29 : decode jdk_52_method_5_code 29 = .ok (.iconst 1, 1) := by decide +kernel
theorem d19_30 : decode jdk_52_method_5_code 30 = .ok (.ishl, 1) := by decide +kernel
theorem d19_31 : decode jdk_52_method_5_code 31 = .ok (.istore_n 1, 1) := by decide +kernel
theorem d19_32 : decode jdk_52_method_5_code 32 = .ok (.aload_n 0, 1) := by decide +kernel
theorem d19_33 : decode jdk_52_method_5_code 33 = .ok (.iload_n 1, 1) := by decide +kernel
theorem d19_34 : decode jdk_52_method_5_code 34 = .ok (.iinc 1 1, 3) := by decide +kernel
theorem d19_37 : decode jdk_52_method_5_code 37 = .ok (.baload, 1) := by decide +kernel
theorem d19_38 : decode jdk_52_method_5_code 38 = .ok (.sipush 255, 3) := by decide +kernel
theorem d19_41 : decode jdk_52_method_5_code 41 = .ok (.iand, 1) := by decide +kernel
theorem d19_42 : decode jdk_52_method_5_code 42 = .ok (.getstatic 59, 3) := by decide +kernel
theorem d19_45 : decode jdk_52_method_5_code 45 = .ok (.ishl, 1) := by decide +kernel
theorem d19_46 : decode jdk_52_method_5_code 46 = .ok (.aload_n 0, 1) := by decide +kernel
theorem d19_47 : decode jdk_52_method_5_code 47 = .ok (.iload_n 1, 1) := by decide +kernel
theorem d19_48 : decode jdk_52_method_5_code 48 = .ok (.baload, 1) := by decide +kernel
theorem d19_49 : decode jdk_52_method_5_code 49 = .ok (.sipush 255, 3) := by decide +kernel
theorem d19_52 : decode jdk_52_method_5_code 52 = .ok (.iand, 1) := by decide +kernel
theorem d19_53 : decode jdk_52_method_5_code 53 = .ok (.getstatic 63, 3) := by decide +kernel
theorem d19_56 : decode jdk_52_method_5_code 56 = .ok (.ishl, 1) := by decide +kernel
theorem d19_57 : decode jdk_52_method_5_code 57 = .ok (.ior, 1) := by decide +kernel
theorem d19_58 : decode jdk_52_method_5_code 58 = .ok (.i2c, 1) := by decide +kernel
theorem d19_59 : decode jdk_52_method_5_code 59 = .ok (.ireturn, 1) := by decide +kernel
theorem ef_ct_getc (b : Addr) (kb : ClassId) (cs : List Int32) (i : Nat) (m : MethodId) : entryFrame m #[(.ref b), (.int (Int32.ofNat i))] 2 = mkF m 0 #[.val (.ref b), .val (.int (Int32.ofNat i))] [] := by first | (simp [entryFrame, mkF, argsToLocals, Value.category]; done) | rfl
set_option maxRecDepth 65536 in
set_option maxHeartbeats 4000000 in
theorem ct_getc {l : Launch} {Z : State} {a0 : Array Value} (G : Env1 Z a0) (b : Addr) (kb : ClassId) (cs : List Int32) (i : Nat) (h0 : Heap) (K : Arv Z h0 b kb .byte (Int32.ofNat (2 * cs.length)) (StrChars.Road.wideBytes cs) (.int 0)) (hr : ∀ c ∈ cs, ¬ c < 0 ∧ ¬ (65535 : Int32) < c) (hl : cs.length ≤ 4000) (hi : i < cs.length) :
    Ct l Z EL1 [] [] (⟨"java/lang/StringUTF16", "getChar", "([BI)C"⟩ : MethodName) jdk_52_method_5_code 2 (some .char) ({ frames := 0, cells := 0, slots := 0, locals := 0 } : Room) #[(.ref b), (.int (Int32.ofNat i))] h0 (fun v h => v = some (.int (cs.getD i 0)) ∧ h0 = h) := by
  refine Ct.of_seg (a0 := a0) (plainFor_of_name pn_java_lang_StringUTF16) G.2.1 (ef_ct_getc b kb cs i) ?_
  refine Seg.getS (wd G 81 rfl) Via.refl G.2.2.2.2.1 d19_0 (pc' := 3) rfl ?_
  refine Seg.ifY (pc' := 28) d19_3 (by decide) (by decide) (by decide) ?_
  refine Seg.iloadN d19_28 rfl (pc' := 29) rfl ?_
  refine Seg.iconst (v := 1) d19_29 (by decide) (pc' := 30) rfl ?_
  refine Seg.ishl (v := (Int32.ofNat (2 * i))) d19_30 (n32dbl (by omega)) (pc' := 31) rfl ?_
  refine Seg.istoreN (L' := #[.val (.ref b), .val (.int (Int32.ofNat (2 * i)))]) d19_31 rfl (pc' := 32) rfl ?_
  refine Seg.aloadN d19_32 rfl rfl (pc' := 33) rfl ?_
  refine Seg.iloadN d19_33 rfl (pc' := 34) rfl ?_
  refine Seg.iinc (v := 1) (z := (Int32.ofNat (2 * i + 1))) (L' := #[.val (.ref b), .val (.int (Int32.ofNat (2 * i + 1)))]) d19_34 (by decide) rfl (n32s _) rfl (pc' := 37) rfl ?_
  refine Seg.baload (v := (.int (StrChars.lo8 (cs.getD i 0)))) K (n32in (by omega) (by omega)) (by rw [n32c (by omega)]; exact StrChars.Road.wide_lo _ cs i hi) d19_37 (pc' := 38) rfl ?_
  refine Seg.sipush (v := 255) d19_38 (by decide) (pc' := 41) rfl ?_
  refine Seg.iand (v := ((StrChars.lo8 (cs.getD i 0)) &&& (255 : Int32))) d19_41 rfl (pc' := 42) rfl ?_
  refine Seg.getS (wd G 82 rfl) Via.refl G.2.2.2.2.2.1 d19_42 (pc' := 45) rfl ?_
  refine Seg.ishl (v := (StrChars.lo8 (cs.getD i 0) &&& (255 : Int32))) d19_45 (shl0 _) (pc' := 46) rfl ?_
  refine Seg.aloadN d19_46 rfl rfl (pc' := 47) rfl ?_
  refine Seg.iloadN d19_47 rfl (pc' := 48) rfl ?_
  refine Seg.baload (v := (.int (StrChars.hi8 (cs.getD i 0)))) K (n32in (by omega) (by omega)) (by rw [n32c (by omega)]; exact StrChars.Road.wide_hi _ cs i hi) d19_48 (pc' := 49) rfl ?_
  refine Seg.sipush (v := 255) d19_49 (by decide) (pc' := 52) rfl ?_
  refine Seg.iand (v := ((StrChars.hi8 (cs.getD i 0)) &&& (255 : Int32))) d19_52 rfl (pc' := 53) rfl ?_
  refine Seg.getS (wd G 83 rfl) Via.refl G.2.2.2.2.2.2 d19_53 (pc' := 56) rfl ?_
  refine Seg.ishl (v := (((StrChars.hi8 (cs.getD i 0)) &&& (255 : Int32)) <<< ((8 : Int32) &&& 31))) d19_56 rfl (pc' := 57) rfl ?_
  refine Seg.ior (v := ((StrChars.lo8 (cs.getD i 0) &&& (255 : Int32)) ||| (((StrChars.hi8 (cs.getD i 0)) &&& (255 : Int32)) <<< ((8 : Int32) &&& 31)))) d19_57 rfl (pc' := 58) rfl ?_
  have hg := mem_getD hr hi
  refine Seg.i2c (v := (cs.getD i 0)) d19_58 (getc hg) (pc' := 59) rfl ?_
  exact Seg.retN (t := .char) (w := (cs.getD i 0)) rfl (by decide) (nar16 hg) d19_59 (by decide) (by decide) ⟨rfl, rfl⟩
theorem d17_0 : decode jdk_52_method_3_code 0 = .ok (.iload_n 0, 1) := by decide +kernel
theorem d17_1 : decode jdk_52_method_3_code 1 = .ok (.ifCond .ge 11, 3) := by decide +kernel
theorem d17_12 : decode jdk_52_method_3_code 12 = .ok (.iload_n 0, 1) := by decide +kernel
theorem d17_13 : decode jdk_52_method_3_code 13 = .ok (.ldc 20, 2) := by decide +kernel
theorem d17_15 : decode jdk_52_method_3_code 15 = .ok (.if_icmp .lt 40, 3) := by decide +kernel
theorem d17_55 : decode jdk_52_method_3_code 55 = .ok (.iload_n 0, 1) := by decide +kernel
theorem d17_56 : decode jdk_52_method_3_code 56 = .ok (.iconst 1, 1) := by decide +kernel
theorem d17_57 : decode jdk_52_method_3_code 57 = .ok (.ishl, 1) := by decide +kernel
theorem d17_58 : decode jdk_52_method_3_code 58 = .ok (.ireturn, 1) := by decide +kernel
theorem ef_ct_nbl1 (m : MethodId) : entryFrame m #[(.int (1 : Int32))] 1 = mkF m 0 #[.val (.int (1 : Int32))] [] := by first | (simp [entryFrame, mkF, argsToLocals, Value.category]; done) | rfl
set_option maxRecDepth 65536 in
set_option maxHeartbeats 4000000 in
theorem ct_nbl1 {l : Launch} {Z : State} {a0 : Array Value} (G : Env1 Z a0) (h0 : Heap) :
    Ct l Z EL1 [] [] (⟨"java/lang/StringUTF16", "newBytesLength", "(I)I"⟩ : MethodName) jdk_52_method_3_code 1 (some .int) ({ frames := 0, cells := 0, slots := 0, locals := 0 } : Room) #[(.int (1 : Int32))] h0 (fun v h => v = some (.int 2) ∧ h0 = h) := by
  refine Ct.of_seg (a0 := a0) (plainFor_of_name pn_java_lang_StringUTF16) G.2.1 (ef_ct_nbl1 ) ?_
  refine Seg.iloadN d17_0 rfl (pc' := 1) rfl ?_
  refine Seg.ifY (pc' := 12) d17_1 (by decide) (by decide) (by decide) ?_
  refine Seg.iloadN d17_12 rfl (pc' := 13) rfl ?_
  refine Seg.ldcI (wd G 77 rfl) d17_13 (pc' := 15) rfl ?_
  refine Seg.icY (pc' := 55) d17_15 (by decide) (by decide) (by decide) ?_
  refine Seg.iloadN d17_55 rfl (pc' := 56) rfl ?_
  refine Seg.iconst (v := 1) d17_56 (by decide) (pc' := 57) rfl ?_
  refine Seg.ishl (v := (2 : Int32)) d17_57 (by decide) (pc' := 58) rfl ?_
  exact Seg.retI rfl d17_58 (by decide) (by decide) ⟨rfl, rfl⟩
theorem d16_0 : decode jdk_52_method_2_code 0 = .ok (.iload_n 0, 1) := by decide +kernel
theorem d16_1 : decode jdk_52_method_2_code 1 = .ok (.invokestatic 11, 3) := by decide +kernel
theorem pd_1 : parseMethodDescriptor "(I)I" = some ⟨[.int], some .int⟩ := by decide +kernel
theorem d16_4 : decode jdk_52_method_2_code 4 = .ok (.newarray .byte, 2) := by decide +kernel
theorem d16_6 : decode jdk_52_method_2_code 6 = .ok (.areturn, 1) := by decide +kernel
theorem ef_ct_nbf1 (m : MethodId) : entryFrame m #[(.int (1 : Int32))] 1 = mkF m 0 #[.val (.int (1 : Int32))] [] := by first | (simp [entryFrame, mkF, argsToLocals, Value.category]; done) | rfl
set_option maxRecDepth 65536 in
set_option maxHeartbeats 4000000 in
theorem ct_nbf1 {l : Launch} {Z : State} {a0 : Array Value} (G : Env1 Z a0) (h0 : Heap) :
    Ct l Z EL1 [] [] (⟨"java/lang/StringUTF16", "newBytesFor", "(I)[B"⟩ : MethodName) jdk_52_method_2_code 1 (some (.array .byte)) ({ frames := 1, cells := 1, slots := 2, locals := 12 } : Room) #[(.int (1 : Int32))] h0 (fun v h => ∃ (r : Addr) (kr : ClassId), v = some (.ref r) ∧ Ext h0 h ∧ h0.size ≤ r ∧ Arv Z h r kr .byte 2 [(.int 0), (.int 0)] (.int 0)) := by
  refine Ct.of_seg (a0 := a0) (plainFor_of_name pn_java_lang_StringUTF16) G.2.1 (ef_ct_nbf1 ) ?_
  refine Seg.iloadN d16_0 rfl (pc' := 1) rfl ?_
  refine Seg.callS (y' := (⟨"java/lang/StringUTF16", "newBytesLength", "(I)I"⟩ : MethodName)) (wd G 74 rfl) (wd G 75 rfl) (wd G 63 rfl) (wd G 76 rfl) ⟨by decide, by decide⟩ (Pays.of_ct (W := 0) (ct_nbl1 G  h0) all0 (wd G 76 rfl) (wd G 63 rfl) (by decide) (by decide) rfl rfl) (argsL := [(.int (1 : Int32))]) (rest := []) rfl (lenOf pd_1 rfl) rfl (Nat.le_of_eq rfl) rfl d16_1 (pc' := 4) rfl (k' := 0) (n' := 0) rfl rfl (by decide) (by decide) ?_
  intro v_1 h_4 sz_2 q_3
  obtain ⟨rfl, rfl⟩ := q_3
  refine Seg.newP (ty := .byte) (dv := (.int 0)) rfl rfl (wd G 25 rfl) d16_4 (pc' := 6) rfl (by decide) (cap := 2) (by decide) (by decide) (k' := 1) (n' := 2) rfl rfl (by decide) (by decide) ?_
  intro b_5 h_7 k_b_5 E_6 e_b_5 l_b_5 A_b_5
  replace A_b_5 : Arv Z h_7 b_5 k_b_5 .byte (2 : Int32) [(.int (0 : Int32)), (.int (0 : Int32))] (.int 0) := A_b_5.pad (pad_rep [] (.int 0) 2)
  exact Seg.retA rfl rfl rfl d16_6 (by decide) (by decide) ⟨b_5, k_b_5, rfl, E_6, (Nat.le_trans (ext_rfl _).1 (Nat.le_of_eq e_b_5)), A_b_5⟩
theorem d15_0 : decode jdk_52_method_14_code 0 = .ok (.iload_n 2, 1) := by decide +kernel
theorem d15_1 : decode jdk_52_method_14_code 1 = .ok (.invokestatic 107, 3) := by decide +kernel
theorem pd_2 : parseMethodDescriptor "(I)[B" = some ⟨[.int], some (.array .byte)⟩ := by decide +kernel
theorem d15_4 : decode jdk_52_method_14_code 4 = .ok (.astore_n 3, 1) := by decide +kernel
theorem d15_5 : decode jdk_52_method_14_code 5 = .ok (.iconst 0, 1) := by decide +kernel
theorem d15_6 : decode jdk_52_method_14_code 6 = .ok (.istore 4, 2) := by decide +kernel
theorem d15_8 : decode jdk_52_method_14_code 8 = .ok (.iload 4, 2) := by decide +kernel
theorem d15_10 : decode jdk_52_method_14_code 10 = .ok (.iload_n 2, 1) := by decide +kernel
theorem d15_11 : decode jdk_52_method_14_code 11 = .ok (.if_icmp .ge 21, 3) := by decide +kernel
theorem d15_14 : decode jdk_52_method_14_code 14 = .ok (.aload_n 3, 1) := by decide +kernel
theorem d15_15 : decode jdk_52_method_14_code 15 = .ok (.iload 4, 2) := by decide +kernel
theorem d15_17 : decode jdk_52_method_14_code 17 = .ok (.aload_n 0, 1) := by decide +kernel
theorem d15_18 : decode jdk_52_method_14_code 18 = .ok (.iload_n 1, 1) := by decide +kernel
theorem d15_19 : decode jdk_52_method_14_code 19 = .ok (.caload, 1) := by decide +kernel
theorem d15_20 : decode jdk_52_method_14_code 20 = .ok (.invokestatic 111, 3) := by decide +kernel
theorem pd_3 : parseMethodDescriptor "([BII)V" = some ⟨[(.array .byte), .int, .int], none⟩ := by decide +kernel
theorem d15_23 : decode jdk_52_method_14_code 23 = .ok (.iinc 1 1, 3) := by decide +kernel
theorem d15_26 : decode jdk_52_method_14_code 26 = .ok (.iinc 4 1, 3) := by decide +kernel
theorem d15_29 : decode jdk_52_method_14_code 29 = .ok (.goto (-21), 3) := by decide +kernel
theorem d15_32 : decode jdk_52_method_14_code 32 = .ok (.aload_n 3, 1) := by decide +kernel
theorem d15_33 : decode jdk_52_method_14_code 33 = .ok (.areturn, 1) := by decide +kernel
theorem ef_ct_toB1 (a : Addr) (ka : ClassId) (d : Value) (u0 : Int32) (m : MethodId) : entryFrame m #[(.ref a), (.int (0 : Int32)), (.int (1 : Int32))] 5 = mkF m 0 #[.val (.ref a), .val (.int (0 : Int32)), .val (.int (1 : Int32)), .unset, .unset] [] := by first | (simp [entryFrame, mkF, argsToLocals, Value.category]; done) | rfl
set_option maxRecDepth 65536 in
set_option maxHeartbeats 4000000 in
theorem ct_toB1 {l : Launch} {Z : State} {a0 : Array Value} (G : Env1 Z a0) (a : Addr) (ka : ClassId) (d : Value) (u0 : Int32) (h0 : Heap) (Ka : Arv Z h0 a ka .char 1 [(.int u0)] d) :
    Ct l Z EL1 [] [] (⟨"java/lang/StringUTF16", "toBytes", "([CII)[B"⟩ : MethodName) jdk_52_method_14_code 5 (some (.array .byte)) ({ frames := 2, cells := 1, slots := 2, locals := 24 } : Room) #[(.ref a), (.int (0 : Int32)), (.int (1 : Int32))] h0 (fun v h => ∃ (r : Addr) (kr : ClassId), v = some (.ref r) ∧ Ext h0 h ∧ h0.size ≤ r ∧ Arv Z h r kr .byte 2 (StrChars.Road.wideBytes [u0]) (.int 0)) := by
  refine Ct.of_seg (a0 := a0) (plainFor_of_name pn_java_lang_StringUTF16) G.2.1 (ef_ct_toB1 a ka d u0) ?_
  refine Seg.start fun hZ0 => ?_
  refine Seg.iloadN d15_0 rfl (pc' := 1) rfl ?_
  refine Seg.callS (y' := (⟨"java/lang/StringUTF16", "newBytesFor", "(I)[B"⟩ : MethodName)) (wd G 71 rfl) (wd G 72 rfl) (wd G 63 rfl) (wd G 73 rfl) ⟨by decide, by decide⟩ (Pays.of_ct (W := 0) (ct_nbf1 G  h0) all0 (wd G 73 rfl) (wd G 63 rfl) (by decide) (by decide) rfl rfl) (argsL := [(.int (1 : Int32))]) (rest := []) rfl (lenOf pd_2 rfl) rfl (Nat.le_of_eq rfl) rfl d15_1 (pc' := 4) rfl (k' := 1) (n' := 2) rfl rfl (by decide) (by decide) ?_
  intro v_1 h_4 sz_2 q_3
  obtain ⟨r, kr, rfl, E1, g1, A1⟩ := q_3
  have l_r := A1.lt
  refine Seg.adopt A1 (fun _ => Nat.le_trans hZ0.1 g1) (litw G 2 (by decide)) ?_
  refine Seg.astoreN (L' := #[.val (.ref a), .val (.int (0 : Int32)), .val (.int (1 : Int32)), .val (.ref r), .unset]) d15_4 rfl rfl (pc' := 5) rfl ?_
  refine Seg.iconst (v := 0) d15_5 (by decide) (pc' := 6) rfl ?_
  refine Seg.istore (L' := #[.val (.ref a), .val (.int (0 : Int32)), .val (.int (1 : Int32)), .val (.ref r), .val (.int (0 : Int32))]) d15_6 rfl (pc' := 8) rfl ?_
  refine Seg.iload d15_8 rfl (pc' := 10) rfl ?_
  refine Seg.iloadN d15_10 rfl (pc' := 11) rfl ?_
  refine Seg.icN d15_11 (by decide) (pc' := 14) rfl ?_
  refine Seg.aloadN d15_14 rfl rfl (pc' := 15) rfl ?_
  refine Seg.iload d15_15 rfl (pc' := 17) rfl ?_
  refine Seg.aloadN d15_17 rfl rfl (pc' := 18) rfl ?_
  refine Seg.iloadN d15_18 rfl (pc' := 19) rfl ?_
  have F_5 := Ka.ext E1
  refine Seg.caload (v := (.int u0)) F_5 ⟨by decide, by decide⟩ rfl d15_19 (pc' := 20) rfl ?_
  refine Seg.callS (y' := (⟨"java/lang/StringUTF16", "putChar", "([BII)V"⟩ : MethodName)) (wd G 78 rfl) (wd G 79 rfl) (wd G 63 rfl) (wd G 80 rfl) ⟨by decide, by decide⟩ (Pays.of_ct (W := 0) (ct_putc G r kr 2 [(.int 0), (.int 0)] 0 u0 h_4 A1 (by decide) rfl (by decide)) (allS (List.mem_of_getElem? (i := 0) rfl) all0) (wd G 80 rfl) (wd G 63 rfl) (by decide) (by decide) rfl rfl) (argsL := [(.ref r), (.int (0 : Int32)), (.int u0)]) (rest := []) rfl (lenOf pd_3 rfl) rfl (Nat.le_of_eq rfl) rfl d15_20 (pc' := 23) rfl (k' := 1) (n' := 2) rfl rfl (by decide) (by decide) ?_
  intro v_6 h_9 sz_7 q_8
  obtain ⟨rfl, K0, B0⟩ := q_8
  replace B0 : Arv Z h_9 r kr .byte 2 [(.int (StrChars.lo8 u0)), (.int (StrChars.hi8 u0))] (.int 0) := B0
  refine Seg.iinc (v := 1) (z := (1 : Int32)) (L' := #[.val (.ref a), .val (.int (1 : Int32)), .val (.int (1 : Int32)), .val (.ref r), .val (.int (0 : Int32))]) d15_23 (by decide) rfl (by decide) rfl (pc' := 26) rfl ?_
  refine Seg.iinc (v := 1) (z := (1 : Int32)) (L' := #[.val (.ref a), .val (.int (1 : Int32)), .val (.int (1 : Int32)), .val (.ref r), .val (.int (1 : Int32))]) d15_26 (by decide) rfl (by decide) rfl (pc' := 29) rfl ?_
  refine Seg.goto (pc' := 8) d15_29 (by decide) (by decide) ?_
  refine Seg.iload d15_8 rfl (pc' := 10) rfl ?_
  refine Seg.iloadN d15_10 rfl (pc' := 11) rfl ?_
  refine Seg.icY (pc' := 32) d15_11 (by decide) (by decide) (by decide) ?_
  refine Seg.aloadN d15_32 rfl rfl (pc' := 33) rfl ?_
  have E_10 : Ext h0 h_9 := ext_kp E1 K0 (allS (Nat.le_trans (ext_rfl _).1 g1) all0)
  exact Seg.retA rfl rfl rfl d15_33 (by decide) (by decide) ⟨r, kr, rfl, E_10, g1, B0⟩
theorem d14_0 : decode jdk_52_method_21_code 0 = .ok (.iconst 0, 1) := by decide +kernel
theorem d14_1 : decode jdk_52_method_21_code 1 = .ok (.istore 5, 2) := by decide +kernel
theorem d14_3 : decode jdk_52_method_21_code 3 = .ok (.iload 5, 2) := by decide +kernel
theorem d14_5 : decode jdk_52_method_21_code 5 = .ok (.iload 4, 2) := by decide +kernel
theorem d14_7 : decode jdk_52_method_21_code 7 = .ok (.if_icmp .ge 37, 3) := by decide +kernel
theorem d14_10 : decode jdk_52_method_21_code 10 = .ok (.aload_n 0, 1) := by decide +kernel
theorem d14_11 : decode jdk_52_method_21_code 11 = .ok (.iload_n 1, 1) := by decide +kernel
theorem d14_12 : decode jdk_52_method_21_code 12 = .ok (.caload, 1) := by decide +kernel
theorem d14_13 : decode jdk_52_method_21_code 13 = .ok (.istore 6, 2) := by decide +kernel
theorem d14_15 : decode jdk_52_method_21_code 15 = .ok (.iload 6, 2) := by decide +kernel
theorem d14_17 : decode jdk_52_method_21_code 17 = .ok (.sipush 255, 3) := by decide +kernel
theorem d14_20 : decode jdk_52_method_21_code 20 = .ok (.if_icmp .le 6, 3) := by decide +kernel
theorem d14_23 : decode jdk_52_method_21_code 23 = .ok (.iload 5, 2) := by decide +kernel
theorem d14_25 : decode jdk_52_method_21_code 25 = .ok (.ireturn, 1) := by decide +kernel
theorem ef_ct_ci1_0 (a : Addr) (ka : ClassId) (d : Value) (u0 : Int32) (b : Addr) (kb : ClassId) (m : MethodId) : entryFrame m #[(.ref a), (.int (0 : Int32)), (.ref b), (.int (0 : Int32)), (.int (1 : Int32))] 7 = mkF m 0 #[.val (.ref a), .val (.int (0 : Int32)), .val (.ref b), .val (.int (0 : Int32)), .val (.int (1 : Int32)), .unset, .unset] [] := by first | (simp [entryFrame, mkF, argsToLocals, Value.category]; done) | rfl
set_option maxRecDepth 65536 in
set_option maxHeartbeats 4000000 in
theorem ct_ci1_0 {l : Launch} {Z : State} {a0 : Array Value} (G : Env1 Z a0) (a : Addr) (ka : ClassId) (d : Value) (u0 : Int32) (b : Addr) (kb : ClassId) (h0 : Heap) (Ka : Arv Z h0 a ka .char 1 [(.int u0)] d) (Kb : Arv Z h0 b kb .byte 1 [(.int 0)] (.int 0)) (hne : a ≠ b) (q0 : (255 : Int32) < u0) :
    Ct l Z EL1 [b] [] (⟨"java/lang/StringUTF16", "compress", "([CI[BII)I"⟩ : MethodName) jdk_52_method_21_code 7 (some .int) ({ frames := 0, cells := 0, slots := 0, locals := 0 } : Room) #[(.ref a), (.int (0 : Int32)), (.ref b), (.int (0 : Int32)), (.int (1 : Int32))] h0 (fun v h => v = some (.int 0) ∧ Keep h0 h [b]) := by
  refine Ct.of_seg (a0 := a0) (plainFor_of_name pn_java_lang_StringUTF16) G.2.1 (ef_ct_ci1_0 a ka d u0 b kb) ?_
  refine Seg.iconst (v := 0) d14_0 (by decide) (pc' := 1) rfl ?_
  refine Seg.istore (L' := #[.val (.ref a), .val (.int (0 : Int32)), .val (.ref b), .val (.int (0 : Int32)), .val (.int (1 : Int32)), .val (.int (0 : Int32)), .unset]) d14_1 rfl (pc' := 3) rfl ?_
  refine Seg.iload d14_3 rfl (pc' := 5) rfl ?_
  refine Seg.iload d14_5 rfl (pc' := 7) rfl ?_
  refine Seg.icN d14_7 (by decide) (pc' := 10) rfl ?_
  refine Seg.aloadN d14_10 rfl rfl (pc' := 11) rfl ?_
  refine Seg.iloadN d14_11 rfl (pc' := 12) rfl ?_
  refine Seg.caload (v := (.int u0)) Ka ⟨by decide, by decide⟩ rfl d14_12 (pc' := 13) rfl ?_
  refine Seg.istore (L' := #[.val (.ref a), .val (.int (0 : Int32)), .val (.ref b), .val (.int (0 : Int32)), .val (.int (1 : Int32)), .val (.int (0 : Int32)), .val (.int u0)]) d14_13 rfl (pc' := 15) rfl ?_
  refine Seg.iload d14_15 rfl (pc' := 17) rfl ?_
  refine Seg.sipush (v := 255) d14_17 (by decide) (pc' := 20) rfl ?_
  refine Seg.icN d14_20 (XT.ii_le_f q0) (pc' := 23) rfl ?_
  refine Seg.iload d14_23 rfl (pc' := 25) rfl ?_
  exact Seg.retI rfl d14_25 (by decide) (by decide) ⟨rfl, (Keep.refl h0 [b])⟩
theorem d13_0 : decode jdk_52_method_16_code 0 = .ok (.iload_n 2, 1) := by decide +kernel
theorem d13_1 : decode jdk_52_method_16_code 1 = .ok (.newarray .byte, 2) := by decide +kernel
theorem d13_3 : decode jdk_52_method_16_code 3 = .ok (.astore_n 3, 1) := by decide +kernel
theorem d13_4 : decode jdk_52_method_16_code 4 = .ok (.aload_n 0, 1) := by decide +kernel
theorem d13_5 : decode jdk_52_method_16_code 5 = .ok (.iload_n 1, 1) := by decide +kernel
theorem d13_6 : decode jdk_52_method_16_code 6 = .ok (.aload_n 3, 1) := by decide +kernel
theorem d13_7 : decode jdk_52_method_16_code 7 = .ok (.iconst 0, 1) := by decide +kernel
theorem d13_8 : decode jdk_52_method_16_code 8 = .ok (.iload_n 2, 1) := by decide +kernel
theorem d13_9 : decode jdk_52_method_16_code 9 = .ok (.invokestatic 115, 3) := by decide +kernel
theorem pd_4 : parseMethodDescriptor "([CI[BII)I" = some ⟨[(.array .char), .int, (.array .byte), .int, .int], some .int⟩ := by decide +kernel
theorem d13_12 : decode jdk_52_method_16_code 12 = .ok (.istore 4, 2) := by decide +kernel
theorem d13_14 : decode jdk_52_method_16_code 14 = .ok (.iload 4, 2) := by decide +kernel
theorem d13_16 : decode jdk_52_method_16_code 16 = .ok (.iload_n 2, 1) := by decide +kernel
theorem d13_17 : decode jdk_52_method_16_code 17 = .ok (.if_icmp .eq 40, 3) := by decide +kernel
theorem d13_20 : decode jdk_52_method_16_code 20 = .ok (.aload_n 0, 1) := by decide +kernel
theorem d13_21 : decode jdk_52_method_16_code 21 = .ok (.iload_n 1, 1) := by decide +kernel
theorem d13_22 : decode jdk_52_method_16_code 22 = .ok (.iload_n 2, 1) := by decide +kernel
theorem d13_23 : decode jdk_52_method_16_code 23 = .ok (.invokestatic 119, 3) := by decide +kernel
theorem pd_5 : parseMethodDescriptor "([CII)[B" = some ⟨[(.array .char), .int, .int], some (.array .byte)⟩ := by decide +kernel
theorem d13_26 : decode jdk_52_method_16_code 26 = .ok (.astore 5, 2) := by decide +kernel
theorem d13_28 : decode jdk_52_method_16_code 28 = .ok (.aload 5, 2) := by decide +kernel
theorem d13_30 : decode jdk_52_method_16_code 30 = .ok (.iload 4, 2) := by decide +kernel
theorem d13_32 : decode jdk_52_method_16_code 32 = .ok (.invokestatic 71, 3) := by decide +kernel
theorem pd_6 : parseMethodDescriptor "([BI)C" = some ⟨[(.array .byte), .int], some .char⟩ := by decide +kernel
theorem d13_35 : decode jdk_52_method_16_code 35 = .ok (.sipush 255, 3) := by decide +kernel
theorem d13_38 : decode jdk_52_method_16_code 38 = .ok (.if_icmp .gt 16, 3) := by decide +kernel
theorem d13_54 : decode jdk_52_method_16_code 54 = .ok (.aload 5, 2) := by decide +kernel
theorem d13_56 : decode jdk_52_method_16_code 56 = .ok (.areturn, 1) := by decide +kernel
theorem ef_ct_co1 (a : Addr) (ka : ClassId) (d : Value) (u0 : Int32) (m : MethodId) : entryFrame m #[(.ref a), (.int (0 : Int32)), (.int (1 : Int32))] 6 = mkF m 0 #[.val (.ref a), .val (.int (0 : Int32)), .val (.int (1 : Int32)), .unset, .unset, .unset] [] := by first | (simp [entryFrame, mkF, argsToLocals, Value.category]; done) | rfl
set_option maxRecDepth 65536 in
set_option maxHeartbeats 4000000 in
theorem ct_co1 {l : Launch} {Z : State} {a0 : Array Value} (G : Env1 Z a0) (a : Addr) (ka : ClassId) (d : Value) (u0 : Int32) (h0 : Heap) (Ka : Arv Z h0 a ka .char 1 [(.int u0)] d) (hr : ∀ c ∈ [u0], ¬ c < 0 ∧ ¬ (65535 : Int32) < c) (hw : ∃ c ∈ [u0], (255 : Int32) < c) :
    Ct l Z EL1 [] [] (⟨"java/lang/StringUTF16", "compress", "([CII)[B"⟩ : MethodName) jdk_52_method_16_code 6 (some (.array .byte)) ({ frames := 3, cells := 2, slots := 3, locals := 40 } : Room) #[(.ref a), (.int (0 : Int32)), (.int (1 : Int32))] h0 (fun v h => ∃ (r : Addr) (kr : ClassId), v = some (.ref r) ∧ Ext h0 h ∧ h0.size ≤ r ∧ Arv Z h r kr .byte 2 (StrChars.Road.wideBytes [u0]) (.int 0)) := by
  refine Ct.of_seg (a0 := a0) (plainFor_of_name pn_java_lang_StringUTF16) G.2.1 (ef_ct_co1 a ka d u0) ?_
  have q0 : (255 : Int32) < u0 := by obtain ⟨c, hc, hq⟩ := hw; simp only [List.mem_cons, List.not_mem_nil, or_false] at hc; rcases hc with rfl <;> first | exact hq | exact absurd hq (by assumption)
  refine Seg.iloadN d13_0 rfl (pc' := 1) rfl ?_
  refine Seg.newP (ty := .byte) (dv := (.int 0)) rfl rfl (wd G 25 rfl) d13_1 (pc' := 3) rfl (by decide) (cap := 1) (by decide) (by decide) (k' := 1) (n' := 1) rfl rfl (by decide) (by decide) ?_
  intro b_1 h_3 k_b_1 E_2 e_b_1 l_b_1 A_b_1
  replace A_b_1 : Arv Z h_3 b_1 k_b_1 .byte (1 : Int32) [(.int (0 : Int32))] (.int 0) := A_b_1.pad (pad_rep [] (.int 0) 1)
  refine Seg.astoreN (L' := #[.val (.ref a), .val (.int (0 : Int32)), .val (.int (1 : Int32)), .val (.ref b_1), .unset, .unset]) d13_3 rfl rfl (pc' := 4) rfl ?_
  refine Seg.aloadN d13_4 rfl rfl (pc' := 5) rfl ?_
  refine Seg.iloadN d13_5 rfl (pc' := 6) rfl ?_
  refine Seg.aloadN d13_6 rfl rfl (pc' := 7) rfl ?_
  refine Seg.iconst (v := 0) d13_7 (by decide) (pc' := 8) rfl ?_
  refine Seg.iloadN d13_8 rfl (pc' := 9) rfl ?_
  have F_4 := Ka.ext E_2
  refine Seg.callS (y' := (⟨"java/lang/StringUTF16", "compress", "([CI[BII)I"⟩ : MethodName)) (wd G 65 rfl) (wd G 66 rfl) (wd G 63 rfl) (wd G 67 rfl) ⟨by decide, by decide⟩ (Pays.of_ct (W := 0) (ct_ci1_0 G a ka d u0 b_1 k_b_1 h_3 F_4 A_b_1 (Nat.ne_of_lt (Nat.lt_of_lt_of_le Ka.lt (Nat.le_of_eq e_b_1))) q0) (allS (List.mem_of_getElem? (i := 0) rfl) all0) (wd G 67 rfl) (wd G 63 rfl) (by decide) (by decide) rfl rfl) (argsL := [(.ref a), (.int (0 : Int32)), (.ref b_1), (.int (0 : Int32)), (.int (1 : Int32))]) (rest := []) rfl (lenOf pd_4 rfl) rfl (Nat.le_of_eq rfl) rfl d13_9 (pc' := 12) rfl (k' := 1) (n' := 1) rfl rfl (by decide) (by decide) ?_
  intro v_5 h_8 sz_6 q_7
  obtain ⟨rfl, K1⟩ := q_7
  refine Seg.istore (L' := #[.val (.ref a), .val (.int (0 : Int32)), .val (.int (1 : Int32)), .val (.ref b_1), .val (.int (0 : Int32)), .unset]) d13_12 rfl (pc' := 14) rfl ?_
  refine Seg.iload d13_14 rfl (pc' := 16) rfl ?_
  refine Seg.iloadN d13_16 rfl (pc' := 17) rfl ?_
  refine Seg.icN d13_17 (by decide) (pc' := 20) rfl ?_
  refine Seg.aloadN d13_20 rfl rfl (pc' := 21) rfl ?_
  refine Seg.iloadN d13_21 rfl (pc' := 22) rfl ?_
  refine Seg.iloadN d13_22 rfl (pc' := 23) rfl ?_
  have E_9 : Ext h0 h_8 := ext_kp E_2 K1 (allS (Nat.le_trans (ext_rfl _).1 (Nat.le_of_eq e_b_1)) all0)
  have F_10 := Ka.ext E_9
  refine Seg.callS (y' := (⟨"java/lang/StringUTF16", "toBytes", "([CII)[B"⟩ : MethodName)) (wd G 68 rfl) (wd G 69 rfl) (wd G 63 rfl) (wd G 70 rfl) ⟨by decide, by decide⟩ (Pays.of_ct (W := 0) (ct_toB1 G a ka d u0 h_8 F_10) all0 (wd G 70 rfl) (wd G 63 rfl) (by decide) (by decide) rfl rfl) (argsL := [(.ref a), (.int (0 : Int32)), (.int (1 : Int32))]) (rest := []) rfl (lenOf pd_5 rfl) rfl (Nat.le_of_eq rfl) rfl d13_23 (pc' := 26) rfl (k' := 2) (n' := 3) rfl rfl (by decide) (by decide) ?_
  intro v_11 h_14 sz_12 q_13
  obtain ⟨r, kr, rfl, E2, g2, A2⟩ := q_13
  refine Seg.astore (L' := #[.val (.ref a), .val (.int (0 : Int32)), .val (.int (1 : Int32)), .val (.ref b_1), .val (.int (0 : Int32)), .val (.ref r)]) d13_26 rfl rfl (pc' := 28) rfl ?_
  refine Seg.aload d13_28 rfl rfl (pc' := 30) rfl ?_
  refine Seg.iload d13_30 rfl (pc' := 32) rfl ?_
  refine Seg.callS (y' := (⟨"java/lang/StringUTF16", "getChar", "([BI)C"⟩ : MethodName)) (wd G 84 rfl) (wd G 85 rfl) (wd G 63 rfl) (wd G 86 rfl) ⟨by decide, by decide⟩ (Pays.of_ct (W := 0) (ct_getc G r kr [u0] 0 h_14 A2 hr (by decide : 1 ≤ 4000) (by decide : 0 < 1)) all0 (wd G 86 rfl) (wd G 63 rfl) (by decide) (by decide) rfl rfl) (argsL := [(.ref r), (.int (0 : Int32))]) (rest := []) rfl (lenOf pd_6 rfl) rfl (Nat.le_of_eq rfl) rfl d13_32 (pc' := 35) rfl (k' := 2) (n' := 3) rfl rfl (by decide) (by decide) ?_
  intro v_15 h_18 sz_16 q_17
  obtain ⟨rfl, rfl⟩ := q_17
  refine Seg.sipush (v := 255) d13_35 (by decide) (pc' := 38) rfl ?_
  refine Seg.icY (pc' := 54) d13_38 (XT.ii_gt_t q0) (by decide) (by decide) ?_
  refine Seg.aload d13_54 rfl rfl (pc' := 56) rfl ?_
  have E_19 : Ext h0 h_14 := ext_tr E_9 E2
  exact Seg.retA rfl rfl rfl d13_56 (by decide) (by decide) ⟨r, kr, rfl, E_19, (Nat.le_trans E_9.1 g2), A2⟩
theorem d20_0 : decode jdk_52_method_15_code 0 = .ok (.iload_n 1, 1) := by decide +kernel
theorem d20_1 : decode jdk_52_method_15_code 1 = .ok (.aload_n 0, 1) := by decide +kernel
theorem d20_2 : decode jdk_52_method_15_code 2 = .ok (.arraylength, 1) := by decide +kernel
theorem d20_3 : decode jdk_52_method_15_code 3 = .ok (.isub, 1) := by decide +kernel
theorem d20_4 : decode jdk_52_method_15_code 4 = .ok (.bipush 31, 2) := by decide +kernel
theorem d20_6 : decode jdk_52_method_15_code 6 = .ok (.iushr, 1) := by decide +kernel
theorem d20_7 : decode jdk_52_method_15_code 7 = .ok (.i2b, 1) := by decide +kernel
theorem d20_8 : decode jdk_52_method_15_code 8 = .ok (.ireturn, 1) := by decide +kernel
theorem ef_ct_cfl1 (b : Addr) (kb : ClassId) (vs : List Value) (m : MethodId) : entryFrame m #[(.ref b), (.int (1 : Int32))] 2 = mkF m 0 #[.val (.ref b), .val (.int (1 : Int32))] [] := by first | (simp [entryFrame, mkF, argsToLocals, Value.category]; done) | rfl
set_option maxRecDepth 65536 in
set_option maxHeartbeats 4000000 in
theorem ct_cfl1 {l : Launch} {Z : State} {a0 : Array Value} (G : Env1 Z a0) (b : Addr) (kb : ClassId) (vs : List Value) (h0 : Heap) (K : Arv Z h0 b kb .byte 2 vs (.int 0)) :
    Ct l Z EL1 [] [] (⟨"java/lang/StringUTF16", "coderFromArrayLen", "([BI)B"⟩ : MethodName) jdk_52_method_15_code 2 (some .byte) ({ frames := 0, cells := 0, slots := 0, locals := 0 } : Room) #[(.ref b), (.int (1 : Int32))] h0 (fun v h => v = some (.int 1) ∧ h0 = h) := by
  refine Ct.of_seg (a0 := a0) (plainFor_of_name pn_java_lang_StringUTF16) G.2.1 (ef_ct_cfl1 b kb vs) ?_
  refine Seg.iloadN d20_0 rfl (pc' := 1) rfl ?_
  refine Seg.aloadN d20_1 rfl rfl (pc' := 2) rfl ?_
  refine Seg.alen K d20_2 (pc' := 3) rfl ?_
  refine Seg.isub (v := (-1 : Int32)) d20_3 (by decide) (pc' := 4) rfl ?_
  refine Seg.bipush (v := 31) d20_4 (by decide) (pc' := 6) rfl ?_
  refine Seg.iushr (v := (1 : Int32)) d20_6 (by decide) (pc' := 7) rfl ?_
  refine Seg.i2b (v := (1 : Int32)) d20_7 (by decide) (pc' := 8) rfl ?_
  exact Seg.retN (t := .byte) (w := (1 : Int32)) rfl (by decide) (by decide) d20_8 (by decide) (by decide) ⟨rfl, rfl⟩
theorem d4_27 : decode jdk_42_method_149_code 27 = .ok (.getstatic 38, 3) := by decide +kernel
theorem d4_30 : decode jdk_42_method_149_code 30 = .ok (.ifCond .eq 28, 3) := by decide +kernel
theorem d4_33 : decode jdk_42_method_149_code 33 = .ok (.aload_n 1, 1) := by decide +kernel
theorem d4_34 : decode jdk_42_method_149_code 34 = .ok (.iload_n 2, 1) := by decide +kernel
theorem d4_35 : decode jdk_42_method_149_code 35 = .ok (.iload_n 3, 1) := by decide +kernel
theorem d4_36 : decode jdk_42_method_149_code 36 = .ok (.invokestatic 177, 3) := by decide +kernel
theorem d4_39 : decode jdk_42_method_149_code 39 = .ok (.astore 5, 2) := by decide +kernel
theorem d4_41 : decode jdk_42_method_149_code 41 = .ok (.aload_n 0, 1) := by decide +kernel
theorem d4_42 : decode jdk_42_method_149_code 42 = .ok (.aload 5, 2) := by decide +kernel
theorem d4_44 : decode jdk_42_method_149_code 44 = .ok (.iload_n 3, 1) := by decide +kernel
theorem d4_45 : decode jdk_42_method_149_code 45 = .ok (.invokestatic 47, 3) := by decide +kernel
theorem pd_7 : parseMethodDescriptor "([BI)B" = some ⟨[(.array .byte), .int], some .byte⟩ := by decide +kernel
theorem d4_48 : decode jdk_42_method_149_code 48 = .ok (.putfield 15, 3) := by decide +kernel
theorem d4_51 : decode jdk_42_method_149_code 51 = .ok (.aload_n 0, 1) := by decide +kernel
theorem d4_52 : decode jdk_42_method_149_code 52 = .ok (.aload 5, 2) := by decide +kernel
theorem d4_54 : decode jdk_42_method_149_code 54 = .ok (.putfield 9, 3) := by decide +kernel
theorem d4_57 : decode jdk_42_method_149_code 57 = .ok (.return_, 1) := by decide +kernel
theorem ef_ct_si4w1 (x : Addr) (a : Addr) (ka : ClassId) (d : Value) (u0 : Int32) (v0 : Value) (c0 : Value) (m : MethodId) : entryFrame m #[(.ref x), (.ref a), (.int (0 : Int32)), (.int (1 : Int32)), Value.null] 6 = mkF m 0 #[.val (.ref x), .val (.ref a), .val (.int (0 : Int32)), .val (.int (1 : Int32)), .val Value.null, .unset] [] := by first | (simp [entryFrame, mkF, argsToLocals, Value.category]; done) | rfl
set_option maxRecDepth 65536 in
set_option maxHeartbeats 4000000 in
theorem ct_si4w1 {l : Launch} {Z : State} {a0 : Array Value} (G : Env1 Z a0) (x : Addr) (a : Addr) (ka : ClassId) (d : Value) (u0 : Int32) (v0 : Value) (c0 : Value) (h0 : Heap) (A : Exa Z h0 x STN) (F0 : Fld Z h0 x STN "value" "[B" v0) (F1 : Fld Z h0 x STN "coder" "B" c0) (Ka : Arv Z h0 a ka .char 1 [(.int u0)] d) (hr : ∀ c ∈ [u0], ¬ c < 0 ∧ ¬ (65535 : Int32) < c) (hw : ∃ c ∈ [u0], (255 : Int32) < c) :
    Ct l Z EL1 [x] [] (⟨"java/lang/String", "<init>", "([CIILjava/lang/Void;)V"⟩ : MethodName) jdk_42_method_149_code 6 none ({ frames := 4, cells := 2, slots := 3, locals := 57 } : Room) #[(.ref x), (.ref a), (.int (0 : Int32)), (.int (1 : Int32)), Value.null] h0 (fun v h => v = none ∧ Keep h0 h [x] ∧ Str Z h x [u0]) := by
  refine Ct.of_seg (a0 := a0) (plainFor_of_name pn_java_lang_String) G.2.1 (ef_ct_si4w1 x a ka d u0 v0 c0) ?_
  obtain ⟨zc, Sc, hz⟩ := G.2.2.1
  refine Seg.aloadN d4_0 rfl rfl (pc' := 1) rfl ?_
  refine Seg.initO (wd G 21 rfl) (wd G 22 rfl) (wd G 23 rfl) rfl d4_1 (pc' := 4) rfl (by decide) (W := 0) (Nat.le_of_eq rfl) (by decide) ?_
  refine Seg.iloadN d4_4 rfl (pc' := 5) rfl ?_
  refine Seg.ifY (pc' := 27) d4_5 (by decide) (by decide) (by decide) ?_
  refine Seg.getS (wd G 53 rfl) Via.refl Sc d4_27 (pc' := 30) rfl ?_
  refine Seg.ifN d4_30 (XT.i0_eq_f hz) (pc' := 33) rfl ?_
  refine Seg.aloadN d4_33 rfl rfl (pc' := 34) rfl ?_
  refine Seg.iloadN d4_34 rfl (pc' := 35) rfl ?_
  refine Seg.iloadN d4_35 rfl (pc' := 36) rfl ?_
  refine Seg.callS (y' := (⟨"java/lang/StringUTF16", "compress", "([CII)[B"⟩ : MethodName)) (wd G 61 rfl) (wd G 62 rfl) (wd G 63 rfl) (wd G 64 rfl) ⟨by decide, by decide⟩ (Pays.of_ct (W := 0) (ct_co1 G a ka d u0 h0 Ka hr hw) all0 (wd G 64 rfl) (wd G 63 rfl) (by decide) (by decide) rfl rfl) (argsL := [(.ref a), (.int (0 : Int32)), (.int (1 : Int32))]) (rest := []) rfl (lenOf pd_5 rfl) rfl (Nat.le_of_eq rfl) rfl d4_36 (pc' := 39) rfl (k' := 2) (n' := 3) rfl rfl (by decide) (by decide) ?_
  intro v_1 h_4 sz_2 q_3
  obtain ⟨r, kr, rfl, E2, g2, A2⟩ := q_3
  have xr : r ≠ x := (Nat.ne_of_gt (Nat.lt_of_lt_of_le A.lt g2))
  refine Seg.astore (L' := #[.val (.ref x), .val (.ref a), .val (.int (0 : Int32)), .val (.int (1 : Int32)), .val Value.null, .val (.ref r)]) d4_39 rfl rfl (pc' := 41) rfl ?_
  refine Seg.aloadN d4_41 rfl rfl (pc' := 42) rfl ?_
  refine Seg.aload d4_42 rfl rfl (pc' := 44) rfl ?_
  refine Seg.iloadN d4_44 rfl (pc' := 45) rfl ?_
  refine Seg.callS (y' := (⟨"java/lang/StringUTF16", "coderFromArrayLen", "([BI)B"⟩ : MethodName)) (wd G 87 rfl) (wd G 88 rfl) (wd G 63 rfl) (wd G 89 rfl) ⟨by decide, by decide⟩ (Pays.of_ct (W := 1) (ct_cfl1 G r kr _ h_4 A2) all0 (wd G 89 rfl) (wd G 63 rfl) (by decide) (by decide) rfl rfl) (argsL := [(.ref r), (.int (1 : Int32))]) (rest := [(.ref x)]) rfl (lenOf pd_7 rfl) rfl (Nat.le_of_eq rfl) rfl d4_45 (pc' := 48) rfl (k' := 2) (n' := 3) rfl rfl (by decide) (by decide) ?_
  intro v_5 h_8 sz_6 q_7
  obtain ⟨rfl, rfl⟩ := q_7
  have F_9 := F1.ext E2
  have F_10 := A.ext E2
  refine Seg.putF (host := "") (ty := .byte) (v' := (.int (1 : Int32))) (wd G 31 rfl) Via.refl F_9 F_10 (Or.inr ⟨(wd G 27 rfl), rfl, rfl⟩) (wd G 11 rfl) (by decide) rfl rfl (List.mem_of_getElem? (i := 0) rfl) d4_48 (pc' := 51) rfl ?_
  intro h_13 W_11 F_12
  refine Seg.aloadN d4_51 rfl rfl (pc' := 52) rfl ?_
  refine Seg.aload d4_52 rfl rfl (pc' := 54) rfl ?_
  have F_14 := ((F0.ext E2).other W_11 (Or.inr (slot_ne (Or.inr (wd G 26 rfl)) (Or.inr (wd G 27 rfl)) (by decide) (t := (.array .byte)) (t' := .byte) (by decide) (by decide))))
  have F_15 := (F_10.wr W_11)
  refine Seg.putF (host := "") (ty := (.array .byte)) (v' := (.ref r)) (wd G 30 rfl) Via.refl F_14 F_15 (Or.inr ⟨(wd G 26 rfl), rfl, rfl⟩) (wd G 11 rfl) (by decide) rfl rfl (List.mem_of_getElem? (i := 0) rfl) d4_54 (pc' := 57) rfl ?_
  intro h_18 W_16 F_17
  have F_19 := (F_15.wr W_16)
  have F_20 := (F_12.other W_16 (Or.inr (slot_ne (Or.inr (wd G 27 rfl)) (Or.inr (wd G 26 rfl)) (by decide) (t := .byte) (t' := (.array .byte)) (by decide) (by decide))))
  have F_21 := ((A2.keep (Keep.of_wr W_11) (ninS xr nin0)).keep (Keep.of_wr W_16) (ninS xr nin0))
  exact Seg.ret0 rfl d4_57 (by decide) (by decide) ⟨rfl, ((((Keep.refl h0 [x]).ext E2).wr W_11 (Or.inl (List.mem_of_getElem? (i := 0) rfl))).wr W_16 (Or.inl (List.mem_of_getElem? (i := 0) rfl))), r, kr, 1, 2, _, F_19, F_17, F_20, F_21, Or.inr ⟨rfl, rfl, rfl, hw⟩, hr, (by decide : 1 ≤ 4000)⟩
theorem ef_ct_siw1 (x : Addr) (a : Addr) (ka : ClassId) (d : Value) (u0 : Int32) (v0 : Value) (c0 : Value) (m : MethodId) : entryFrame m #[(.ref x), (.ref a)] 2 = mkF m 0 #[.val (.ref x), .val (.ref a)] [] := by first | (simp [entryFrame, mkF, argsToLocals, Value.category]; done) | rfl
set_option maxRecDepth 65536 in
set_option maxHeartbeats 4000000 in
theorem ct_siw1 {l : Launch} {Z : State} {a0 : Array Value} (G : Env1 Z a0) (x : Addr) (a : Addr) (ka : ClassId) (d : Value) (u0 : Int32) (v0 : Value) (c0 : Value) (h0 : Heap) (A : Exa Z h0 x STN) (F0 : Fld Z h0 x STN "value" "[B" v0) (F1 : Fld Z h0 x STN "coder" "B" c0) (Ka : Arv Z h0 a ka .char 1 [(.int u0)] d) (hr : ∀ c ∈ [u0], ¬ c < 0 ∧ ¬ (65535 : Int32) < c) (hw : ∃ c ∈ [u0], (255 : Int32) < c) :
    Ct l Z EL1 [x] [] (⟨"java/lang/String", "<init>", "([C)V"⟩ : MethodName) jdk_42_method_3_code 2 none ({ frames := 5, cells := 2, slots := 3, locals := 74 } : Room) #[(.ref x), (.ref a)] h0 (fun v h => v = none ∧ Keep h0 h [x] ∧ Str Z h x [u0]) := by
  refine Ct.of_seg (a0 := a0) (plainFor_of_name pn_java_lang_String) G.2.1 (ef_ct_siw1 x a ka d u0 v0 c0) ?_
  refine Seg.aloadN d3_0 rfl rfl (pc' := 1) rfl ?_
  refine Seg.aloadN d3_1 rfl rfl (pc' := 2) rfl ?_
  refine Seg.iconst (v := 0) d3_2 (by decide) (pc' := 3) rfl ?_
  refine Seg.aloadN d3_3 rfl rfl (pc' := 4) rfl ?_
  refine Seg.alen Ka d3_4 (pc' := 5) rfl ?_
  refine Seg.anull d3_5 (pc' := 6) rfl ?_
  refine Seg.callN (y' := (⟨"java/lang/String", "<init>", "([CIILjava/lang/Void;)V"⟩ : MethodName)) (a := x) rfl (wd G 17 rfl) (wd G 18 rfl) (wd G 20 rfl) ⟨by decide, by decide⟩ (Pays.of_ct (W := 0) (ct_si4w1 G x a ka d u0 v0 c0 h0 A F0 F1 Ka hr hw) (allS (List.mem_of_getElem? (i := 0) rfl) all0) (wd G 20 rfl) (wd G 12 rfl) (by decide) (by decide) rfl rfl) (argsL := [(.ref a), (.int (0 : Int32)), (.int (1 : Int32)), Value.null]) (rest := []) rfl (lenOf pd_0 rfl) rfl (Nat.le_of_eq rfl) rfl d3_6 (pc' := 9) rfl (k' := 2) (n' := 3) rfl rfl (by decide) (by decide) ?_
  intro v_1 h_4 sz_2 q_3
  obtain ⟨rfl, K, F⟩ := q_3
  exact Seg.ret0 rfl d3_9 (by decide) (by decide) ⟨rfl, K, F⟩
theorem ef_ct_nbl2 (m : MethodId) : entryFrame m #[(.int (2 : Int32))] 1 = mkF m 0 #[.val (.int (2 : Int32))] [] := by first | (simp [entryFrame, mkF, argsToLocals, Value.category]; done) | rfl
set_option maxRecDepth 65536 in
set_option maxHeartbeats 4000000 in
theorem ct_nbl2 {l : Launch} {Z : State} {a0 : Array Value} (G : Env1 Z a0) (h0 : Heap) :
    Ct l Z EL1 [] [] (⟨"java/lang/StringUTF16", "newBytesLength", "(I)I"⟩ : MethodName) jdk_52_method_3_code 1 (some .int) ({ frames := 0, cells := 0, slots := 0, locals := 0 } : Room) #[(.int (2 : Int32))] h0 (fun v h => v = some (.int 4) ∧ h0 = h) := by
  refine Ct.of_seg (a0 := a0) (plainFor_of_name pn_java_lang_StringUTF16) G.2.1 (ef_ct_nbl2 ) ?_
  refine Seg.iloadN d17_0 rfl (pc' := 1) rfl ?_
  refine Seg.ifY (pc' := 12) d17_1 (by decide) (by decide) (by decide) ?_
  refine Seg.iloadN d17_12 rfl (pc' := 13) rfl ?_
  refine Seg.ldcI (wd G 77 rfl) d17_13 (pc' := 15) rfl ?_
  refine Seg.icY (pc' := 55) d17_15 (by decide) (by decide) (by decide) ?_
  refine Seg.iloadN d17_55 rfl (pc' := 56) rfl ?_
  refine Seg.iconst (v := 1) d17_56 (by decide) (pc' := 57) rfl ?_
  refine Seg.ishl (v := (4 : Int32)) d17_57 (by decide) (pc' := 58) rfl ?_
  exact Seg.retI rfl d17_58 (by decide) (by decide) ⟨rfl, rfl⟩
theorem ef_ct_nbf2 (m : MethodId) : entryFrame m #[(.int (2 : Int32))] 1 = mkF m 0 #[.val (.int (2 : Int32))] [] := by first | (simp [entryFrame, mkF, argsToLocals, Value.category]; done) | rfl
set_option maxRecDepth 65536 in
set_option maxHeartbeats 4000000 in
theorem ct_nbf2 {l : Launch} {Z : State} {a0 : Array Value} (G : Env1 Z a0) (h0 : Heap) :
    Ct l Z EL1 [] [] (⟨"java/lang/StringUTF16", "newBytesFor", "(I)[B"⟩ : MethodName) jdk_52_method_2_code 1 (some (.array .byte)) ({ frames := 1, cells := 1, slots := 4, locals := 12 } : Room) #[(.int (2 : Int32))] h0 (fun v h => ∃ (r : Addr) (kr : ClassId), v = some (.ref r) ∧ Ext h0 h ∧ h0.size ≤ r ∧ Arv Z h r kr .byte 4 [(.int 0), (.int 0), (.int 0), (.int 0)] (.int 0)) := by
  refine Ct.of_seg (a0 := a0) (plainFor_of_name pn_java_lang_StringUTF16) G.2.1 (ef_ct_nbf2 ) ?_
  refine Seg.iloadN d16_0 rfl (pc' := 1) rfl ?_
  refine Seg.callS (y' := (⟨"java/lang/StringUTF16", "newBytesLength", "(I)I"⟩ : MethodName)) (wd G 74 rfl) (wd G 75 rfl) (wd G 63 rfl) (wd G 76 rfl) ⟨by decide, by decide⟩ (Pays.of_ct (W := 0) (ct_nbl2 G  h0) all0 (wd G 76 rfl) (wd G 63 rfl) (by decide) (by decide) rfl rfl) (argsL := [(.int (2 : Int32))]) (rest := []) rfl (lenOf pd_1 rfl) rfl (Nat.le_of_eq rfl) rfl d16_1 (pc' := 4) rfl (k' := 0) (n' := 0) rfl rfl (by decide) (by decide) ?_
  intro v_1 h_4 sz_2 q_3
  obtain ⟨rfl, rfl⟩ := q_3
  refine Seg.newP (ty := .byte) (dv := (.int 0)) rfl rfl (wd G 25 rfl) d16_4 (pc' := 6) rfl (by decide) (cap := 4) (by decide) (by decide) (k' := 1) (n' := 4) rfl rfl (by decide) (by decide) ?_
  intro b_5 h_7 k_b_5 E_6 e_b_5 l_b_5 A_b_5
  replace A_b_5 : Arv Z h_7 b_5 k_b_5 .byte (4 : Int32) [(.int (0 : Int32)), (.int (0 : Int32)), (.int (0 : Int32)), (.int (0 : Int32))] (.int 0) := A_b_5.pad (pad_rep [] (.int 0) 4)
  exact Seg.retA rfl rfl rfl d16_6 (by decide) (by decide) ⟨b_5, k_b_5, rfl, E_6, (Nat.le_trans (ext_rfl _).1 (Nat.le_of_eq e_b_5)), A_b_5⟩
theorem ef_ct_toB2 (a : Addr) (ka : ClassId) (d : Value) (u0 : Int32) (u1 : Int32) (m : MethodId) : entryFrame m #[(.ref a), (.int (0 : Int32)), (.int (2 : Int32))] 5 = mkF m 0 #[.val (.ref a), .val (.int (0 : Int32)), .val (.int (2 : Int32)), .unset, .unset] [] := by first | (simp [entryFrame, mkF, argsToLocals, Value.category]; done) | rfl
set_option maxRecDepth 65536 in
set_option maxHeartbeats 4000000 in
theorem ct_toB2 {l : Launch} {Z : State} {a0 : Array Value} (G : Env1 Z a0) (a : Addr) (ka : ClassId) (d : Value) (u0 : Int32) (u1 : Int32) (h0 : Heap) (Ka : Arv Z h0 a ka .char 2 [(.int u0), (.int u1)] d) :
    Ct l Z EL1 [] [] (⟨"java/lang/StringUTF16", "toBytes", "([CII)[B"⟩ : MethodName) jdk_52_method_14_code 5 (some (.array .byte)) ({ frames := 2, cells := 1, slots := 4, locals := 24 } : Room) #[(.ref a), (.int (0 : Int32)), (.int (2 : Int32))] h0 (fun v h => ∃ (r : Addr) (kr : ClassId), v = some (.ref r) ∧ Ext h0 h ∧ h0.size ≤ r ∧ Arv Z h r kr .byte 4 (StrChars.Road.wideBytes [u0, u1]) (.int 0)) := by
  refine Ct.of_seg (a0 := a0) (plainFor_of_name pn_java_lang_StringUTF16) G.2.1 (ef_ct_toB2 a ka d u0 u1) ?_
  refine Seg.start fun hZ0 => ?_
  refine Seg.iloadN d15_0 rfl (pc' := 1) rfl ?_
  refine Seg.callS (y' := (⟨"java/lang/StringUTF16", "newBytesFor", "(I)[B"⟩ : MethodName)) (wd G 71 rfl) (wd G 72 rfl) (wd G 63 rfl) (wd G 73 rfl) ⟨by decide, by decide⟩ (Pays.of_ct (W := 0) (ct_nbf2 G  h0) all0 (wd G 73 rfl) (wd G 63 rfl) (by decide) (by decide) rfl rfl) (argsL := [(.int (2 : Int32))]) (rest := []) rfl (lenOf pd_2 rfl) rfl (Nat.le_of_eq rfl) rfl d15_1 (pc' := 4) rfl (k' := 1) (n' := 4) rfl rfl (by decide) (by decide) ?_
  intro v_1 h_4 sz_2 q_3
  obtain ⟨r, kr, rfl, E1, g1, A1⟩ := q_3
  have l_r := A1.lt
  refine Seg.adopt A1 (fun _ => Nat.le_trans hZ0.1 g1) (litw G 4 (by decide)) ?_
  refine Seg.astoreN (L' := #[.val (.ref a), .val (.int (0 : Int32)), .val (.int (2 : Int32)), .val (.ref r), .unset]) d15_4 rfl rfl (pc' := 5) rfl ?_
  refine Seg.iconst (v := 0) d15_5 (by decide) (pc' := 6) rfl ?_
  refine Seg.istore (L' := #[.val (.ref a), .val (.int (0 : Int32)), .val (.int (2 : Int32)), .val (.ref r), .val (.int (0 : Int32))]) d15_6 rfl (pc' := 8) rfl ?_
  refine Seg.iload d15_8 rfl (pc' := 10) rfl ?_
  refine Seg.iloadN d15_10 rfl (pc' := 11) rfl ?_
  refine Seg.icN d15_11 (by decide) (pc' := 14) rfl ?_
  refine Seg.aloadN d15_14 rfl rfl (pc' := 15) rfl ?_
  refine Seg.iload d15_15 rfl (pc' := 17) rfl ?_
  refine Seg.aloadN d15_17 rfl rfl (pc' := 18) rfl ?_
  refine Seg.iloadN d15_18 rfl (pc' := 19) rfl ?_
  have F_5 := Ka.ext E1
  refine Seg.caload (v := (.int u0)) F_5 ⟨by decide, by decide⟩ rfl d15_19 (pc' := 20) rfl ?_
  refine Seg.callS (y' := (⟨"java/lang/StringUTF16", "putChar", "([BII)V"⟩ : MethodName)) (wd G 78 rfl) (wd G 79 rfl) (wd G 63 rfl) (wd G 80 rfl) ⟨by decide, by decide⟩ (Pays.of_ct (W := 0) (ct_putc G r kr 4 [(.int 0), (.int 0), (.int 0), (.int 0)] 0 u0 h_4 A1 (by decide) rfl (by decide)) (allS (List.mem_of_getElem? (i := 0) rfl) all0) (wd G 80 rfl) (wd G 63 rfl) (by decide) (by decide) rfl rfl) (argsL := [(.ref r), (.int (0 : Int32)), (.int u0)]) (rest := []) rfl (lenOf pd_3 rfl) rfl (Nat.le_of_eq rfl) rfl d15_20 (pc' := 23) rfl (k' := 1) (n' := 4) rfl rfl (by decide) (by decide) ?_
  intro v_6 h_9 sz_7 q_8
  obtain ⟨rfl, K0, B0⟩ := q_8
  replace B0 : Arv Z h_9 r kr .byte 4 [(.int (StrChars.lo8 u0)), (.int (StrChars.hi8 u0)), (.int 0), (.int 0)] (.int 0) := B0
  refine Seg.iinc (v := 1) (z := (1 : Int32)) (L' := #[.val (.ref a), .val (.int (1 : Int32)), .val (.int (2 : Int32)), .val (.ref r), .val (.int (0 : Int32))]) d15_23 (by decide) rfl (by decide) rfl (pc' := 26) rfl ?_
  refine Seg.iinc (v := 1) (z := (1 : Int32)) (L' := #[.val (.ref a), .val (.int (1 : Int32)), .val (.int (2 : Int32)), .val (.ref r), .val (.int (1 : Int32))]) d15_26 (by decide) rfl (by decide) rfl (pc' := 29) rfl ?_
  refine Seg.goto (pc' := 8) d15_29 (by decide) (by decide) ?_
  refine Seg.iload d15_8 rfl (pc' := 10) rfl ?_
  refine Seg.iloadN d15_10 rfl (pc' := 11) rfl ?_
  refine Seg.icN d15_11 (by decide) (pc' := 14) rfl ?_
  refine Seg.aloadN d15_14 rfl rfl (pc' := 15) rfl ?_
  refine Seg.iload d15_15 rfl (pc' := 17) rfl ?_
  refine Seg.aloadN d15_17 rfl rfl (pc' := 18) rfl ?_
  refine Seg.iloadN d15_18 rfl (pc' := 19) rfl ?_
  have E_10 : Ext h0 h_9 := ext_kp E1 K0 (allS (Nat.le_trans (ext_rfl _).1 g1) all0)
  have F_11 := Ka.ext E_10
  refine Seg.caload (v := (.int u1)) F_11 ⟨by decide, by decide⟩ rfl d15_19 (pc' := 20) rfl ?_
  refine Seg.callS (y' := (⟨"java/lang/StringUTF16", "putChar", "([BII)V"⟩ : MethodName)) (wd G 78 rfl) (wd G 79 rfl) (wd G 63 rfl) (wd G 80 rfl) ⟨by decide, by decide⟩ (Pays.of_ct (W := 0) (ct_putc G r kr 4 [(.int (StrChars.lo8 u0)), (.int (StrChars.hi8 u0)), (.int 0), (.int 0)] 1 u1 h_9 B0 (by decide) rfl (by decide)) (allS (List.mem_of_getElem? (i := 0) rfl) all0) (wd G 80 rfl) (wd G 63 rfl) (by decide) (by decide) rfl rfl) (argsL := [(.ref r), (.int (1 : Int32)), (.int u1)]) (rest := []) rfl (lenOf pd_3 rfl) rfl (Nat.le_of_eq rfl) rfl d15_20 (pc' := 23) rfl (k' := 1) (n' := 4) rfl rfl (by decide) (by decide) ?_
  intro v_12 h_15 sz_13 q_14
  obtain ⟨rfl, K1, B1⟩ := q_14
  replace B1 : Arv Z h_15 r kr .byte 4 [(.int (StrChars.lo8 u0)), (.int (StrChars.hi8 u0)), (.int (StrChars.lo8 u1)), (.int (StrChars.hi8 u1))] (.int 0) := B1
  refine Seg.iinc (v := 1) (z := (2 : Int32)) (L' := #[.val (.ref a), .val (.int (2 : Int32)), .val (.int (2 : Int32)), .val (.ref r), .val (.int (1 : Int32))]) d15_23 (by decide) rfl (by decide) rfl (pc' := 26) rfl ?_
  refine Seg.iinc (v := 1) (z := (2 : Int32)) (L' := #[.val (.ref a), .val (.int (2 : Int32)), .val (.int (2 : Int32)), .val (.ref r), .val (.int (2 : Int32))]) d15_26 (by decide) rfl (by decide) rfl (pc' := 29) rfl ?_
  refine Seg.goto (pc' := 8) d15_29 (by decide) (by decide) ?_
  refine Seg.iload d15_8 rfl (pc' := 10) rfl ?_
  refine Seg.iloadN d15_10 rfl (pc' := 11) rfl ?_
  refine Seg.icY (pc' := 32) d15_11 (by decide) (by decide) (by decide) ?_
  refine Seg.aloadN d15_32 rfl rfl (pc' := 33) rfl ?_
  have E_16 : Ext h0 h_15 := ext_kp E_10 K1 (allS (Nat.le_trans (ext_rfl _).1 g1) all0)
  exact Seg.retA rfl rfl rfl d15_33 (by decide) (by decide) ⟨r, kr, rfl, E_16, g1, B1⟩
theorem ef_ct_ci2_0 (a : Addr) (ka : ClassId) (d : Value) (u0 : Int32) (u1 : Int32) (b : Addr) (kb : ClassId) (m : MethodId) : entryFrame m #[(.ref a), (.int (0 : Int32)), (.ref b), (.int (0 : Int32)), (.int (2 : Int32))] 7 = mkF m 0 #[.val (.ref a), .val (.int (0 : Int32)), .val (.ref b), .val (.int (0 : Int32)), .val (.int (2 : Int32)), .unset, .unset] [] := by first | (simp [entryFrame, mkF, argsToLocals, Value.category]; done) | rfl
set_option maxRecDepth 65536 in
set_option maxHeartbeats 4000000 in
theorem ct_ci2_0 {l : Launch} {Z : State} {a0 : Array Value} (G : Env1 Z a0) (a : Addr) (ka : ClassId) (d : Value) (u0 : Int32) (u1 : Int32) (b : Addr) (kb : ClassId) (h0 : Heap) (Ka : Arv Z h0 a ka .char 2 [(.int u0), (.int u1)] d) (Kb : Arv Z h0 b kb .byte 2 [(.int 0), (.int 0)] (.int 0)) (hne : a ≠ b) (q0 : (255 : Int32) < u0) :
    Ct l Z EL1 [b] [] (⟨"java/lang/StringUTF16", "compress", "([CI[BII)I"⟩ : MethodName) jdk_52_method_21_code 7 (some .int) ({ frames := 0, cells := 0, slots := 0, locals := 0 } : Room) #[(.ref a), (.int (0 : Int32)), (.ref b), (.int (0 : Int32)), (.int (2 : Int32))] h0 (fun v h => v = some (.int 0) ∧ Keep h0 h [b]) := by
  refine Ct.of_seg (a0 := a0) (plainFor_of_name pn_java_lang_StringUTF16) G.2.1 (ef_ct_ci2_0 a ka d u0 u1 b kb) ?_
  refine Seg.iconst (v := 0) d14_0 (by decide) (pc' := 1) rfl ?_
  refine Seg.istore (L' := #[.val (.ref a), .val (.int (0 : Int32)), .val (.ref b), .val (.int (0 : Int32)), .val (.int (2 : Int32)), .val (.int (0 : Int32)), .unset]) d14_1 rfl (pc' := 3) rfl ?_
  refine Seg.iload d14_3 rfl (pc' := 5) rfl ?_
  refine Seg.iload d14_5 rfl (pc' := 7) rfl ?_
  refine Seg.icN d14_7 (by decide) (pc' := 10) rfl ?_
  refine Seg.aloadN d14_10 rfl rfl (pc' := 11) rfl ?_
  refine Seg.iloadN d14_11 rfl (pc' := 12) rfl ?_
  refine Seg.caload (v := (.int u0)) Ka ⟨by decide, by decide⟩ rfl d14_12 (pc' := 13) rfl ?_
  refine Seg.istore (L' := #[.val (.ref a), .val (.int (0 : Int32)), .val (.ref b), .val (.int (0 : Int32)), .val (.int (2 : Int32)), .val (.int (0 : Int32)), .val (.int u0)]) d14_13 rfl (pc' := 15) rfl ?_
  refine Seg.iload d14_15 rfl (pc' := 17) rfl ?_
  refine Seg.sipush (v := 255) d14_17 (by decide) (pc' := 20) rfl ?_
  refine Seg.icN d14_20 (XT.ii_le_f q0) (pc' := 23) rfl ?_
  refine Seg.iload d14_23 rfl (pc' := 25) rfl ?_
  exact Seg.retI rfl d14_25 (by decide) (by decide) ⟨rfl, (Keep.refl h0 [b])⟩
theorem d14_26 : decode jdk_52_method_21_code 26 = .ok (.aload_n 2, 1) := by decide +kernel
theorem d14_27 : decode jdk_52_method_21_code 27 = .ok (.iload_n 3, 1) := by decide +kernel
theorem d14_28 : decode jdk_52_method_21_code 28 = .ok (.iload 6, 2) := by decide +kernel
theorem d14_30 : decode jdk_52_method_21_code 30 = .ok (.i2b, 1) := by decide +kernel
theorem d14_31 : decode jdk_52_method_21_code 31 = .ok (.bastore, 1) := by decide +kernel
theorem d14_32 : decode jdk_52_method_21_code 32 = .ok (.iinc 1 1, 3) := by decide +kernel
theorem d14_35 : decode jdk_52_method_21_code 35 = .ok (.iinc 3 1, 3) := by decide +kernel
theorem d14_38 : decode jdk_52_method_21_code 38 = .ok (.iinc 5 1, 3) := by decide +kernel
theorem d14_41 : decode jdk_52_method_21_code 41 = .ok (.goto (-38), 3) := by decide +kernel
theorem ef_ct_ci2_1 (a : Addr) (ka : ClassId) (d : Value) (u0 : Int32) (u1 : Int32) (b : Addr) (kb : ClassId) (m : MethodId) : entryFrame m #[(.ref a), (.int (0 : Int32)), (.ref b), (.int (0 : Int32)), (.int (2 : Int32))] 7 = mkF m 0 #[.val (.ref a), .val (.int (0 : Int32)), .val (.ref b), .val (.int (0 : Int32)), .val (.int (2 : Int32)), .unset, .unset] [] := by first | (simp [entryFrame, mkF, argsToLocals, Value.category]; done) | rfl
set_option maxRecDepth 65536 in
set_option maxHeartbeats 4000000 in
theorem ct_ci2_1 {l : Launch} {Z : State} {a0 : Array Value} (G : Env1 Z a0) (a : Addr) (ka : ClassId) (d : Value) (u0 : Int32) (u1 : Int32) (b : Addr) (kb : ClassId) (h0 : Heap) (Ka : Arv Z h0 a ka .char 2 [(.int u0), (.int u1)] d) (Kb : Arv Z h0 b kb .byte 2 [(.int 0), (.int 0)] (.int 0)) (hne : a ≠ b) (q0 : ¬ (255 : Int32) < u0) (q1 : (255 : Int32) < u1) :
    Ct l Z EL1 [b] [] (⟨"java/lang/StringUTF16", "compress", "([CI[BII)I"⟩ : MethodName) jdk_52_method_21_code 7 (some .int) ({ frames := 0, cells := 0, slots := 0, locals := 0 } : Room) #[(.ref a), (.int (0 : Int32)), (.ref b), (.int (0 : Int32)), (.int (2 : Int32))] h0 (fun v h => v = some (.int 1) ∧ Keep h0 h [b]) := by
  refine Ct.of_seg (a0 := a0) (plainFor_of_name pn_java_lang_StringUTF16) G.2.1 (ef_ct_ci2_1 a ka d u0 u1 b kb) ?_
  refine Seg.iconst (v := 0) d14_0 (by decide) (pc' := 1) rfl ?_
  refine Seg.istore (L' := #[.val (.ref a), .val (.int (0 : Int32)), .val (.ref b), .val (.int (0 : Int32)), .val (.int (2 : Int32)), .val (.int (0 : Int32)), .unset]) d14_1 rfl (pc' := 3) rfl ?_
  refine Seg.iload d14_3 rfl (pc' := 5) rfl ?_
  refine Seg.iload d14_5 rfl (pc' := 7) rfl ?_
  refine Seg.icN d14_7 (by decide) (pc' := 10) rfl ?_
  refine Seg.aloadN d14_10 rfl rfl (pc' := 11) rfl ?_
  refine Seg.iloadN d14_11 rfl (pc' := 12) rfl ?_
  refine Seg.caload (v := (.int u0)) Ka ⟨by decide, by decide⟩ rfl d14_12 (pc' := 13) rfl ?_
  refine Seg.istore (L' := #[.val (.ref a), .val (.int (0 : Int32)), .val (.ref b), .val (.int (0 : Int32)), .val (.int (2 : Int32)), .val (.int (0 : Int32)), .val (.int u0)]) d14_13 rfl (pc' := 15) rfl ?_
  refine Seg.iload d14_15 rfl (pc' := 17) rfl ?_
  refine Seg.sipush (v := 255) d14_17 (by decide) (pc' := 20) rfl ?_
  refine Seg.icY (pc' := 26) d14_20 (XT.ii_le_t q0) (by decide) (by decide) ?_
  refine Seg.aloadN d14_26 rfl rfl (pc' := 27) rfl ?_
  refine Seg.iloadN d14_27 rfl (pc' := 28) rfl ?_
  refine Seg.iload d14_28 rfl (pc' := 30) rfl ?_
  refine Seg.i2b (v := (u0).toInt8.toInt32) d14_30 rfl (pc' := 31) rfl ?_
  refine Seg.bastore (v' := (u0).toInt8.toInt32) (i := 0) Kb ⟨by decide, by decide⟩ rfl (Nat.le_of_ble_eq_true rfl) (narb _) (List.mem_of_getElem? (i := 0) rfl) d14_31 (pc' := 32) rfl ?_
  intro h_3 W_1 A_2
  replace A_2 : Arv Z h_3 b kb .byte (2 : Int32) [(.int (u0).toInt8.toInt32), (.int (0 : Int32))] (.int 0) := A_2
  refine Seg.iinc (v := 1) (z := (1 : Int32)) (L' := #[.val (.ref a), .val (.int (1 : Int32)), .val (.ref b), .val (.int (0 : Int32)), .val (.int (2 : Int32)), .val (.int (0 : Int32)), .val (.int u0)]) d14_32 (by decide) rfl (by decide) rfl (pc' := 35) rfl ?_
  refine Seg.iinc (v := 1) (z := (1 : Int32)) (L' := #[.val (.ref a), .val (.int (1 : Int32)), .val (.ref b), .val (.int (1 : Int32)), .val (.int (2 : Int32)), .val (.int (0 : Int32)), .val (.int u0)]) d14_35 (by decide) rfl (by decide) rfl (pc' := 38) rfl ?_
  refine Seg.iinc (v := 1) (z := (1 : Int32)) (L' := #[.val (.ref a), .val (.int (1 : Int32)), .val (.ref b), .val (.int (1 : Int32)), .val (.int (2 : Int32)), .val (.int (1 : Int32)), .val (.int u0)]) d14_38 (by decide) rfl (by decide) rfl (pc' := 41) rfl ?_
  refine Seg.goto (pc' := 3) d14_41 (by decide) (by decide) ?_
  refine Seg.iload d14_3 rfl (pc' := 5) rfl ?_
  refine Seg.iload d14_5 rfl (pc' := 7) rfl ?_
  refine Seg.icN d14_7 (by decide) (pc' := 10) rfl ?_
  refine Seg.aloadN d14_10 rfl rfl (pc' := 11) rfl ?_
  refine Seg.iloadN d14_11 rfl (pc' := 12) rfl ?_
  have F_4 := (Ka.keep (Keep.of_wr W_1) (ninS hne nin0))
  refine Seg.caload (v := (.int u1)) F_4 ⟨by decide, by decide⟩ rfl d14_12 (pc' := 13) rfl ?_
  refine Seg.istore (L' := #[.val (.ref a), .val (.int (1 : Int32)), .val (.ref b), .val (.int (1 : Int32)), .val (.int (2 : Int32)), .val (.int (1 : Int32)), .val (.int u1)]) d14_13 rfl (pc' := 15) rfl ?_
  refine Seg.iload d14_15 rfl (pc' := 17) rfl ?_
  refine Seg.sipush (v := 255) d14_17 (by decide) (pc' := 20) rfl ?_
  refine Seg.icN d14_20 (XT.ii_le_f q1) (pc' := 23) rfl ?_
  refine Seg.iload d14_23 rfl (pc' := 25) rfl ?_
  exact Seg.retI rfl d14_25 (by decide) (by decide) ⟨rfl, ((Keep.refl h0 [b]).wr W_1 (Or.inl (List.mem_of_getElem? (i := 0) rfl)))⟩
theorem ef_ct_co2 (a : Addr) (ka : ClassId) (d : Value) (u0 : Int32) (u1 : Int32) (m : MethodId) : entryFrame m #[(.ref a), (.int (0 : Int32)), (.int (2 : Int32))] 6 = mkF m 0 #[.val (.ref a), .val (.int (0 : Int32)), .val (.int (2 : Int32)), .unset, .unset, .unset] [] := by first | (simp [entryFrame, mkF, argsToLocals, Value.category]; done) | rfl
set_option maxRecDepth 65536 in
set_option maxHeartbeats 4000000 in
theorem ct_co2 {l : Launch} {Z : State} {a0 : Array Value} (G : Env1 Z a0) (a : Addr) (ka : ClassId) (d : Value) (u0 : Int32) (u1 : Int32) (h0 : Heap) (Ka : Arv Z h0 a ka .char 2 [(.int u0), (.int u1)] d) (hr : ∀ c ∈ [u0, u1], ¬ c < 0 ∧ ¬ (65535 : Int32) < c) (hw : ∃ c ∈ [u0, u1], (255 : Int32) < c) :
    Ct l Z EL1 [] [] (⟨"java/lang/StringUTF16", "compress", "([CII)[B"⟩ : MethodName) jdk_52_method_16_code 6 (some (.array .byte)) ({ frames := 3, cells := 2, slots := 6, locals := 40 } : Room) #[(.ref a), (.int (0 : Int32)), (.int (2 : Int32))] h0 (fun v h => ∃ (r : Addr) (kr : ClassId), v = some (.ref r) ∧ Ext h0 h ∧ h0.size ≤ r ∧ Arv Z h r kr .byte 4 (StrChars.Road.wideBytes [u0, u1]) (.int 0)) := by
  refine Ct.of_seg (a0 := a0) (plainFor_of_name pn_java_lang_StringUTF16) G.2.1 (ef_ct_co2 a ka d u0 u1) ?_
  by_cases q0 : (255 : Int32) < u0
  · refine Seg.iloadN d13_0 rfl (pc' := 1) rfl ?_
    refine Seg.newP (ty := .byte) (dv := (.int 0)) rfl rfl (wd G 25 rfl) d13_1 (pc' := 3) rfl (by decide) (cap := 2) (by decide) (by decide) (k' := 1) (n' := 2) rfl rfl (by decide) (by decide) ?_
    intro b_1 h_3 k_b_1 E_2 e_b_1 l_b_1 A_b_1
    replace A_b_1 : Arv Z h_3 b_1 k_b_1 .byte (2 : Int32) [(.int (0 : Int32)), (.int (0 : Int32))] (.int 0) := A_b_1.pad (pad_rep [] (.int 0) 2)
    refine Seg.astoreN (L' := #[.val (.ref a), .val (.int (0 : Int32)), .val (.int (2 : Int32)), .val (.ref b_1), .unset, .unset]) d13_3 rfl rfl (pc' := 4) rfl ?_
    refine Seg.aloadN d13_4 rfl rfl (pc' := 5) rfl ?_
    refine Seg.iloadN d13_5 rfl (pc' := 6) rfl ?_
    refine Seg.aloadN d13_6 rfl rfl (pc' := 7) rfl ?_
    refine Seg.iconst (v := 0) d13_7 (by decide) (pc' := 8) rfl ?_
    refine Seg.iloadN d13_8 rfl (pc' := 9) rfl ?_
    have F_4 := Ka.ext E_2
    refine Seg.callS (y' := (⟨"java/lang/StringUTF16", "compress", "([CI[BII)I"⟩ : MethodName)) (wd G 65 rfl) (wd G 66 rfl) (wd G 63 rfl) (wd G 67 rfl) ⟨by decide, by decide⟩ (Pays.of_ct (W := 0) (ct_ci2_0 G a ka d u0 u1 b_1 k_b_1 h_3 F_4 A_b_1 (Nat.ne_of_lt (Nat.lt_of_lt_of_le Ka.lt (Nat.le_of_eq e_b_1))) q0) (allS (List.mem_of_getElem? (i := 0) rfl) all0) (wd G 67 rfl) (wd G 63 rfl) (by decide) (by decide) rfl rfl) (argsL := [(.ref a), (.int (0 : Int32)), (.ref b_1), (.int (0 : Int32)), (.int (2 : Int32))]) (rest := []) rfl (lenOf pd_4 rfl) rfl (Nat.le_of_eq rfl) rfl d13_9 (pc' := 12) rfl (k' := 1) (n' := 2) rfl rfl (by decide) (by decide) ?_
    intro v_5 h_8 sz_6 q_7
    obtain ⟨rfl, K1⟩ := q_7
    refine Seg.istore (L' := #[.val (.ref a), .val (.int (0 : Int32)), .val (.int (2 : Int32)), .val (.ref b_1), .val (.int (0 : Int32)), .unset]) d13_12 rfl (pc' := 14) rfl ?_
    refine Seg.iload d13_14 rfl (pc' := 16) rfl ?_
    refine Seg.iloadN d13_16 rfl (pc' := 17) rfl ?_
    refine Seg.icN d13_17 (by decide) (pc' := 20) rfl ?_
    refine Seg.aloadN d13_20 rfl rfl (pc' := 21) rfl ?_
    refine Seg.iloadN d13_21 rfl (pc' := 22) rfl ?_
    refine Seg.iloadN d13_22 rfl (pc' := 23) rfl ?_
    have E_9 : Ext h0 h_8 := ext_kp E_2 K1 (allS (Nat.le_trans (ext_rfl _).1 (Nat.le_of_eq e_b_1)) all0)
    have F_10 := Ka.ext E_9
    refine Seg.callS (y' := (⟨"java/lang/StringUTF16", "toBytes", "([CII)[B"⟩ : MethodName)) (wd G 68 rfl) (wd G 69 rfl) (wd G 63 rfl) (wd G 70 rfl) ⟨by decide, by decide⟩ (Pays.of_ct (W := 0) (ct_toB2 G a ka d u0 u1 h_8 F_10) all0 (wd G 70 rfl) (wd G 63 rfl) (by decide) (by decide) rfl rfl) (argsL := [(.ref a), (.int (0 : Int32)), (.int (2 : Int32))]) (rest := []) rfl (lenOf pd_5 rfl) rfl (Nat.le_of_eq rfl) rfl d13_23 (pc' := 26) rfl (k' := 2) (n' := 6) rfl rfl (by decide) (by decide) ?_
    intro v_11 h_14 sz_12 q_13
    obtain ⟨r, kr, rfl, E2, g2, A2⟩ := q_13
    refine Seg.astore (L' := #[.val (.ref a), .val (.int (0 : Int32)), .val (.int (2 : Int32)), .val (.ref b_1), .val (.int (0 : Int32)), .val (.ref r)]) d13_26 rfl rfl (pc' := 28) rfl ?_
    refine Seg.aload d13_28 rfl rfl (pc' := 30) rfl ?_
    refine Seg.iload d13_30 rfl (pc' := 32) rfl ?_
    refine Seg.callS (y' := (⟨"java/lang/StringUTF16", "getChar", "([BI)C"⟩ : MethodName)) (wd G 84 rfl) (wd G 85 rfl) (wd G 63 rfl) (wd G 86 rfl) ⟨by decide, by decide⟩ (Pays.of_ct (W := 0) (ct_getc G r kr [u0, u1] 0 h_14 A2 hr (by decide : 2 ≤ 4000) (by decide : 0 < 2)) all0 (wd G 86 rfl) (wd G 63 rfl) (by decide) (by decide) rfl rfl) (argsL := [(.ref r), (.int (0 : Int32))]) (rest := []) rfl (lenOf pd_6 rfl) rfl (Nat.le_of_eq rfl) rfl d13_32 (pc' := 35) rfl (k' := 2) (n' := 6) rfl rfl (by decide) (by decide) ?_
    intro v_15 h_18 sz_16 q_17
    obtain ⟨rfl, rfl⟩ := q_17
    refine Seg.sipush (v := 255) d13_35 (by decide) (pc' := 38) rfl ?_
    refine Seg.icY (pc' := 54) d13_38 (XT.ii_gt_t q0) (by decide) (by decide) ?_
    refine Seg.aload d13_54 rfl rfl (pc' := 56) rfl ?_
    have E_19 : Ext h0 h_14 := ext_tr E_9 E2
    exact Seg.retA rfl rfl rfl d13_56 (by decide) (by decide) ⟨r, kr, rfl, E_19, (Nat.le_trans E_9.1 g2), A2⟩
  · have q1 : (255 : Int32) < u1 := by obtain ⟨c, hc, hq⟩ := hw; simp only [List.mem_cons, List.not_mem_nil, or_false] at hc; rcases hc with rfl | rfl <;> first | exact hq | exact absurd hq (by assumption)
    refine Seg.iloadN d13_0 rfl (pc' := 1) rfl ?_
    refine Seg.newP (ty := .byte) (dv := (.int 0)) rfl rfl (wd G 25 rfl) d13_1 (pc' := 3) rfl (by decide) (cap := 2) (by decide) (by decide) (k' := 1) (n' := 2) rfl rfl (by decide) (by decide) ?_
    intro b_20 h_22 k_b_20 E_21 e_b_20 l_b_20 A_b_20
    replace A_b_20 : Arv Z h_22 b_20 k_b_20 .byte (2 : Int32) [(.int (0 : Int32)), (.int (0 : Int32))] (.int 0) := A_b_20.pad (pad_rep [] (.int 0) 2)
    refine Seg.astoreN (L' := #[.val (.ref a), .val (.int (0 : Int32)), .val (.int (2 : Int32)), .val (.ref b_20), .unset, .unset]) d13_3 rfl rfl (pc' := 4) rfl ?_
    refine Seg.aloadN d13_4 rfl rfl (pc' := 5) rfl ?_
    refine Seg.iloadN d13_5 rfl (pc' := 6) rfl ?_
    refine Seg.aloadN d13_6 rfl rfl (pc' := 7) rfl ?_
    refine Seg.iconst (v := 0) d13_7 (by decide) (pc' := 8) rfl ?_
    refine Seg.iloadN d13_8 rfl (pc' := 9) rfl ?_
    have F_23 := Ka.ext E_21
    refine Seg.callS (y' := (⟨"java/lang/StringUTF16", "compress", "([CI[BII)I"⟩ : MethodName)) (wd G 65 rfl) (wd G 66 rfl) (wd G 63 rfl) (wd G 67 rfl) ⟨by decide, by decide⟩ (Pays.of_ct (W := 0) (ct_ci2_1 G a ka d u0 u1 b_20 k_b_20 h_22 F_23 A_b_20 (Nat.ne_of_lt (Nat.lt_of_lt_of_le Ka.lt (Nat.le_of_eq e_b_20))) q0 q1) (allS (List.mem_of_getElem? (i := 0) rfl) all0) (wd G 67 rfl) (wd G 63 rfl) (by decide) (by decide) rfl rfl) (argsL := [(.ref a), (.int (0 : Int32)), (.ref b_20), (.int (0 : Int32)), (.int (2 : Int32))]) (rest := []) rfl (lenOf pd_4 rfl) rfl (Nat.le_of_eq rfl) rfl d13_9 (pc' := 12) rfl (k' := 1) (n' := 2) rfl rfl (by decide) (by decide) ?_
    intro v_24 h_27 sz_25 q_26
    obtain ⟨rfl, K1⟩ := q_26
    refine Seg.istore (L' := #[.val (.ref a), .val (.int (0 : Int32)), .val (.int (2 : Int32)), .val (.ref b_20), .val (.int (1 : Int32)), .unset]) d13_12 rfl (pc' := 14) rfl ?_
    refine Seg.iload d13_14 rfl (pc' := 16) rfl ?_
    refine Seg.iloadN d13_16 rfl (pc' := 17) rfl ?_
    refine Seg.icN d13_17 (by decide) (pc' := 20) rfl ?_
    refine Seg.aloadN d13_20 rfl rfl (pc' := 21) rfl ?_
    refine Seg.iloadN d13_21 rfl (pc' := 22) rfl ?_
    refine Seg.iloadN d13_22 rfl (pc' := 23) rfl ?_
    have E_28 : Ext h0 h_27 := ext_kp E_21 K1 (allS (Nat.le_trans (ext_rfl _).1 (Nat.le_of_eq e_b_20)) all0)
    have F_29 := Ka.ext E_28
    refine Seg.callS (y' := (⟨"java/lang/StringUTF16", "toBytes", "([CII)[B"⟩ : MethodName)) (wd G 68 rfl) (wd G 69 rfl) (wd G 63 rfl) (wd G 70 rfl) ⟨by decide, by decide⟩ (Pays.of_ct (W := 0) (ct_toB2 G a ka d u0 u1 h_27 F_29) all0 (wd G 70 rfl) (wd G 63 rfl) (by decide) (by decide) rfl rfl) (argsL := [(.ref a), (.int (0 : Int32)), (.int (2 : Int32))]) (rest := []) rfl (lenOf pd_5 rfl) rfl (Nat.le_of_eq rfl) rfl d13_23 (pc' := 26) rfl (k' := 2) (n' := 6) rfl rfl (by decide) (by decide) ?_
    intro v_30 h_33 sz_31 q_32
    obtain ⟨r, kr, rfl, E2, g2, A2⟩ := q_32
    refine Seg.astore (L' := #[.val (.ref a), .val (.int (0 : Int32)), .val (.int (2 : Int32)), .val (.ref b_20), .val (.int (1 : Int32)), .val (.ref r)]) d13_26 rfl rfl (pc' := 28) rfl ?_
    refine Seg.aload d13_28 rfl rfl (pc' := 30) rfl ?_
    refine Seg.iload d13_30 rfl (pc' := 32) rfl ?_
    refine Seg.callS (y' := (⟨"java/lang/StringUTF16", "getChar", "([BI)C"⟩ : MethodName)) (wd G 84 rfl) (wd G 85 rfl) (wd G 63 rfl) (wd G 86 rfl) ⟨by decide, by decide⟩ (Pays.of_ct (W := 0) (ct_getc G r kr [u0, u1] 1 h_33 A2 hr (by decide : 2 ≤ 4000) (by decide : 1 < 2)) all0 (wd G 86 rfl) (wd G 63 rfl) (by decide) (by decide) rfl rfl) (argsL := [(.ref r), (.int (1 : Int32))]) (rest := []) rfl (lenOf pd_6 rfl) rfl (Nat.le_of_eq rfl) rfl d13_32 (pc' := 35) rfl (k' := 2) (n' := 6) rfl rfl (by decide) (by decide) ?_
    intro v_34 h_37 sz_35 q_36
    obtain ⟨rfl, rfl⟩ := q_36
    refine Seg.sipush (v := 255) d13_35 (by decide) (pc' := 38) rfl ?_
    refine Seg.icY (pc' := 54) d13_38 (XT.ii_gt_t q1) (by decide) (by decide) ?_
    refine Seg.aload d13_54 rfl rfl (pc' := 56) rfl ?_
    have E_38 : Ext h0 h_33 := ext_tr E_28 E2
    exact Seg.retA rfl rfl rfl d13_56 (by decide) (by decide) ⟨r, kr, rfl, E_38, (Nat.le_trans E_28.1 g2), A2⟩
theorem ef_ct_cfl2 (b : Addr) (kb : ClassId) (vs : List Value) (m : MethodId) : entryFrame m #[(.ref b), (.int (2 : Int32))] 2 = mkF m 0 #[.val (.ref b), .val (.int (2 : Int32))] [] := by first | (simp [entryFrame, mkF, argsToLocals, Value.category]; done) | rfl
set_option maxRecDepth 65536 in
set_option maxHeartbeats 4000000 in
theorem ct_cfl2 {l : Launch} {Z : State} {a0 : Array Value} (G : Env1 Z a0) (b : Addr) (kb : ClassId) (vs : List Value) (h0 : Heap) (K : Arv Z h0 b kb .byte 4 vs (.int 0)) :
    Ct l Z EL1 [] [] (⟨"java/lang/StringUTF16", "coderFromArrayLen", "([BI)B"⟩ : MethodName) jdk_52_method_15_code 2 (some .byte) ({ frames := 0, cells := 0, slots := 0, locals := 0 } : Room) #[(.ref b), (.int (2 : Int32))] h0 (fun v h => v = some (.int 1) ∧ h0 = h) := by
  refine Ct.of_seg (a0 := a0) (plainFor_of_name pn_java_lang_StringUTF16) G.2.1 (ef_ct_cfl2 b kb vs) ?_
  refine Seg.iloadN d20_0 rfl (pc' := 1) rfl ?_
  refine Seg.aloadN d20_1 rfl rfl (pc' := 2) rfl ?_
  refine Seg.alen K d20_2 (pc' := 3) rfl ?_
  refine Seg.isub (v := (-2 : Int32)) d20_3 (by decide) (pc' := 4) rfl ?_
  refine Seg.bipush (v := 31) d20_4 (by decide) (pc' := 6) rfl ?_
  refine Seg.iushr (v := (1 : Int32)) d20_6 (by decide) (pc' := 7) rfl ?_
  refine Seg.i2b (v := (1 : Int32)) d20_7 (by decide) (pc' := 8) rfl ?_
  exact Seg.retN (t := .byte) (w := (1 : Int32)) rfl (by decide) (by decide) d20_8 (by decide) (by decide) ⟨rfl, rfl⟩
theorem ef_ct_si4w2 (x : Addr) (a : Addr) (ka : ClassId) (d : Value) (u0 : Int32) (u1 : Int32) (v0 : Value) (c0 : Value) (m : MethodId) : entryFrame m #[(.ref x), (.ref a), (.int (0 : Int32)), (.int (2 : Int32)), Value.null] 6 = mkF m 0 #[.val (.ref x), .val (.ref a), .val (.int (0 : Int32)), .val (.int (2 : Int32)), .val Value.null, .unset] [] := by first | (simp [entryFrame, mkF, argsToLocals, Value.category]; done) | rfl
set_option maxRecDepth 65536 in
set_option maxHeartbeats 4000000 in
theorem ct_si4w2 {l : Launch} {Z : State} {a0 : Array Value} (G : Env1 Z a0) (x : Addr) (a : Addr) (ka : ClassId) (d : Value) (u0 : Int32) (u1 : Int32) (v0 : Value) (c0 : Value) (h0 : Heap) (A : Exa Z h0 x STN) (F0 : Fld Z h0 x STN "value" "[B" v0) (F1 : Fld Z h0 x STN "coder" "B" c0) (Ka : Arv Z h0 a ka .char 2 [(.int u0), (.int u1)] d) (hr : ∀ c ∈ [u0, u1], ¬ c < 0 ∧ ¬ (65535 : Int32) < c) (hw : ∃ c ∈ [u0, u1], (255 : Int32) < c) :
    Ct l Z EL1 [x] [] (⟨"java/lang/String", "<init>", "([CIILjava/lang/Void;)V"⟩ : MethodName) jdk_42_method_149_code 6 none ({ frames := 4, cells := 2, slots := 6, locals := 57 } : Room) #[(.ref x), (.ref a), (.int (0 : Int32)), (.int (2 : Int32)), Value.null] h0 (fun v h => v = none ∧ Keep h0 h [x] ∧ Str Z h x [u0, u1]) := by
  refine Ct.of_seg (a0 := a0) (plainFor_of_name pn_java_lang_String) G.2.1 (ef_ct_si4w2 x a ka d u0 u1 v0 c0) ?_
  obtain ⟨zc, Sc, hz⟩ := G.2.2.1
  refine Seg.aloadN d4_0 rfl rfl (pc' := 1) rfl ?_
  refine Seg.initO (wd G 21 rfl) (wd G 22 rfl) (wd G 23 rfl) rfl d4_1 (pc' := 4) rfl (by decide) (W := 0) (Nat.le_of_eq rfl) (by decide) ?_
  refine Seg.iloadN d4_4 rfl (pc' := 5) rfl ?_
  refine Seg.ifY (pc' := 27) d4_5 (by decide) (by decide) (by decide) ?_
  refine Seg.getS (wd G 53 rfl) Via.refl Sc d4_27 (pc' := 30) rfl ?_
  refine Seg.ifN d4_30 (XT.i0_eq_f hz) (pc' := 33) rfl ?_
  refine Seg.aloadN d4_33 rfl rfl (pc' := 34) rfl ?_
  refine Seg.iloadN d4_34 rfl (pc' := 35) rfl ?_
  refine Seg.iloadN d4_35 rfl (pc' := 36) rfl ?_
  refine Seg.callS (y' := (⟨"java/lang/StringUTF16", "compress", "([CII)[B"⟩ : MethodName)) (wd G 61 rfl) (wd G 62 rfl) (wd G 63 rfl) (wd G 64 rfl) ⟨by decide, by decide⟩ (Pays.of_ct (W := 0) (ct_co2 G a ka d u0 u1 h0 Ka hr hw) all0 (wd G 64 rfl) (wd G 63 rfl) (by decide) (by decide) rfl rfl) (argsL := [(.ref a), (.int (0 : Int32)), (.int (2 : Int32))]) (rest := []) rfl (lenOf pd_5 rfl) rfl (Nat.le_of_eq rfl) rfl d4_36 (pc' := 39) rfl (k' := 2) (n' := 6) rfl rfl (by decide) (by decide) ?_
  intro v_1 h_4 sz_2 q_3
  obtain ⟨r, kr, rfl, E2, g2, A2⟩ := q_3
  have xr : r ≠ x := (Nat.ne_of_gt (Nat.lt_of_lt_of_le A.lt g2))
  refine Seg.astore (L' := #[.val (.ref x), .val (.ref a), .val (.int (0 : Int32)), .val (.int (2 : Int32)), .val Value.null, .val (.ref r)]) d4_39 rfl rfl (pc' := 41) rfl ?_
  refine Seg.aloadN d4_41 rfl rfl (pc' := 42) rfl ?_
  refine Seg.aload d4_42 rfl rfl (pc' := 44) rfl ?_
  refine Seg.iloadN d4_44 rfl (pc' := 45) rfl ?_
  refine Seg.callS (y' := (⟨"java/lang/StringUTF16", "coderFromArrayLen", "([BI)B"⟩ : MethodName)) (wd G 87 rfl) (wd G 88 rfl) (wd G 63 rfl) (wd G 89 rfl) ⟨by decide, by decide⟩ (Pays.of_ct (W := 1) (ct_cfl2 G r kr _ h_4 A2) all0 (wd G 89 rfl) (wd G 63 rfl) (by decide) (by decide) rfl rfl) (argsL := [(.ref r), (.int (2 : Int32))]) (rest := [(.ref x)]) rfl (lenOf pd_7 rfl) rfl (Nat.le_of_eq rfl) rfl d4_45 (pc' := 48) rfl (k' := 2) (n' := 6) rfl rfl (by decide) (by decide) ?_
  intro v_5 h_8 sz_6 q_7
  obtain ⟨rfl, rfl⟩ := q_7
  have F_9 := F1.ext E2
  have F_10 := A.ext E2
  refine Seg.putF (host := "") (ty := .byte) (v' := (.int (1 : Int32))) (wd G 31 rfl) Via.refl F_9 F_10 (Or.inr ⟨(wd G 27 rfl), rfl, rfl⟩) (wd G 11 rfl) (by decide) rfl rfl (List.mem_of_getElem? (i := 0) rfl) d4_48 (pc' := 51) rfl ?_
  intro h_13 W_11 F_12
  refine Seg.aloadN d4_51 rfl rfl (pc' := 52) rfl ?_
  refine Seg.aload d4_52 rfl rfl (pc' := 54) rfl ?_
  have F_14 := ((F0.ext E2).other W_11 (Or.inr (slot_ne (Or.inr (wd G 26 rfl)) (Or.inr (wd G 27 rfl)) (by decide) (t := (.array .byte)) (t' := .byte) (by decide) (by decide))))
  have F_15 := (F_10.wr W_11)
  refine Seg.putF (host := "") (ty := (.array .byte)) (v' := (.ref r)) (wd G 30 rfl) Via.refl F_14 F_15 (Or.inr ⟨(wd G 26 rfl), rfl, rfl⟩) (wd G 11 rfl) (by decide) rfl rfl (List.mem_of_getElem? (i := 0) rfl) d4_54 (pc' := 57) rfl ?_
  intro h_18 W_16 F_17
  have F_19 := (F_15.wr W_16)
  have F_20 := (F_12.other W_16 (Or.inr (slot_ne (Or.inr (wd G 27 rfl)) (Or.inr (wd G 26 rfl)) (by decide) (t := .byte) (t' := (.array .byte)) (by decide) (by decide))))
  have F_21 := ((A2.keep (Keep.of_wr W_11) (ninS xr nin0)).keep (Keep.of_wr W_16) (ninS xr nin0))
  exact Seg.ret0 rfl d4_57 (by decide) (by decide) ⟨rfl, ((((Keep.refl h0 [x]).ext E2).wr W_11 (Or.inl (List.mem_of_getElem? (i := 0) rfl))).wr W_16 (Or.inl (List.mem_of_getElem? (i := 0) rfl))), r, kr, 1, 4, _, F_19, F_17, F_20, F_21, Or.inr ⟨rfl, rfl, rfl, hw⟩, hr, (by decide : 2 ≤ 4000)⟩
theorem ef_ct_siw2 (x : Addr) (a : Addr) (ka : ClassId) (d : Value) (u0 : Int32) (u1 : Int32) (v0 : Value) (c0 : Value) (m : MethodId) : entryFrame m #[(.ref x), (.ref a)] 2 = mkF m 0 #[.val (.ref x), .val (.ref a)] [] := by first | (simp [entryFrame, mkF, argsToLocals, Value.category]; done) | rfl
set_option maxRecDepth 65536 in
set_option maxHeartbeats 4000000 in
theorem ct_siw2 {l : Launch} {Z : State} {a0 : Array Value} (G : Env1 Z a0) (x : Addr) (a : Addr) (ka : ClassId) (d : Value) (u0 : Int32) (u1 : Int32) (v0 : Value) (c0 : Value) (h0 : Heap) (A : Exa Z h0 x STN) (F0 : Fld Z h0 x STN "value" "[B" v0) (F1 : Fld Z h0 x STN "coder" "B" c0) (Ka : Arv Z h0 a ka .char 2 [(.int u0), (.int u1)] d) (hr : ∀ c ∈ [u0, u1], ¬ c < 0 ∧ ¬ (65535 : Int32) < c) (hw : ∃ c ∈ [u0, u1], (255 : Int32) < c) :
    Ct l Z EL1 [x] [] (⟨"java/lang/String", "<init>", "([C)V"⟩ : MethodName) jdk_42_method_3_code 2 none ({ frames := 5, cells := 2, slots := 6, locals := 74 } : Room) #[(.ref x), (.ref a)] h0 (fun v h => v = none ∧ Keep h0 h [x] ∧ Str Z h x [u0, u1]) := by
  refine Ct.of_seg (a0 := a0) (plainFor_of_name pn_java_lang_String) G.2.1 (ef_ct_siw2 x a ka d u0 u1 v0 c0) ?_
  refine Seg.aloadN d3_0 rfl rfl (pc' := 1) rfl ?_
  refine Seg.aloadN d3_1 rfl rfl (pc' := 2) rfl ?_
  refine Seg.iconst (v := 0) d3_2 (by decide) (pc' := 3) rfl ?_
  refine Seg.aloadN d3_3 rfl rfl (pc' := 4) rfl ?_
  refine Seg.alen Ka d3_4 (pc' := 5) rfl ?_
  refine Seg.anull d3_5 (pc' := 6) rfl ?_
  refine Seg.callN (y' := (⟨"java/lang/String", "<init>", "([CIILjava/lang/Void;)V"⟩ : MethodName)) (a := x) rfl (wd G 17 rfl) (wd G 18 rfl) (wd G 20 rfl) ⟨by decide, by decide⟩ (Pays.of_ct (W := 0) (ct_si4w2 G x a ka d u0 u1 v0 c0 h0 A F0 F1 Ka hr hw) (allS (List.mem_of_getElem? (i := 0) rfl) all0) (wd G 20 rfl) (wd G 12 rfl) (by decide) (by decide) rfl rfl) (argsL := [(.ref a), (.int (0 : Int32)), (.int (2 : Int32)), Value.null]) (rest := []) rfl (lenOf pd_0 rfl) rfl (Nat.le_of_eq rfl) rfl d3_6 (pc' := 9) rfl (k' := 2) (n' := 6) rfl rfl (by decide) (by decide) ?_
  intro v_1 h_4 sz_2 q_3
  obtain ⟨rfl, K, F⟩ := q_3
  exact Seg.ret0 rfl d3_9 (by decide) (by decide) ⟨rfl, K, F⟩
theorem ef_ct_nbl3 (m : MethodId) : entryFrame m #[(.int (3 : Int32))] 1 = mkF m 0 #[.val (.int (3 : Int32))] [] := by first | (simp [entryFrame, mkF, argsToLocals, Value.category]; done) | rfl
set_option maxRecDepth 65536 in
set_option maxHeartbeats 4000000 in
theorem ct_nbl3 {l : Launch} {Z : State} {a0 : Array Value} (G : Env1 Z a0) (h0 : Heap) :
    Ct l Z EL1 [] [] (⟨"java/lang/StringUTF16", "newBytesLength", "(I)I"⟩ : MethodName) jdk_52_method_3_code 1 (some .int) ({ frames := 0, cells := 0, slots := 0, locals := 0 } : Room) #[(.int (3 : Int32))] h0 (fun v h => v = some (.int 6) ∧ h0 = h) := by
  refine Ct.of_seg (a0 := a0) (plainFor_of_name pn_java_lang_StringUTF16) G.2.1 (ef_ct_nbl3 ) ?_
  refine Seg.iloadN d17_0 rfl (pc' := 1) rfl ?_
  refine Seg.ifY (pc' := 12) d17_1 (by decide) (by decide) (by decide) ?_
  refine Seg.iloadN d17_12 rfl (pc' := 13) rfl ?_
  refine Seg.ldcI (wd G 77 rfl) d17_13 (pc' := 15) rfl ?_
  refine Seg.icY (pc' := 55) d17_15 (by decide) (by decide) (by decide) ?_
  refine Seg.iloadN d17_55 rfl (pc' := 56) rfl ?_
  refine Seg.iconst (v := 1) d17_56 (by decide) (pc' := 57) rfl ?_
  refine Seg.ishl (v := (6 : Int32)) d17_57 (by decide) (pc' := 58) rfl ?_
  exact Seg.retI rfl d17_58 (by decide) (by decide) ⟨rfl, rfl⟩
theorem ef_ct_nbf3 (m : MethodId) : entryFrame m #[(.int (3 : Int32))] 1 = mkF m 0 #[.val (.int (3 : Int32))] [] := by first | (simp [entryFrame, mkF, argsToLocals, Value.category]; done) | rfl
set_option maxRecDepth 65536 in
set_option maxHeartbeats 4000000 in
theorem ct_nbf3 {l : Launch} {Z : State} {a0 : Array Value} (G : Env1 Z a0) (h0 : Heap) :
    Ct l Z EL1 [] [] (⟨"java/lang/StringUTF16", "newBytesFor", "(I)[B"⟩ : MethodName) jdk_52_method_2_code 1 (some (.array .byte)) ({ frames := 1, cells := 1, slots := 6, locals := 12 } : Room) #[(.int (3 : Int32))] h0 (fun v h => ∃ (r : Addr) (kr : ClassId), v = some (.ref r) ∧ Ext h0 h ∧ h0.size ≤ r ∧ Arv Z h r kr .byte 6 [(.int 0), (.int 0), (.int 0), (.int 0), (.int 0), (.int 0)] (.int 0)) := by
  refine Ct.of_seg (a0 := a0) (plainFor_of_name pn_java_lang_StringUTF16) G.2.1 (ef_ct_nbf3 ) ?_
  refine Seg.iloadN d16_0 rfl (pc' := 1) rfl ?_
  refine Seg.callS (y' := (⟨"java/lang/StringUTF16", "newBytesLength", "(I)I"⟩ : MethodName)) (wd G 74 rfl) (wd G 75 rfl) (wd G 63 rfl) (wd G 76 rfl) ⟨by decide, by decide⟩ (Pays.of_ct (W := 0) (ct_nbl3 G  h0) all0 (wd G 76 rfl) (wd G 63 rfl) (by decide) (by decide) rfl rfl) (argsL := [(.int (3 : Int32))]) (rest := []) rfl (lenOf pd_1 rfl) rfl (Nat.le_of_eq rfl) rfl d16_1 (pc' := 4) rfl (k' := 0) (n' := 0) rfl rfl (by decide) (by decide) ?_
  intro v_1 h_4 sz_2 q_3
  obtain ⟨rfl, rfl⟩ := q_3
  refine Seg.newP (ty := .byte) (dv := (.int 0)) rfl rfl (wd G 25 rfl) d16_4 (pc' := 6) rfl (by decide) (cap := 6) (by decide) (by decide) (k' := 1) (n' := 6) rfl rfl (by decide) (by decide) ?_
  intro b_5 h_7 k_b_5 E_6 e_b_5 l_b_5 A_b_5
  replace A_b_5 : Arv Z h_7 b_5 k_b_5 .byte (6 : Int32) [(.int (0 : Int32)), (.int (0 : Int32)), (.int (0 : Int32)), (.int (0 : Int32)), (.int (0 : Int32)), (.int (0 : Int32))] (.int 0) := A_b_5.pad (pad_rep [] (.int 0) 6)
  exact Seg.retA rfl rfl rfl d16_6 (by decide) (by decide) ⟨b_5, k_b_5, rfl, E_6, (Nat.le_trans (ext_rfl _).1 (Nat.le_of_eq e_b_5)), A_b_5⟩
theorem ef_ct_toB3 (a : Addr) (ka : ClassId) (d : Value) (u0 : Int32) (u1 : Int32) (u2 : Int32) (m : MethodId) : entryFrame m #[(.ref a), (.int (0 : Int32)), (.int (3 : Int32))] 5 = mkF m 0 #[.val (.ref a), .val (.int (0 : Int32)), .val (.int (3 : Int32)), .unset, .unset] [] := by first | (simp [entryFrame, mkF, argsToLocals, Value.category]; done) | rfl
set_option maxRecDepth 65536 in
set_option maxHeartbeats 4000000 in
theorem ct_toB3 {l : Launch} {Z : State} {a0 : Array Value} (G : Env1 Z a0) (a : Addr) (ka : ClassId) (d : Value) (u0 : Int32) (u1 : Int32) (u2 : Int32) (h0 : Heap) (Ka : Arv Z h0 a ka .char 3 [(.int u0), (.int u1), (.int u2)] d) :
    Ct l Z EL1 [] [] (⟨"java/lang/StringUTF16", "toBytes", "([CII)[B"⟩ : MethodName) jdk_52_method_14_code 5 (some (.array .byte)) ({ frames := 2, cells := 1, slots := 6, locals := 24 } : Room) #[(.ref a), (.int (0 : Int32)), (.int (3 : Int32))] h0 (fun v h => ∃ (r : Addr) (kr : ClassId), v = some (.ref r) ∧ Ext h0 h ∧ h0.size ≤ r ∧ Arv Z h r kr .byte 6 (StrChars.Road.wideBytes [u0, u1, u2]) (.int 0)) := by
  refine Ct.of_seg (a0 := a0) (plainFor_of_name pn_java_lang_StringUTF16) G.2.1 (ef_ct_toB3 a ka d u0 u1 u2) ?_
  refine Seg.start fun hZ0 => ?_
  refine Seg.iloadN d15_0 rfl (pc' := 1) rfl ?_
  refine Seg.callS (y' := (⟨"java/lang/StringUTF16", "newBytesFor", "(I)[B"⟩ : MethodName)) (wd G 71 rfl) (wd G 72 rfl) (wd G 63 rfl) (wd G 73 rfl) ⟨by decide, by decide⟩ (Pays.of_ct (W := 0) (ct_nbf3 G  h0) all0 (wd G 73 rfl) (wd G 63 rfl) (by decide) (by decide) rfl rfl) (argsL := [(.int (3 : Int32))]) (rest := []) rfl (lenOf pd_2 rfl) rfl (Nat.le_of_eq rfl) rfl d15_1 (pc' := 4) rfl (k' := 1) (n' := 6) rfl rfl (by decide) (by decide) ?_
  intro v_1 h_4 sz_2 q_3
  obtain ⟨r, kr, rfl, E1, g1, A1⟩ := q_3
  have l_r := A1.lt
  refine Seg.adopt A1 (fun _ => Nat.le_trans hZ0.1 g1) (litw G 6 (by decide)) ?_
  refine Seg.astoreN (L' := #[.val (.ref a), .val (.int (0 : Int32)), .val (.int (3 : Int32)), .val (.ref r), .unset]) d15_4 rfl rfl (pc' := 5) rfl ?_
  refine Seg.iconst (v := 0) d15_5 (by decide) (pc' := 6) rfl ?_
  refine Seg.istore (L' := #[.val (.ref a), .val (.int (0 : Int32)), .val (.int (3 : Int32)), .val (.ref r), .val (.int (0 : Int32))]) d15_6 rfl (pc' := 8) rfl ?_
  refine Seg.iload d15_8 rfl (pc' := 10) rfl ?_
  refine Seg.iloadN d15_10 rfl (pc' := 11) rfl ?_
  refine Seg.icN d15_11 (by decide) (pc' := 14) rfl ?_
  refine Seg.aloadN d15_14 rfl rfl (pc' := 15) rfl ?_
  refine Seg.iload d15_15 rfl (pc' := 17) rfl ?_
  refine Seg.aloadN d15_17 rfl rfl (pc' := 18) rfl ?_
  refine Seg.iloadN d15_18 rfl (pc' := 19) rfl ?_
  have F_5 := Ka.ext E1
  refine Seg.caload (v := (.int u0)) F_5 ⟨by decide, by decide⟩ rfl d15_19 (pc' := 20) rfl ?_
  refine Seg.callS (y' := (⟨"java/lang/StringUTF16", "putChar", "([BII)V"⟩ : MethodName)) (wd G 78 rfl) (wd G 79 rfl) (wd G 63 rfl) (wd G 80 rfl) ⟨by decide, by decide⟩ (Pays.of_ct (W := 0) (ct_putc G r kr 6 [(.int 0), (.int 0), (.int 0), (.int 0), (.int 0), (.int 0)] 0 u0 h_4 A1 (by decide) rfl (by decide)) (allS (List.mem_of_getElem? (i := 0) rfl) all0) (wd G 80 rfl) (wd G 63 rfl) (by decide) (by decide) rfl rfl) (argsL := [(.ref r), (.int (0 : Int32)), (.int u0)]) (rest := []) rfl (lenOf pd_3 rfl) rfl (Nat.le_of_eq rfl) rfl d15_20 (pc' := 23) rfl (k' := 1) (n' := 6) rfl rfl (by decide) (by decide) ?_
  intro v_6 h_9 sz_7 q_8
  obtain ⟨rfl, K0, B0⟩ := q_8
  replace B0 : Arv Z h_9 r kr .byte 6 [(.int (StrChars.lo8 u0)), (.int (StrChars.hi8 u0)), (.int 0), (.int 0), (.int 0), (.int 0)] (.int 0) := B0
  refine Seg.iinc (v := 1) (z := (1 : Int32)) (L' := #[.val (.ref a), .val (.int (1 : Int32)), .val (.int (3 : Int32)), .val (.ref r), .val (.int (0 : Int32))]) d15_23 (by decide) rfl (by decide) rfl (pc' := 26) rfl ?_
  refine Seg.iinc (v := 1) (z := (1 : Int32)) (L' := #[.val (.ref a), .val (.int (1 : Int32)), .val (.int (3 : Int32)), .val (.ref r), .val (.int (1 : Int32))]) d15_26 (by decide) rfl (by decide) rfl (pc' := 29) rfl ?_
  refine Seg.goto (pc' := 8) d15_29 (by decide) (by decide) ?_
  refine Seg.iload d15_8 rfl (pc' := 10) rfl ?_
  refine Seg.iloadN d15_10 rfl (pc' := 11) rfl ?_
  refine Seg.icN d15_11 (by decide) (pc' := 14) rfl ?_
  refine Seg.aloadN d15_14 rfl rfl (pc' := 15) rfl ?_
  refine Seg.iload d15_15 rfl (pc' := 17) rfl ?_
  refine Seg.aloadN d15_17 rfl rfl (pc' := 18) rfl ?_
  refine Seg.iloadN d15_18 rfl (pc' := 19) rfl ?_
  have E_10 : Ext h0 h_9 := ext_kp E1 K0 (allS (Nat.le_trans (ext_rfl _).1 g1) all0)
  have F_11 := Ka.ext E_10
  refine Seg.caload (v := (.int u1)) F_11 ⟨by decide, by decide⟩ rfl d15_19 (pc' := 20) rfl ?_
  refine Seg.callS (y' := (⟨"java/lang/StringUTF16", "putChar", "([BII)V"⟩ : MethodName)) (wd G 78 rfl) (wd G 79 rfl) (wd G 63 rfl) (wd G 80 rfl) ⟨by decide, by decide⟩ (Pays.of_ct (W := 0) (ct_putc G r kr 6 [(.int (StrChars.lo8 u0)), (.int (StrChars.hi8 u0)), (.int 0), (.int 0), (.int 0), (.int 0)] 1 u1 h_9 B0 (by decide) rfl (by decide)) (allS (List.mem_of_getElem? (i := 0) rfl) all0) (wd G 80 rfl) (wd G 63 rfl) (by decide) (by decide) rfl rfl) (argsL := [(.ref r), (.int (1 : Int32)), (.int u1)]) (rest := []) rfl (lenOf pd_3 rfl) rfl (Nat.le_of_eq rfl) rfl d15_20 (pc' := 23) rfl (k' := 1) (n' := 6) rfl rfl (by decide) (by decide) ?_
  intro v_12 h_15 sz_13 q_14
  obtain ⟨rfl, K1, B1⟩ := q_14
  replace B1 : Arv Z h_15 r kr .byte 6 [(.int (StrChars.lo8 u0)), (.int (StrChars.hi8 u0)), (.int (StrChars.lo8 u1)), (.int (StrChars.hi8 u1)), (.int 0), (.int 0)] (.int 0) := B1
  refine Seg.iinc (v := 1) (z := (2 : Int32)) (L' := #[.val (.ref a), .val (.int (2 : Int32)), .val (.int (3 : Int32)), .val (.ref r), .val (.int (1 : Int32))]) d15_23 (by decide) rfl (by decide) rfl (pc' := 26) rfl ?_
  refine Seg.iinc (v := 1) (z := (2 : Int32)) (L' := #[.val (.ref a), .val (.int (2 : Int32)), .val (.int (3 : Int32)), .val (.ref r), .val (.int (2 : Int32))]) d15_26 (by decide) rfl (by decide) rfl (pc' := 29) rfl ?_
  refine Seg.goto (pc' := 8) d15_29 (by decide) (by decide) ?_
  refine Seg.iload d15_8 rfl (pc' := 10) rfl ?_
  refine Seg.iloadN d15_10 rfl (pc' := 11) rfl ?_
  refine Seg.icN d15_11 (by decide) (pc' := 14) rfl ?_
  refine Seg.aloadN d15_14 rfl rfl (pc' := 15) rfl ?_
  refine Seg.iload d15_15 rfl (pc' := 17) rfl ?_
  refine Seg.aloadN d15_17 rfl rfl (pc' := 18) rfl ?_
  refine Seg.iloadN d15_18 rfl (pc' := 19) rfl ?_
  have E_16 : Ext h0 h_15 := ext_kp E_10 K1 (allS (Nat.le_trans (ext_rfl _).1 g1) all0)
  have F_17 := Ka.ext E_16
  refine Seg.caload (v := (.int u2)) F_17 ⟨by decide, by decide⟩ rfl d15_19 (pc' := 20) rfl ?_
  refine Seg.callS (y' := (⟨"java/lang/StringUTF16", "putChar", "([BII)V"⟩ : MethodName)) (wd G 78 rfl) (wd G 79 rfl) (wd G 63 rfl) (wd G 80 rfl) ⟨by decide, by decide⟩ (Pays.of_ct (W := 0) (ct_putc G r kr 6 [(.int (StrChars.lo8 u0)), (.int (StrChars.hi8 u0)), (.int (StrChars.lo8 u1)), (.int (StrChars.hi8 u1)), (.int 0), (.int 0)] 2 u2 h_15 B1 (by decide) rfl (by decide)) (allS (List.mem_of_getElem? (i := 0) rfl) all0) (wd G 80 rfl) (wd G 63 rfl) (by decide) (by decide) rfl rfl) (argsL := [(.ref r), (.int (2 : Int32)), (.int u2)]) (rest := []) rfl (lenOf pd_3 rfl) rfl (Nat.le_of_eq rfl) rfl d15_20 (pc' := 23) rfl (k' := 1) (n' := 6) rfl rfl (by decide) (by decide) ?_
  intro v_18 h_21 sz_19 q_20
  obtain ⟨rfl, K2, B2⟩ := q_20
  replace B2 : Arv Z h_21 r kr .byte 6 [(.int (StrChars.lo8 u0)), (.int (StrChars.hi8 u0)), (.int (StrChars.lo8 u1)), (.int (StrChars.hi8 u1)), (.int (StrChars.lo8 u2)), (.int (StrChars.hi8 u2))] (.int 0) := B2
  refine Seg.iinc (v := 1) (z := (3 : Int32)) (L' := #[.val (.ref a), .val (.int (3 : Int32)), .val (.int (3 : Int32)), .val (.ref r), .val (.int (2 : Int32))]) d15_23 (by decide) rfl (by decide) rfl (pc' := 26) rfl ?_
  refine Seg.iinc (v := 1) (z := (3 : Int32)) (L' := #[.val (.ref a), .val (.int (3 : Int32)), .val (.int (3 : Int32)), .val (.ref r), .val (.int (3 : Int32))]) d15_26 (by decide) rfl (by decide) rfl (pc' := 29) rfl ?_
  refine Seg.goto (pc' := 8) d15_29 (by decide) (by decide) ?_
  refine Seg.iload d15_8 rfl (pc' := 10) rfl ?_
  refine Seg.iloadN d15_10 rfl (pc' := 11) rfl ?_
  refine Seg.icY (pc' := 32) d15_11 (by decide) (by decide) (by decide) ?_
  refine Seg.aloadN d15_32 rfl rfl (pc' := 33) rfl ?_
  have E_22 : Ext h0 h_21 := ext_kp E_16 K2 (allS (Nat.le_trans (ext_rfl _).1 g1) all0)
  exact Seg.retA rfl rfl rfl d15_33 (by decide) (by decide) ⟨r, kr, rfl, E_22, g1, B2⟩
theorem ef_ct_ci3_0 (a : Addr) (ka : ClassId) (d : Value) (u0 : Int32) (u1 : Int32) (u2 : Int32) (b : Addr) (kb : ClassId) (m : MethodId) : entryFrame m #[(.ref a), (.int (0 : Int32)), (.ref b), (.int (0 : Int32)), (.int (3 : Int32))] 7 = mkF m 0 #[.val (.ref a), .val (.int (0 : Int32)), .val (.ref b), .val (.int (0 : Int32)), .val (.int (3 : Int32)), .unset, .unset] [] := by first | (simp [entryFrame, mkF, argsToLocals, Value.category]; done) | rfl
set_option maxRecDepth 65536 in
set_option maxHeartbeats 4000000 in
theorem ct_ci3_0 {l : Launch} {Z : State} {a0 : Array Value} (G : Env1 Z a0) (a : Addr) (ka : ClassId) (d : Value) (u0 : Int32) (u1 : Int32) (u2 : Int32) (b : Addr) (kb : ClassId) (h0 : Heap) (Ka : Arv Z h0 a ka .char 3 [(.int u0), (.int u1), (.int u2)] d) (Kb : Arv Z h0 b kb .byte 3 [(.int 0), (.int 0), (.int 0)] (.int 0)) (hne : a ≠ b) (q0 : (255 : Int32) < u0) :
    Ct l Z EL1 [b] [] (⟨"java/lang/StringUTF16", "compress", "([CI[BII)I"⟩ : MethodName) jdk_52_method_21_code 7 (some .int) ({ frames := 0, cells := 0, slots := 0, locals := 0 } : Room) #[(.ref a), (.int (0 : Int32)), (.ref b), (.int (0 : Int32)), (.int (3 : Int32))] h0 (fun v h => v = some (.int 0) ∧ Keep h0 h [b]) := by
  refine Ct.of_seg (a0 := a0) (plainFor_of_name pn_java_lang_StringUTF16) G.2.1 (ef_ct_ci3_0 a ka d u0 u1 u2 b kb) ?_
  refine Seg.iconst (v := 0) d14_0 (by decide) (pc' := 1) rfl ?_
  refine Seg.istore (L' := #[.val (.ref a), .val (.int (0 : Int32)), .val (.ref b), .val (.int (0 : Int32)), .val (.int (3 : Int32)), .val (.int (0 : Int32)), .unset]) d14_1 rfl (pc' := 3) rfl ?_
  refine Seg.iload d14_3 rfl (pc' := 5) rfl ?_
  refine Seg.iload d14_5 rfl (pc' := 7) rfl ?_
  refine Seg.icN d14_7 (by decide) (pc' := 10) rfl ?_
  refine Seg.aloadN d14_10 rfl rfl (pc' := 11) rfl ?_
  refine Seg.iloadN d14_11 rfl (pc' := 12) rfl ?_
  refine Seg.caload (v := (.int u0)) Ka ⟨by decide, by decide⟩ rfl d14_12 (pc' := 13) rfl ?_
  refine Seg.istore (L' := #[.val (.ref a), .val (.int (0 : Int32)), .val (.ref b), .val (.int (0 : Int32)), .val (.int (3 : Int32)), .val (.int (0 : Int32)), .val (.int u0)]) d14_13 rfl (pc' := 15) rfl ?_
  refine Seg.iload d14_15 rfl (pc' := 17) rfl ?_
  refine Seg.sipush (v := 255) d14_17 (by decide) (pc' := 20) rfl ?_
  refine Seg.icN d14_20 (XT.ii_le_f q0) (pc' := 23) rfl ?_
  refine Seg.iload d14_23 rfl (pc' := 25) rfl ?_
  exact Seg.retI rfl d14_25 (by decide) (by decide) ⟨rfl, (Keep.refl h0 [b])⟩
theorem ef_ct_ci3_1 (a : Addr) (ka : ClassId) (d : Value) (u0 : Int32) (u1 : Int32) (u2 : Int32) (b : Addr) (kb : ClassId) (m : MethodId) : entryFrame m #[(.ref a), (.int (0 : Int32)), (.ref b), (.int (0 : Int32)), (.int (3 : Int32))] 7 = mkF m 0 #[.val (.ref a), .val (.int (0 : Int32)), .val (.ref b), .val (.int (0 : Int32)), .val (.int (3 : Int32)), .unset, .unset] [] := by first | (simp [entryFrame, mkF, argsToLocals, Value.category]; done) | rfl
set_option maxRecDepth 65536 in
set_option maxHeartbeats 4000000 in
theorem ct_ci3_1 {l : Launch} {Z : State} {a0 : Array Value} (G : Env1 Z a0) (a : Addr) (ka : ClassId) (d : Value) (u0 : Int32) (u1 : Int32) (u2 : Int32) (b : Addr) (kb : ClassId) (h0 : Heap) (Ka : Arv Z h0 a ka .char 3 [(.int u0), (.int u1), (.int u2)] d) (Kb : Arv Z h0 b kb .byte 3 [(.int 0), (.int 0), (.int 0)] (.int 0)) (hne : a ≠ b) (q0 : ¬ (255 : Int32) < u0) (q1 : (255 : Int32) < u1) :
    Ct l Z EL1 [b] [] (⟨"java/lang/StringUTF16", "compress", "([CI[BII)I"⟩ : MethodName) jdk_52_method_21_code 7 (some .int) ({ frames := 0, cells := 0, slots := 0, locals := 0 } : Room) #[(.ref a), (.int (0 : Int32)), (.ref b), (.int (0 : Int32)), (.int (3 : Int32))] h0 (fun v h => v = some (.int 1) ∧ Keep h0 h [b]) := by
  refine Ct.of_seg (a0 := a0) (plainFor_of_name pn_java_lang_StringUTF16) G.2.1 (ef_ct_ci3_1 a ka d u0 u1 u2 b kb) ?_
  refine Seg.iconst (v := 0) d14_0 (by decide) (pc' := 1) rfl ?_
  refine Seg.istore (L' := #[.val (.ref a), .val (.int (0 : Int32)), .val (.ref b), .val (.int (0 : Int32)), .val (.int (3 : Int32)), .val (.int (0 : Int32)), .unset]) d14_1 rfl (pc' := 3) rfl ?_
  refine Seg.iload d14_3 rfl (pc' := 5) rfl ?_
  refine Seg.iload d14_5 rfl (pc' := 7) rfl ?_
  refine Seg.icN d14_7 (by decide) (pc' := 10) rfl ?_
  refine Seg.aloadN d14_10 rfl rfl (pc' := 11) rfl ?_
  refine Seg.iloadN d14_11 rfl (pc' := 12) rfl ?_
  refine Seg.caload (v := (.int u0)) Ka ⟨by decide, by decide⟩ rfl d14_12 (pc' := 13) rfl ?_
  refine Seg.istore (L' := #[.val (.ref a), .val (.int (0 : Int32)), .val (.ref b), .val (.int (0 : Int32)), .val (.int (3 : Int32)), .val (.int (0 : Int32)), .val (.int u0)]) d14_13 rfl (pc' := 15) rfl ?_
  refine Seg.iload d14_15 rfl (pc' := 17) rfl ?_
  refine Seg.sipush (v := 255) d14_17 (by decide) (pc' := 20) rfl ?_
  refine Seg.icY (pc' := 26) d14_20 (XT.ii_le_t q0) (by decide) (by decide) ?_
  refine Seg.aloadN d14_26 rfl rfl (pc' := 27) rfl ?_
  refine Seg.iloadN d14_27 rfl (pc' := 28) rfl ?_
  refine Seg.iload d14_28 rfl (pc' := 30) rfl ?_
  refine Seg.i2b (v := (u0).toInt8.toInt32) d14_30 rfl (pc' := 31) rfl ?_
  refine Seg.bastore (v' := (u0).toInt8.toInt32) (i := 0) Kb ⟨by decide, by decide⟩ rfl (Nat.le_of_ble_eq_true rfl) (narb _) (List.mem_of_getElem? (i := 0) rfl) d14_31 (pc' := 32) rfl ?_
  intro h_3 W_1 A_2
  replace A_2 : Arv Z h_3 b kb .byte (3 : Int32) [(.int (u0).toInt8.toInt32), (.int (0 : Int32)), (.int (0 : Int32))] (.int 0) := A_2
  refine Seg.iinc (v := 1) (z := (1 : Int32)) (L' := #[.val (.ref a), .val (.int (1 : Int32)), .val (.ref b), .val (.int (0 : Int32)), .val (.int (3 : Int32)), .val (.int (0 : Int32)), .val (.int u0)]) d14_32 (by decide) rfl (by decide) rfl (pc' := 35) rfl ?_
  refine Seg.iinc (v := 1) (z := (1 : Int32)) (L' := #[.val (.ref a), .val (.int (1 : Int32)), .val (.ref b), .val (.int (1 : Int32)), .val (.int (3 : Int32)), .val (.int (0 : Int32)), .val (.int u0)]) d14_35 (by decide) rfl (by decide) rfl (pc' := 38) rfl ?_
  refine Seg.iinc (v := 1) (z := (1 : Int32)) (L' := #[.val (.ref a), .val (.int (1 : Int32)), .val (.ref b), .val (.int (1 : Int32)), .val (.int (3 : Int32)), .val (.int (1 : Int32)), .val (.int u0)]) d14_38 (by decide) rfl (by decide) rfl (pc' := 41) rfl ?_
  refine Seg.goto (pc' := 3) d14_41 (by decide) (by decide) ?_
  refine Seg.iload d14_3 rfl (pc' := 5) rfl ?_
  refine Seg.iload d14_5 rfl (pc' := 7) rfl ?_
  refine Seg.icN d14_7 (by decide) (pc' := 10) rfl ?_
  refine Seg.aloadN d14_10 rfl rfl (pc' := 11) rfl ?_
  refine Seg.iloadN d14_11 rfl (pc' := 12) rfl ?_
  have F_4 := (Ka.keep (Keep.of_wr W_1) (ninS hne nin0))
  refine Seg.caload (v := (.int u1)) F_4 ⟨by decide, by decide⟩ rfl d14_12 (pc' := 13) rfl ?_
  refine Seg.istore (L' := #[.val (.ref a), .val (.int (1 : Int32)), .val (.ref b), .val (.int (1 : Int32)), .val (.int (3 : Int32)), .val (.int (1 : Int32)), .val (.int u1)]) d14_13 rfl (pc' := 15) rfl ?_
  refine Seg.iload d14_15 rfl (pc' := 17) rfl ?_
  refine Seg.sipush (v := 255) d14_17 (by decide) (pc' := 20) rfl ?_
  refine Seg.icN d14_20 (XT.ii_le_f q1) (pc' := 23) rfl ?_
  refine Seg.iload d14_23 rfl (pc' := 25) rfl ?_
  exact Seg.retI rfl d14_25 (by decide) (by decide) ⟨rfl, ((Keep.refl h0 [b]).wr W_1 (Or.inl (List.mem_of_getElem? (i := 0) rfl)))⟩
theorem ef_ct_ci3_2 (a : Addr) (ka : ClassId) (d : Value) (u0 : Int32) (u1 : Int32) (u2 : Int32) (b : Addr) (kb : ClassId) (m : MethodId) : entryFrame m #[(.ref a), (.int (0 : Int32)), (.ref b), (.int (0 : Int32)), (.int (3 : Int32))] 7 = mkF m 0 #[.val (.ref a), .val (.int (0 : Int32)), .val (.ref b), .val (.int (0 : Int32)), .val (.int (3 : Int32)), .unset, .unset] [] := by first | (simp [entryFrame, mkF, argsToLocals, Value.category]; done) | rfl
set_option maxRecDepth 65536 in
set_option maxHeartbeats 4000000 in
theorem ct_ci3_2 {l : Launch} {Z : State} {a0 : Array Value} (G : Env1 Z a0) (a : Addr) (ka : ClassId) (d : Value) (u0 : Int32) (u1 : Int32) (u2 : Int32) (b : Addr) (kb : ClassId) (h0 : Heap) (Ka : Arv Z h0 a ka .char 3 [(.int u0), (.int u1), (.int u2)] d) (Kb : Arv Z h0 b kb .byte 3 [(.int 0), (.int 0), (.int 0)] (.int 0)) (hne : a ≠ b) (q0 : ¬ (255 : Int32) < u0) (q1 : ¬ (255 : Int32) < u1) (q2 : (255 : Int32) < u2) :
    Ct l Z EL1 [b] [] (⟨"java/lang/StringUTF16", "compress", "([CI[BII)I"⟩ : MethodName) jdk_52_method_21_code 7 (some .int) ({ frames := 0, cells := 0, slots := 0, locals := 0 } : Room) #[(.ref a), (.int (0 : Int32)), (.ref b), (.int (0 : Int32)), (.int (3 : Int32))] h0 (fun v h => v = some (.int 2) ∧ Keep h0 h [b]) := by
  refine Ct.of_seg (a0 := a0) (plainFor_of_name pn_java_lang_StringUTF16) G.2.1 (ef_ct_ci3_2 a ka d u0 u1 u2 b kb) ?_
  refine Seg.iconst (v := 0) d14_0 (by decide) (pc' := 1) rfl ?_
  refine Seg.istore (L' := #[.val (.ref a), .val (.int (0 : Int32)), .val (.ref b), .val (.int (0 : Int32)), .val (.int (3 : Int32)), .val (.int (0 : Int32)), .unset]) d14_1 rfl (pc' := 3) rfl ?_
  refine Seg.iload d14_3 rfl (pc' := 5) rfl ?_
  refine Seg.iload d14_5 rfl (pc' := 7) rfl ?_
  refine Seg.icN d14_7 (by decide) (pc' := 10) rfl ?_
  refine Seg.aloadN d14_10 rfl rfl (pc' := 11) rfl ?_
  refine Seg.iloadN d14_11 rfl (pc' := 12) rfl ?_
  refine Seg.caload (v := (.int u0)) Ka ⟨by decide, by decide⟩ rfl d14_12 (pc' := 13) rfl ?_
  refine Seg.istore (L' := #[.val (.ref a), .val (.int (0 : Int32)), .val (.ref b), .val (.int (0 : Int32)), .val (.int (3 : Int32)), .val (.int (0 : Int32)), .val (.int u0)]) d14_13 rfl (pc' := 15) rfl ?_
  refine Seg.iload d14_15 rfl (pc' := 17) rfl ?_
  refine Seg.sipush (v := 255) d14_17 (by decide) (pc' := 20) rfl ?_
  refine Seg.icY (pc' := 26) d14_20 (XT.ii_le_t q0) (by decide) (by decide) ?_
  refine Seg.aloadN d14_26 rfl rfl (pc' := 27) rfl ?_
  refine Seg.iloadN d14_27 rfl (pc' := 28) rfl ?_
  refine Seg.iload d14_28 rfl (pc' := 30) rfl ?_
  refine Seg.i2b (v := (u0).toInt8.toInt32) d14_30 rfl (pc' := 31) rfl ?_
  refine Seg.bastore (v' := (u0).toInt8.toInt32) (i := 0) Kb ⟨by decide, by decide⟩ rfl (Nat.le_of_ble_eq_true rfl) (narb _) (List.mem_of_getElem? (i := 0) rfl) d14_31 (pc' := 32) rfl ?_
  intro h_3 W_1 A_2
  replace A_2 : Arv Z h_3 b kb .byte (3 : Int32) [(.int (u0).toInt8.toInt32), (.int (0 : Int32)), (.int (0 : Int32))] (.int 0) := A_2
  refine Seg.iinc (v := 1) (z := (1 : Int32)) (L' := #[.val (.ref a), .val (.int (1 : Int32)), .val (.ref b), .val (.int (0 : Int32)), .val (.int (3 : Int32)), .val (.int (0 : Int32)), .val (.int u0)]) d14_32 (by decide) rfl (by decide) rfl (pc' := 35) rfl ?_
  refine Seg.iinc (v := 1) (z := (1 : Int32)) (L' := #[.val (.ref a), .val (.int (1 : Int32)), .val (.ref b), .val (.int (1 : Int32)), .val (.int (3 : Int32)), .val (.int (0 : Int32)), .val (.int u0)]) d14_35 (by decide) rfl (by decide) rfl (pc' := 38) rfl ?_
  refine Seg.iinc (v := 1) (z := (1 : Int32)) (L' := #[.val (.ref a), .val (.int (1 : Int32)), .val (.ref b), .val (.int (1 : Int32)), .val (.int (3 : Int32)), .val (.int (1 : Int32)), .val (.int u0)]) d14_38 (by decide) rfl (by decide) rfl (pc' := 41) rfl ?_
  refine Seg.goto (pc' := 3) d14_41 (by decide) (by decide) ?_
  refine Seg.iload d14_3 rfl (pc' := 5) rfl ?_
  refine Seg.iload d14_5 rfl (pc' := 7) rfl ?_
  refine Seg.icN d14_7 (by decide) (pc' := 10) rfl ?_
  refine Seg.aloadN d14_10 rfl rfl (pc' := 11) rfl ?_
  refine Seg.iloadN d14_11 rfl (pc' := 12) rfl ?_
  have F_4 := (Ka.keep (Keep.of_wr W_1) (ninS hne nin0))
  refine Seg.caload (v := (.int u1)) F_4 ⟨by decide, by decide⟩ rfl d14_12 (pc' := 13) rfl ?_
  refine Seg.istore (L' := #[.val (.ref a), .val (.int (1 : Int32)), .val (.ref b), .val (.int (1 : Int32)), .val (.int (3 : Int32)), .val (.int (1 : Int32)), .val (.int u1)]) d14_13 rfl (pc' := 15) rfl ?_
  refine Seg.iload d14_15 rfl (pc' := 17) rfl ?_
  refine Seg.sipush (v := 255) d14_17 (by decide) (pc' := 20) rfl ?_
  refine Seg.icY (pc' := 26) d14_20 (XT.ii_le_t q1) (by decide) (by decide) ?_
  refine Seg.aloadN d14_26 rfl rfl (pc' := 27) rfl ?_
  refine Seg.iloadN d14_27 rfl (pc' := 28) rfl ?_
  refine Seg.iload d14_28 rfl (pc' := 30) rfl ?_
  refine Seg.i2b (v := (u1).toInt8.toInt32) d14_30 rfl (pc' := 31) rfl ?_
  refine Seg.bastore (v' := (u1).toInt8.toInt32) (i := 1) A_2 ⟨by decide, by decide⟩ rfl (Nat.le_of_ble_eq_true rfl) (narb _) (List.mem_of_getElem? (i := 0) rfl) d14_31 (pc' := 32) rfl ?_
  intro h_7 W_5 A_6
  replace A_6 : Arv Z h_7 b kb .byte (3 : Int32) [(.int (u0).toInt8.toInt32), (.int (u1).toInt8.toInt32), (.int (0 : Int32))] (.int 0) := A_6
  refine Seg.iinc (v := 1) (z := (2 : Int32)) (L' := #[.val (.ref a), .val (.int (2 : Int32)), .val (.ref b), .val (.int (1 : Int32)), .val (.int (3 : Int32)), .val (.int (1 : Int32)), .val (.int u1)]) d14_32 (by decide) rfl (by decide) rfl (pc' := 35) rfl ?_
  refine Seg.iinc (v := 1) (z := (2 : Int32)) (L' := #[.val (.ref a), .val (.int (2 : Int32)), .val (.ref b), .val (.int (2 : Int32)), .val (.int (3 : Int32)), .val (.int (1 : Int32)), .val (.int u1)]) d14_35 (by decide) rfl (by decide) rfl (pc' := 38) rfl ?_
  refine Seg.iinc (v := 1) (z := (2 : Int32)) (L' := #[.val (.ref a), .val (.int (2 : Int32)), .val (.ref b), .val (.int (2 : Int32)), .val (.int (3 : Int32)), .val (.int (2 : Int32)), .val (.int u1)]) d14_38 (by decide) rfl (by decide) rfl (pc' := 41) rfl ?_
  refine Seg.goto (pc' := 3) d14_41 (by decide) (by decide) ?_
  refine Seg.iload d14_3 rfl (pc' := 5) rfl ?_
  refine Seg.iload d14_5 rfl (pc' := 7) rfl ?_
  refine Seg.icN d14_7 (by decide) (pc' := 10) rfl ?_
  refine Seg.aloadN d14_10 rfl rfl (pc' := 11) rfl ?_
  refine Seg.iloadN d14_11 rfl (pc' := 12) rfl ?_
  have F_8 := (F_4.keep (Keep.of_wr W_5) (ninS hne nin0))
  refine Seg.caload (v := (.int u2)) F_8 ⟨by decide, by decide⟩ rfl d14_12 (pc' := 13) rfl ?_
  refine Seg.istore (L' := #[.val (.ref a), .val (.int (2 : Int32)), .val (.ref b), .val (.int (2 : Int32)), .val (.int (3 : Int32)), .val (.int (2 : Int32)), .val (.int u2)]) d14_13 rfl (pc' := 15) rfl ?_
  refine Seg.iload d14_15 rfl (pc' := 17) rfl ?_
  refine Seg.sipush (v := 255) d14_17 (by decide) (pc' := 20) rfl ?_
  refine Seg.icN d14_20 (XT.ii_le_f q2) (pc' := 23) rfl ?_
  refine Seg.iload d14_23 rfl (pc' := 25) rfl ?_
  exact Seg.retI rfl d14_25 (by decide) (by decide) ⟨rfl, (((Keep.refl h0 [b]).wr W_1 (Or.inl (List.mem_of_getElem? (i := 0) rfl))).wr W_5 (Or.inl (List.mem_of_getElem? (i := 0) rfl)))⟩
theorem ef_ct_co3 (a : Addr) (ka : ClassId) (d : Value) (u0 : Int32) (u1 : Int32) (u2 : Int32) (m : MethodId) : entryFrame m #[(.ref a), (.int (0 : Int32)), (.int (3 : Int32))] 6 = mkF m 0 #[.val (.ref a), .val (.int (0 : Int32)), .val (.int (3 : Int32)), .unset, .unset, .unset] [] := by first | (simp [entryFrame, mkF, argsToLocals, Value.category]; done) | rfl
set_option maxRecDepth 65536 in
set_option maxHeartbeats 4000000 in
theorem ct_co3 {l : Launch} {Z : State} {a0 : Array Value} (G : Env1 Z a0) (a : Addr) (ka : ClassId) (d : Value) (u0 : Int32) (u1 : Int32) (u2 : Int32) (h0 : Heap) (Ka : Arv Z h0 a ka .char 3 [(.int u0), (.int u1), (.int u2)] d) (hr : ∀ c ∈ [u0, u1, u2], ¬ c < 0 ∧ ¬ (65535 : Int32) < c) (hw : ∃ c ∈ [u0, u1, u2], (255 : Int32) < c) :
    Ct l Z EL1 [] [] (⟨"java/lang/StringUTF16", "compress", "([CII)[B"⟩ : MethodName) jdk_52_method_16_code 6 (some (.array .byte)) ({ frames := 3, cells := 2, slots := 9, locals := 40 } : Room) #[(.ref a), (.int (0 : Int32)), (.int (3 : Int32))] h0 (fun v h => ∃ (r : Addr) (kr : ClassId), v = some (.ref r) ∧ Ext h0 h ∧ h0.size ≤ r ∧ Arv Z h r kr .byte 6 (StrChars.Road.wideBytes [u0, u1, u2]) (.int 0)) := by
  refine Ct.of_seg (a0 := a0) (plainFor_of_name pn_java_lang_StringUTF16) G.2.1 (ef_ct_co3 a ka d u0 u1 u2) ?_
  by_cases q0 : (255 : Int32) < u0
  · refine Seg.iloadN d13_0 rfl (pc' := 1) rfl ?_
    refine Seg.newP (ty := .byte) (dv := (.int 0)) rfl rfl (wd G 25 rfl) d13_1 (pc' := 3) rfl (by decide) (cap := 3) (by decide) (by decide) (k' := 1) (n' := 3) rfl rfl (by decide) (by decide) ?_
    intro b_1 h_3 k_b_1 E_2 e_b_1 l_b_1 A_b_1
    replace A_b_1 : Arv Z h_3 b_1 k_b_1 .byte (3 : Int32) [(.int (0 : Int32)), (.int (0 : Int32)), (.int (0 : Int32))] (.int 0) := A_b_1.pad (pad_rep [] (.int 0) 3)
    refine Seg.astoreN (L' := #[.val (.ref a), .val (.int (0 : Int32)), .val (.int (3 : Int32)), .val (.ref b_1), .unset, .unset]) d13_3 rfl rfl (pc' := 4) rfl ?_
    refine Seg.aloadN d13_4 rfl rfl (pc' := 5) rfl ?_
    refine Seg.iloadN d13_5 rfl (pc' := 6) rfl ?_
    refine Seg.aloadN d13_6 rfl rfl (pc' := 7) rfl ?_
    refine Seg.iconst (v := 0) d13_7 (by decide) (pc' := 8) rfl ?_
    refine Seg.iloadN d13_8 rfl (pc' := 9) rfl ?_
    have F_4 := Ka.ext E_2
    refine Seg.callS (y' := (⟨"java/lang/StringUTF16", "compress", "([CI[BII)I"⟩ : MethodName)) (wd G 65 rfl) (wd G 66 rfl) (wd G 63 rfl) (wd G 67 rfl) ⟨by decide, by decide⟩ (Pays.of_ct (W := 0) (ct_ci3_0 G a ka d u0 u1 u2 b_1 k_b_1 h_3 F_4 A_b_1 (Nat.ne_of_lt (Nat.lt_of_lt_of_le Ka.lt (Nat.le_of_eq e_b_1))) q0) (allS (List.mem_of_getElem? (i := 0) rfl) all0) (wd G 67 rfl) (wd G 63 rfl) (by decide) (by decide) rfl rfl) (argsL := [(.ref a), (.int (0 : Int32)), (.ref b_1), (.int (0 : Int32)), (.int (3 : Int32))]) (rest := []) rfl (lenOf pd_4 rfl) rfl (Nat.le_of_eq rfl) rfl d13_9 (pc' := 12) rfl (k' := 1) (n' := 3) rfl rfl (by decide) (by decide) ?_
    intro v_5 h_8 sz_6 q_7
    obtain ⟨rfl, K1⟩ := q_7
    refine Seg.istore (L' := #[.val (.ref a), .val (.int (0 : Int32)), .val (.int (3 : Int32)), .val (.ref b_1), .val (.int (0 : Int32)), .unset]) d13_12 rfl (pc' := 14) rfl ?_
    refine Seg.iload d13_14 rfl (pc' := 16) rfl ?_
    refine Seg.iloadN d13_16 rfl (pc' := 17) rfl ?_
    refine Seg.icN d13_17 (by decide) (pc' := 20) rfl ?_
    refine Seg.aloadN d13_20 rfl rfl (pc' := 21) rfl ?_
    refine Seg.iloadN d13_21 rfl (pc' := 22) rfl ?_
    refine Seg.iloadN d13_22 rfl (pc' := 23) rfl ?_
    have E_9 : Ext h0 h_8 := ext_kp E_2 K1 (allS (Nat.le_trans (ext_rfl _).1 (Nat.le_of_eq e_b_1)) all0)
    have F_10 := Ka.ext E_9
    refine Seg.callS (y' := (⟨"java/lang/StringUTF16", "toBytes", "([CII)[B"⟩ : MethodName)) (wd G 68 rfl) (wd G 69 rfl) (wd G 63 rfl) (wd G 70 rfl) ⟨by decide, by decide⟩ (Pays.of_ct (W := 0) (ct_toB3 G a ka d u0 u1 u2 h_8 F_10) all0 (wd G 70 rfl) (wd G 63 rfl) (by decide) (by decide) rfl rfl) (argsL := [(.ref a), (.int (0 : Int32)), (.int (3 : Int32))]) (rest := []) rfl (lenOf pd_5 rfl) rfl (Nat.le_of_eq rfl) rfl d13_23 (pc' := 26) rfl (k' := 2) (n' := 9) rfl rfl (by decide) (by decide) ?_
    intro v_11 h_14 sz_12 q_13
    obtain ⟨r, kr, rfl, E2, g2, A2⟩ := q_13
    refine Seg.astore (L' := #[.val (.ref a), .val (.int (0 : Int32)), .val (.int (3 : Int32)), .val (.ref b_1), .val (.int (0 : Int32)), .val (.ref r)]) d13_26 rfl rfl (pc' := 28) rfl ?_
    refine Seg.aload d13_28 rfl rfl (pc' := 30) rfl ?_
    refine Seg.iload d13_30 rfl (pc' := 32) rfl ?_
    refine Seg.callS (y' := (⟨"java/lang/StringUTF16", "getChar", "([BI)C"⟩ : MethodName)) (wd G 84 rfl) (wd G 85 rfl) (wd G 63 rfl) (wd G 86 rfl) ⟨by decide, by decide⟩ (Pays.of_ct (W := 0) (ct_getc G r kr [u0, u1, u2] 0 h_14 A2 hr (by decide : 3 ≤ 4000) (by decide : 0 < 3)) all0 (wd G 86 rfl) (wd G 63 rfl) (by decide) (by decide) rfl rfl) (argsL := [(.ref r), (.int (0 : Int32))]) (rest := []) rfl (lenOf pd_6 rfl) rfl (Nat.le_of_eq rfl) rfl d13_32 (pc' := 35) rfl (k' := 2) (n' := 9) rfl rfl (by decide) (by decide) ?_
    intro v_15 h_18 sz_16 q_17
    obtain ⟨rfl, rfl⟩ := q_17
    refine Seg.sipush (v := 255) d13_35 (by decide) (pc' := 38) rfl ?_
    refine Seg.icY (pc' := 54) d13_38 (XT.ii_gt_t q0) (by decide) (by decide) ?_
    refine Seg.aload d13_54 rfl rfl (pc' := 56) rfl ?_
    have E_19 : Ext h0 h_14 := ext_tr E_9 E2
    exact Seg.retA rfl rfl rfl d13_56 (by decide) (by decide) ⟨r, kr, rfl, E_19, (Nat.le_trans E_9.1 g2), A2⟩
  · by_cases q1 : (255 : Int32) < u1
    · refine Seg.iloadN d13_0 rfl (pc' := 1) rfl ?_
      refine Seg.newP (ty := .byte) (dv := (.int 0)) rfl rfl (wd G 25 rfl) d13_1 (pc' := 3) rfl (by decide) (cap := 3) (by decide) (by decide) (k' := 1) (n' := 3) rfl rfl (by decide) (by decide) ?_
      intro b_20 h_22 k_b_20 E_21 e_b_20 l_b_20 A_b_20
      replace A_b_20 : Arv Z h_22 b_20 k_b_20 .byte (3 : Int32) [(.int (0 : Int32)), (.int (0 : Int32)), (.int (0 : Int32))] (.int 0) := A_b_20.pad (pad_rep [] (.int 0) 3)
      refine Seg.astoreN (L' := #[.val (.ref a), .val (.int (0 : Int32)), .val (.int (3 : Int32)), .val (.ref b_20), .unset, .unset]) d13_3 rfl rfl (pc' := 4) rfl ?_
      refine Seg.aloadN d13_4 rfl rfl (pc' := 5) rfl ?_
      refine Seg.iloadN d13_5 rfl (pc' := 6) rfl ?_
      refine Seg.aloadN d13_6 rfl rfl (pc' := 7) rfl ?_
      refine Seg.iconst (v := 0) d13_7 (by decide) (pc' := 8) rfl ?_
      refine Seg.iloadN d13_8 rfl (pc' := 9) rfl ?_
      have F_23 := Ka.ext E_21
      refine Seg.callS (y' := (⟨"java/lang/StringUTF16", "compress", "([CI[BII)I"⟩ : MethodName)) (wd G 65 rfl) (wd G 66 rfl) (wd G 63 rfl) (wd G 67 rfl) ⟨by decide, by decide⟩ (Pays.of_ct (W := 0) (ct_ci3_1 G a ka d u0 u1 u2 b_20 k_b_20 h_22 F_23 A_b_20 (Nat.ne_of_lt (Nat.lt_of_lt_of_le Ka.lt (Nat.le_of_eq e_b_20))) q0 q1) (allS (List.mem_of_getElem? (i := 0) rfl) all0) (wd G 67 rfl) (wd G 63 rfl) (by decide) (by decide) rfl rfl) (argsL := [(.ref a), (.int (0 : Int32)), (.ref b_20), (.int (0 : Int32)), (.int (3 : Int32))]) (rest := []) rfl (lenOf pd_4 rfl) rfl (Nat.le_of_eq rfl) rfl d13_9 (pc' := 12) rfl (k' := 1) (n' := 3) rfl rfl (by decide) (by decide) ?_
      intro v_24 h_27 sz_25 q_26
      obtain ⟨rfl, K1⟩ := q_26
      refine Seg.istore (L' := #[.val (.ref a), .val (.int (0 : Int32)), .val (.int (3 : Int32)), .val (.ref b_20), .val (.int (1 : Int32)), .unset]) d13_12 rfl (pc' := 14) rfl ?_
      refine Seg.iload d13_14 rfl (pc' := 16) rfl ?_
      refine Seg.iloadN d13_16 rfl (pc' := 17) rfl ?_
      refine Seg.icN d13_17 (by decide) (pc' := 20) rfl ?_
      refine Seg.aloadN d13_20 rfl rfl (pc' := 21) rfl ?_
      refine Seg.iloadN d13_21 rfl (pc' := 22) rfl ?_
      refine Seg.iloadN d13_22 rfl (pc' := 23) rfl ?_
      have E_28 : Ext h0 h_27 := ext_kp E_21 K1 (allS (Nat.le_trans (ext_rfl _).1 (Nat.le_of_eq e_b_20)) all0)
      have F_29 := Ka.ext E_28
      refine Seg.callS (y' := (⟨"java/lang/StringUTF16", "toBytes", "([CII)[B"⟩ : MethodName)) (wd G 68 rfl) (wd G 69 rfl) (wd G 63 rfl) (wd G 70 rfl) ⟨by decide, by decide⟩ (Pays.of_ct (W := 0) (ct_toB3 G a ka d u0 u1 u2 h_27 F_29) all0 (wd G 70 rfl) (wd G 63 rfl) (by decide) (by decide) rfl rfl) (argsL := [(.ref a), (.int (0 : Int32)), (.int (3 : Int32))]) (rest := []) rfl (lenOf pd_5 rfl) rfl (Nat.le_of_eq rfl) rfl d13_23 (pc' := 26) rfl (k' := 2) (n' := 9) rfl rfl (by decide) (by decide) ?_
      intro v_30 h_33 sz_31 q_32
      obtain ⟨r, kr, rfl, E2, g2, A2⟩ := q_32
      refine Seg.astore (L' := #[.val (.ref a), .val (.int (0 : Int32)), .val (.int (3 : Int32)), .val (.ref b_20), .val (.int (1 : Int32)), .val (.ref r)]) d13_26 rfl rfl (pc' := 28) rfl ?_
      refine Seg.aload d13_28 rfl rfl (pc' := 30) rfl ?_
      refine Seg.iload d13_30 rfl (pc' := 32) rfl ?_
      refine Seg.callS (y' := (⟨"java/lang/StringUTF16", "getChar", "([BI)C"⟩ : MethodName)) (wd G 84 rfl) (wd G 85 rfl) (wd G 63 rfl) (wd G 86 rfl) ⟨by decide, by decide⟩ (Pays.of_ct (W := 0) (ct_getc G r kr [u0, u1, u2] 1 h_33 A2 hr (by decide : 3 ≤ 4000) (by decide : 1 < 3)) all0 (wd G 86 rfl) (wd G 63 rfl) (by decide) (by decide) rfl rfl) (argsL := [(.ref r), (.int (1 : Int32))]) (rest := []) rfl (lenOf pd_6 rfl) rfl (Nat.le_of_eq rfl) rfl d13_32 (pc' := 35) rfl (k' := 2) (n' := 9) rfl rfl (by decide) (by decide) ?_
      intro v_34 h_37 sz_35 q_36
      obtain ⟨rfl, rfl⟩ := q_36
      refine Seg.sipush (v := 255) d13_35 (by decide) (pc' := 38) rfl ?_
      refine Seg.icY (pc' := 54) d13_38 (XT.ii_gt_t q1) (by decide) (by decide) ?_
      refine Seg.aload d13_54 rfl rfl (pc' := 56) rfl ?_
      have E_38 : Ext h0 h_33 := ext_tr E_28 E2
      exact Seg.retA rfl rfl rfl d13_56 (by decide) (by decide) ⟨r, kr, rfl, E_38, (Nat.le_trans E_28.1 g2), A2⟩
    · have q2 : (255 : Int32) < u2 := by obtain ⟨c, hc, hq⟩ := hw; simp only [List.mem_cons, List.not_mem_nil, or_false] at hc; rcases hc with rfl | rfl | rfl <;> first | exact hq | exact absurd hq (by assumption)
      refine Seg.iloadN d13_0 rfl (pc' := 1) rfl ?_
      refine Seg.newP (ty := .byte) (dv := (.int 0)) rfl rfl (wd G 25 rfl) d13_1 (pc' := 3) rfl (by decide) (cap := 3) (by decide) (by decide) (k' := 1) (n' := 3) rfl rfl (by decide) (by decide) ?_
      intro b_39 h_41 k_b_39 E_40 e_b_39 l_b_39 A_b_39
      replace A_b_39 : Arv Z h_41 b_39 k_b_39 .byte (3 : Int32) [(.int (0 : Int32)), (.int (0 : Int32)), (.int (0 : Int32))] (.int 0) := A_b_39.pad (pad_rep [] (.int 0) 3)
      refine Seg.astoreN (L' := #[.val (.ref a), .val (.int (0 : Int32)), .val (.int (3 : Int32)), .val (.ref b_39), .unset, .unset]) d13_3 rfl rfl (pc' := 4) rfl ?_
      refine Seg.aloadN d13_4 rfl rfl (pc' := 5) rfl ?_
      refine Seg.iloadN d13_5 rfl (pc' := 6) rfl ?_
      refine Seg.aloadN d13_6 rfl rfl (pc' := 7) rfl ?_
      refine Seg.iconst (v := 0) d13_7 (by decide) (pc' := 8) rfl ?_
      refine Seg.iloadN d13_8 rfl (pc' := 9) rfl ?_
      have F_42 := Ka.ext E_40
      refine Seg.callS (y' := (⟨"java/lang/StringUTF16", "compress", "([CI[BII)I"⟩ : MethodName)) (wd G 65 rfl) (wd G 66 rfl) (wd G 63 rfl) (wd G 67 rfl) ⟨by decide, by decide⟩ (Pays.of_ct (W := 0) (ct_ci3_2 G a ka d u0 u1 u2 b_39 k_b_39 h_41 F_42 A_b_39 (Nat.ne_of_lt (Nat.lt_of_lt_of_le Ka.lt (Nat.le_of_eq e_b_39))) q0 q1 q2) (allS (List.mem_of_getElem? (i := 0) rfl) all0) (wd G 67 rfl) (wd G 63 rfl) (by decide) (by decide) rfl rfl) (argsL := [(.ref a), (.int (0 : Int32)), (.ref b_39), (.int (0 : Int32)), (.int (3 : Int32))]) (rest := []) rfl (lenOf pd_4 rfl) rfl (Nat.le_of_eq rfl) rfl d13_9 (pc' := 12) rfl (k' := 1) (n' := 3) rfl rfl (by decide) (by decide) ?_
      intro v_43 h_46 sz_44 q_45
      obtain ⟨rfl, K1⟩ := q_45
      refine Seg.istore (L' := #[.val (.ref a), .val (.int (0 : Int32)), .val (.int (3 : Int32)), .val (.ref b_39), .val (.int (2 : Int32)), .unset]) d13_12 rfl (pc' := 14) rfl ?_
      refine Seg.iload d13_14 rfl (pc' := 16) rfl ?_
      refine Seg.iloadN d13_16 rfl (pc' := 17) rfl ?_
      refine Seg.icN d13_17 (by decide) (pc' := 20) rfl ?_
      refine Seg.aloadN d13_20 rfl rfl (pc' := 21) rfl ?_
      refine Seg.iloadN d13_21 rfl (pc' := 22) rfl ?_
      refine Seg.iloadN d13_22 rfl (pc' := 23) rfl ?_
      have E_47 : Ext h0 h_46 := ext_kp E_40 K1 (allS (Nat.le_trans (ext_rfl _).1 (Nat.le_of_eq e_b_39)) all0)
      have F_48 := Ka.ext E_47
      refine Seg.callS (y' := (⟨"java/lang/StringUTF16", "toBytes", "([CII)[B"⟩ : MethodName)) (wd G 68 rfl) (wd G 69 rfl) (wd G 63 rfl) (wd G 70 rfl) ⟨by decide, by decide⟩ (Pays.of_ct (W := 0) (ct_toB3 G a ka d u0 u1 u2 h_46 F_48) all0 (wd G 70 rfl) (wd G 63 rfl) (by decide) (by decide) rfl rfl) (argsL := [(.ref a), (.int (0 : Int32)), (.int (3 : Int32))]) (rest := []) rfl (lenOf pd_5 rfl) rfl (Nat.le_of_eq rfl) rfl d13_23 (pc' := 26) rfl (k' := 2) (n' := 9) rfl rfl (by decide) (by decide) ?_
      intro v_49 h_52 sz_50 q_51
      obtain ⟨r, kr, rfl, E2, g2, A2⟩ := q_51
      refine Seg.astore (L' := #[.val (.ref a), .val (.int (0 : Int32)), .val (.int (3 : Int32)), .val (.ref b_39), .val (.int (2 : Int32)), .val (.ref r)]) d13_26 rfl rfl (pc' := 28) rfl ?_
      refine Seg.aload d13_28 rfl rfl (pc' := 30) rfl ?_
      refine Seg.iload d13_30 rfl (pc' := 32) rfl ?_
      refine Seg.callS (y' := (⟨"java/lang/StringUTF16", "getChar", "([BI)C"⟩ : MethodName)) (wd G 84 rfl) (wd G 85 rfl) (wd G 63 rfl) (wd G 86 rfl) ⟨by decide, by decide⟩ (Pays.of_ct (W := 0) (ct_getc G r kr [u0, u1, u2] 2 h_52 A2 hr (by decide : 3 ≤ 4000) (by decide : 2 < 3)) all0 (wd G 86 rfl) (wd G 63 rfl) (by decide) (by decide) rfl rfl) (argsL := [(.ref r), (.int (2 : Int32))]) (rest := []) rfl (lenOf pd_6 rfl) rfl (Nat.le_of_eq rfl) rfl d13_32 (pc' := 35) rfl (k' := 2) (n' := 9) rfl rfl (by decide) (by decide) ?_
      intro v_53 h_56 sz_54 q_55
      obtain ⟨rfl, rfl⟩ := q_55
      refine Seg.sipush (v := 255) d13_35 (by decide) (pc' := 38) rfl ?_
      refine Seg.icY (pc' := 54) d13_38 (XT.ii_gt_t q2) (by decide) (by decide) ?_
      refine Seg.aload d13_54 rfl rfl (pc' := 56) rfl ?_
      have E_57 : Ext h0 h_52 := ext_tr E_47 E2
      exact Seg.retA rfl rfl rfl d13_56 (by decide) (by decide) ⟨r, kr, rfl, E_57, (Nat.le_trans E_47.1 g2), A2⟩
theorem ef_ct_cfl3 (b : Addr) (kb : ClassId) (vs : List Value) (m : MethodId) : entryFrame m #[(.ref b), (.int (3 : Int32))] 2 = mkF m 0 #[.val (.ref b), .val (.int (3 : Int32))] [] := by first | (simp [entryFrame, mkF, argsToLocals, Value.category]; done) | rfl
set_option maxRecDepth 65536 in
set_option maxHeartbeats 4000000 in
theorem ct_cfl3 {l : Launch} {Z : State} {a0 : Array Value} (G : Env1 Z a0) (b : Addr) (kb : ClassId) (vs : List Value) (h0 : Heap) (K : Arv Z h0 b kb .byte 6 vs (.int 0)) :
    Ct l Z EL1 [] [] (⟨"java/lang/StringUTF16", "coderFromArrayLen", "([BI)B"⟩ : MethodName) jdk_52_method_15_code 2 (some .byte) ({ frames := 0, cells := 0, slots := 0, locals := 0 } : Room) #[(.ref b), (.int (3 : Int32))] h0 (fun v h => v = some (.int 1) ∧ h0 = h) := by
  refine Ct.of_seg (a0 := a0) (plainFor_of_name pn_java_lang_StringUTF16) G.2.1 (ef_ct_cfl3 b kb vs) ?_
  refine Seg.iloadN d20_0 rfl (pc' := 1) rfl ?_
  refine Seg.aloadN d20_1 rfl rfl (pc' := 2) rfl ?_
  refine Seg.alen K d20_2 (pc' := 3) rfl ?_
  refine Seg.isub (v := (-3 : Int32)) d20_3 (by decide) (pc' := 4) rfl ?_
  refine Seg.bipush (v := 31) d20_4 (by decide) (pc' := 6) rfl ?_
  refine Seg.iushr (v := (1 : Int32)) d20_6 (by decide) (pc' := 7) rfl ?_
  refine Seg.i2b (v := (1 : Int32)) d20_7 (by decide) (pc' := 8) rfl ?_
  exact Seg.retN (t := .byte) (w := (1 : Int32)) rfl (by decide) (by decide) d20_8 (by decide) (by decide) ⟨rfl, rfl⟩
theorem ef_ct_si4w3 (x : Addr) (a : Addr) (ka : ClassId) (d : Value) (u0 : Int32) (u1 : Int32) (u2 : Int32) (v0 : Value) (c0 : Value) (m : MethodId) : entryFrame m #[(.ref x), (.ref a), (.int (0 : Int32)), (.int (3 : Int32)), Value.null] 6 = mkF m 0 #[.val (.ref x), .val (.ref a), .val (.int (0 : Int32)), .val (.int (3 : Int32)), .val Value.null, .unset] [] := by first | (simp [entryFrame, mkF, argsToLocals, Value.category]; done) | rfl
set_option maxRecDepth 65536 in
set_option maxHeartbeats 4000000 in
theorem ct_si4w3 {l : Launch} {Z : State} {a0 : Array Value} (G : Env1 Z a0) (x : Addr) (a : Addr) (ka : ClassId) (d : Value) (u0 : Int32) (u1 : Int32) (u2 : Int32) (v0 : Value) (c0 : Value) (h0 : Heap) (A : Exa Z h0 x STN) (F0 : Fld Z h0 x STN "value" "[B" v0) (F1 : Fld Z h0 x STN "coder" "B" c0) (Ka : Arv Z h0 a ka .char 3 [(.int u0), (.int u1), (.int u2)] d) (hr : ∀ c ∈ [u0, u1, u2], ¬ c < 0 ∧ ¬ (65535 : Int32) < c) (hw : ∃ c ∈ [u0, u1, u2], (255 : Int32) < c) :
    Ct l Z EL1 [x] [] (⟨"java/lang/String", "<init>", "([CIILjava/lang/Void;)V"⟩ : MethodName) jdk_42_method_149_code 6 none ({ frames := 4, cells := 2, slots := 9, locals := 57 } : Room) #[(.ref x), (.ref a), (.int (0 : Int32)), (.int (3 : Int32)), Value.null] h0 (fun v h => v = none ∧ Keep h0 h [x] ∧ Str Z h x [u0, u1, u2]) := by
  refine Ct.of_seg (a0 := a0) (plainFor_of_name pn_java_lang_String) G.2.1 (ef_ct_si4w3 x a ka d u0 u1 u2 v0 c0) ?_
  obtain ⟨zc, Sc, hz⟩ := G.2.2.1
  refine Seg.aloadN d4_0 rfl rfl (pc' := 1) rfl ?_
  refine Seg.initO (wd G 21 rfl) (wd G 22 rfl) (wd G 23 rfl) rfl d4_1 (pc' := 4) rfl (by decide) (W := 0) (Nat.le_of_eq rfl) (by decide) ?_
  refine Seg.iloadN d4_4 rfl (pc' := 5) rfl ?_
  refine Seg.ifY (pc' := 27) d4_5 (by decide) (by decide) (by decide) ?_
  refine Seg.getS (wd G 53 rfl) Via.refl Sc d4_27 (pc' := 30) rfl ?_
  refine Seg.ifN d4_30 (XT.i0_eq_f hz) (pc' := 33) rfl ?_
  refine Seg.aloadN d4_33 rfl rfl (pc' := 34) rfl ?_
  refine Seg.iloadN d4_34 rfl (pc' := 35) rfl ?_
  refine Seg.iloadN d4_35 rfl (pc' := 36) rfl ?_
  refine Seg.callS (y' := (⟨"java/lang/StringUTF16", "compress", "([CII)[B"⟩ : MethodName)) (wd G 61 rfl) (wd G 62 rfl) (wd G 63 rfl) (wd G 64 rfl) ⟨by decide, by decide⟩ (Pays.of_ct (W := 0) (ct_co3 G a ka d u0 u1 u2 h0 Ka hr hw) all0 (wd G 64 rfl) (wd G 63 rfl) (by decide) (by decide) rfl rfl) (argsL := [(.ref a), (.int (0 : Int32)), (.int (3 : Int32))]) (rest := []) rfl (lenOf pd_5 rfl) rfl (Nat.le_of_eq rfl) rfl d4_36 (pc' := 39) rfl (k' := 2) (n' := 9) rfl rfl (by decide) (by decide) ?_
  intro v_1 h_4 sz_2 q_3
  obtain ⟨r, kr, rfl, E2, g2, A2⟩ := q_3
  have xr : r ≠ x := (Nat.ne_of_gt (Nat.lt_of_lt_of_le A.lt g2))
  refine Seg.astore (L' := #[.val (.ref x), .val (.ref a), .val (.int (0 : Int32)), .val (.int (3 : Int32)), .val Value.null, .val (.ref r)]) d4_39 rfl rfl (pc' := 41) rfl ?_
  refine Seg.aloadN d4_41 rfl rfl (pc' := 42) rfl ?_
  refine Seg.aload d4_42 rfl rfl (pc' := 44) rfl ?_
  refine Seg.iloadN d4_44 rfl (pc' := 45) rfl ?_
  refine Seg.callS (y' := (⟨"java/lang/StringUTF16", "coderFromArrayLen", "([BI)B"⟩ : MethodName)) (wd G 87 rfl) (wd G 88 rfl) (wd G 63 rfl) (wd G 89 rfl) ⟨by decide, by decide⟩ (Pays.of_ct (W := 1) (ct_cfl3 G r kr _ h_4 A2) all0 (wd G 89 rfl) (wd G 63 rfl) (by decide) (by decide) rfl rfl) (argsL := [(.ref r), (.int (3 : Int32))]) (rest := [(.ref x)]) rfl (lenOf pd_7 rfl) rfl (Nat.le_of_eq rfl) rfl d4_45 (pc' := 48) rfl (k' := 2) (n' := 9) rfl rfl (by decide) (by decide) ?_
  intro v_5 h_8 sz_6 q_7
  obtain ⟨rfl, rfl⟩ := q_7
  have F_9 := F1.ext E2
  have F_10 := A.ext E2
  refine Seg.putF (host := "") (ty := .byte) (v' := (.int (1 : Int32))) (wd G 31 rfl) Via.refl F_9 F_10 (Or.inr ⟨(wd G 27 rfl), rfl, rfl⟩) (wd G 11 rfl) (by decide) rfl rfl (List.mem_of_getElem? (i := 0) rfl) d4_48 (pc' := 51) rfl ?_
  intro h_13 W_11 F_12
  refine Seg.aloadN d4_51 rfl rfl (pc' := 52) rfl ?_
  refine Seg.aload d4_52 rfl rfl (pc' := 54) rfl ?_
  have F_14 := ((F0.ext E2).other W_11 (Or.inr (slot_ne (Or.inr (wd G 26 rfl)) (Or.inr (wd G 27 rfl)) (by decide) (t := (.array .byte)) (t' := .byte) (by decide) (by decide))))
  have F_15 := (F_10.wr W_11)
  refine Seg.putF (host := "") (ty := (.array .byte)) (v' := (.ref r)) (wd G 30 rfl) Via.refl F_14 F_15 (Or.inr ⟨(wd G 26 rfl), rfl, rfl⟩) (wd G 11 rfl) (by decide) rfl rfl (List.mem_of_getElem? (i := 0) rfl) d4_54 (pc' := 57) rfl ?_
  intro h_18 W_16 F_17
  have F_19 := (F_15.wr W_16)
  have F_20 := (F_12.other W_16 (Or.inr (slot_ne (Or.inr (wd G 27 rfl)) (Or.inr (wd G 26 rfl)) (by decide) (t := .byte) (t' := (.array .byte)) (by decide) (by decide))))
  have F_21 := ((A2.keep (Keep.of_wr W_11) (ninS xr nin0)).keep (Keep.of_wr W_16) (ninS xr nin0))
  exact Seg.ret0 rfl d4_57 (by decide) (by decide) ⟨rfl, ((((Keep.refl h0 [x]).ext E2).wr W_11 (Or.inl (List.mem_of_getElem? (i := 0) rfl))).wr W_16 (Or.inl (List.mem_of_getElem? (i := 0) rfl))), r, kr, 1, 6, _, F_19, F_17, F_20, F_21, Or.inr ⟨rfl, rfl, rfl, hw⟩, hr, (by decide : 3 ≤ 4000)⟩
theorem ef_ct_siw3 (x : Addr) (a : Addr) (ka : ClassId) (d : Value) (u0 : Int32) (u1 : Int32) (u2 : Int32) (v0 : Value) (c0 : Value) (m : MethodId) : entryFrame m #[(.ref x), (.ref a)] 2 = mkF m 0 #[.val (.ref x), .val (.ref a)] [] := by first | (simp [entryFrame, mkF, argsToLocals, Value.category]; done) | rfl
set_option maxRecDepth 65536 in
set_option maxHeartbeats 4000000 in
theorem ct_siw3 {l : Launch} {Z : State} {a0 : Array Value} (G : Env1 Z a0) (x : Addr) (a : Addr) (ka : ClassId) (d : Value) (u0 : Int32) (u1 : Int32) (u2 : Int32) (v0 : Value) (c0 : Value) (h0 : Heap) (A : Exa Z h0 x STN) (F0 : Fld Z h0 x STN "value" "[B" v0) (F1 : Fld Z h0 x STN "coder" "B" c0) (Ka : Arv Z h0 a ka .char 3 [(.int u0), (.int u1), (.int u2)] d) (hr : ∀ c ∈ [u0, u1, u2], ¬ c < 0 ∧ ¬ (65535 : Int32) < c) (hw : ∃ c ∈ [u0, u1, u2], (255 : Int32) < c) :
    Ct l Z EL1 [x] [] (⟨"java/lang/String", "<init>", "([C)V"⟩ : MethodName) jdk_42_method_3_code 2 none ({ frames := 5, cells := 2, slots := 9, locals := 74 } : Room) #[(.ref x), (.ref a)] h0 (fun v h => v = none ∧ Keep h0 h [x] ∧ Str Z h x [u0, u1, u2]) := by
  refine Ct.of_seg (a0 := a0) (plainFor_of_name pn_java_lang_String) G.2.1 (ef_ct_siw3 x a ka d u0 u1 u2 v0 c0) ?_
  refine Seg.aloadN d3_0 rfl rfl (pc' := 1) rfl ?_
  refine Seg.aloadN d3_1 rfl rfl (pc' := 2) rfl ?_
  refine Seg.iconst (v := 0) d3_2 (by decide) (pc' := 3) rfl ?_
  refine Seg.aloadN d3_3 rfl rfl (pc' := 4) rfl ?_
  refine Seg.alen Ka d3_4 (pc' := 5) rfl ?_
  refine Seg.anull d3_5 (pc' := 6) rfl ?_
  refine Seg.callN (y' := (⟨"java/lang/String", "<init>", "([CIILjava/lang/Void;)V"⟩ : MethodName)) (a := x) rfl (wd G 17 rfl) (wd G 18 rfl) (wd G 20 rfl) ⟨by decide, by decide⟩ (Pays.of_ct (W := 0) (ct_si4w3 G x a ka d u0 u1 u2 v0 c0 h0 A F0 F1 Ka hr hw) (allS (List.mem_of_getElem? (i := 0) rfl) all0) (wd G 20 rfl) (wd G 12 rfl) (by decide) (by decide) rfl rfl) (argsL := [(.ref a), (.int (0 : Int32)), (.int (3 : Int32)), Value.null]) (rest := []) rfl (lenOf pd_0 rfl) rfl (Nat.le_of_eq rfl) rfl d3_6 (pc' := 9) rfl (k' := 2) (n' := 9) rfl rfl (by decide) (by decide) ?_
  intro v_1 h_4 sz_2 q_3
  obtain ⟨rfl, K, F⟩ := q_3
  exact Seg.ret0 rfl d3_9 (by decide) (by decide) ⟨rfl, K, F⟩
theorem d28_0 : decode jdk_89_method_14_code 0 = .ok (.iload_n 0, 1) := by decide +kernel
theorem d28_1 : decode jdk_89_method_14_code 1 = .ok (.ldc 75, 2) := by decide +kernel
theorem d28_3 : decode jdk_89_method_14_code 3 = .ok (.if_icmp .lt 13, 3) := by decide +kernel
theorem d28_16 : decode jdk_89_method_14_code 16 = .ok (.iconst 0, 1) := by decide +kernel
theorem d28_17 : decode jdk_89_method_14_code 17 = .ok (.ireturn, 1) := by decide +kernel
theorem d28_6 : decode jdk_89_method_14_code 6 = .ok (.iload_n 0, 1) := by decide +kernel
theorem d28_7 : decode jdk_89_method_14_code 7 = .ok (.ldc 76, 2) := by decide +kernel
theorem d28_9 : decode jdk_89_method_14_code 9 = .ok (.if_icmp .ge 7, 3) := by decide +kernel
theorem d28_12 : decode jdk_89_method_14_code 12 = .ok (.iconst 1, 1) := by decide +kernel
theorem d28_13 : decode jdk_89_method_14_code 13 = .ok (.goto 4, 3) := by decide +kernel
theorem pn_java_lang_Character : plainName "java/lang/Character" = true := by first | (simp [plainName, overriddenIn]; done) | decide +kernel
theorem ef_ct_hi (u : Int32) (m : MethodId) : entryFrame m #[(.int u)] 1 = mkF m 0 #[.val (.int u)] [] := by first | (simp [entryFrame, mkF, argsToLocals, Value.category]; done) | rfl
set_option maxRecDepth 65536 in
set_option maxHeartbeats 4000000 in
theorem ct_hi {l : Launch} {Z : State} {a0 : Array Value} (G : Env1 Z a0) (u : Int32) (h0 : Heap) :
    Ct l Z EL1 [] [] (⟨"java/lang/Character", "isHighSurrogate", "(C)Z"⟩ : MethodName) jdk_89_method_14_code 1 (some .boolean) ({ frames := 0, cells := 0, slots := 0, locals := 0 } : Room) #[(.int u)] h0 (fun v h => v = some (.int (if isH u then 1 else 0)) ∧ h0 = h) := by
  refine Ct.of_seg (a0 := a0) (plainFor_of_name pn_java_lang_Character) G.2.1 (ef_ct_hi u) ?_
  refine Seg.iloadN d28_0 rfl (pc' := 1) rfl ?_
  refine Seg.ldcI (wd G 123 rfl) d28_1 (pc' := 3) rfl ?_
  by_cases h1 : u < 55296
  · refine Seg.icY (pc' := 16) d28_3 (XT.ii_lt_t h1) (by decide) (by decide) ?_
    refine Seg.iconst (v := 0) d28_16 (by decide) (pc' := 17) rfl ?_
    exact Seg.retN (t := .boolean) (w := (0 : Int32)) rfl (by decide) (by decide) d28_17 (by decide) (by decide) ⟨by rw [if_neg (fun q => q.1 h1)], rfl⟩
  · refine Seg.icN d28_3 (XT.ii_lt_f h1) (pc' := 6) rfl ?_
    refine Seg.iloadN d28_6 rfl (pc' := 7) rfl ?_
    refine Seg.ldcI (wd G 124 rfl) d28_7 (pc' := 9) rfl ?_
    by_cases h2 : u < 56320
    · refine Seg.icN d28_9 (XT.ii_ge_f h2) (pc' := 12) rfl ?_
      refine Seg.iconst (v := 1) d28_12 (by decide) (pc' := 13) rfl ?_
      refine Seg.goto (pc' := 17) d28_13 (by decide) (by decide) ?_
      exact Seg.retN (t := .boolean) (w := (1 : Int32)) rfl (by decide) (by decide) d28_17 (by decide) (by decide) ⟨by rw [if_pos ⟨h1, h2⟩], rfl⟩
    · refine Seg.icY (pc' := 16) d28_9 (XT.ii_ge_t h2) (by decide) (by decide) ?_
      refine Seg.iconst (v := 0) d28_16 (by decide) (pc' := 17) rfl ?_
      exact Seg.retN (t := .boolean) (w := (0 : Int32)) rfl (by decide) (by decide) d28_17 (by decide) (by decide) ⟨by rw [if_neg (fun q => h2 q.2)], rfl⟩
theorem d30_0 : decode jdk_89_method_15_code 0 = .ok (.iload_n 0, 1) := by decide +kernel
theorem d30_1 : decode jdk_89_method_15_code 1 = .ok (.ldc 76, 2) := by decide +kernel
theorem d30_3 : decode jdk_89_method_15_code 3 = .ok (.if_icmp .lt 13, 3) := by decide +kernel
theorem d30_16 : decode jdk_89_method_15_code 16 = .ok (.iconst 0, 1) := by decide +kernel
theorem d30_17 : decode jdk_89_method_15_code 17 = .ok (.ireturn, 1) := by decide +kernel
theorem d30_6 : decode jdk_89_method_15_code 6 = .ok (.iload_n 0, 1) := by decide +kernel
theorem d30_7 : decode jdk_89_method_15_code 7 = .ok (.ldc 77, 2) := by decide +kernel
theorem d30_9 : decode jdk_89_method_15_code 9 = .ok (.if_icmp .ge 7, 3) := by decide +kernel
theorem d30_12 : decode jdk_89_method_15_code 12 = .ok (.iconst 1, 1) := by decide +kernel
theorem d30_13 : decode jdk_89_method_15_code 13 = .ok (.goto 4, 3) := by decide +kernel
theorem ef_ct_lo (u : Int32) (m : MethodId) : entryFrame m #[(.int u)] 1 = mkF m 0 #[.val (.int u)] [] := by first | (simp [entryFrame, mkF, argsToLocals, Value.category]; done) | rfl
set_option maxRecDepth 65536 in
set_option maxHeartbeats 4000000 in
theorem ct_lo {l : Launch} {Z : State} {a0 : Array Value} (G : Env1 Z a0) (u : Int32) (h0 : Heap) :
    Ct l Z EL1 [] [] (⟨"java/lang/Character", "isLowSurrogate", "(C)Z"⟩ : MethodName) jdk_89_method_15_code 1 (some .boolean) ({ frames := 0, cells := 0, slots := 0, locals := 0 } : Room) #[(.int u)] h0 (fun v h => v = some (.int (if isLo u then 1 else 0)) ∧ h0 = h) := by
  refine Ct.of_seg (a0 := a0) (plainFor_of_name pn_java_lang_Character) G.2.1 (ef_ct_lo u) ?_
  refine Seg.iloadN d30_0 rfl (pc' := 1) rfl ?_
  refine Seg.ldcI (wd G 124 rfl) d30_1 (pc' := 3) rfl ?_
  by_cases h1 : u < 56320
  · refine Seg.icY (pc' := 16) d30_3 (XT.ii_lt_t h1) (by decide) (by decide) ?_
    refine Seg.iconst (v := 0) d30_16 (by decide) (pc' := 17) rfl ?_
    exact Seg.retN (t := .boolean) (w := (0 : Int32)) rfl (by decide) (by decide) d30_17 (by decide) (by decide) ⟨by rw [if_neg (fun q => q.1 h1)], rfl⟩
  · refine Seg.icN d30_3 (XT.ii_lt_f h1) (pc' := 6) rfl ?_
    refine Seg.iloadN d30_6 rfl (pc' := 7) rfl ?_
    refine Seg.ldcI (wd G 133 rfl) d30_7 (pc' := 9) rfl ?_
    by_cases h2 : u < 57344
    · refine Seg.icN d30_9 (XT.ii_ge_f h2) (pc' := 12) rfl ?_
      refine Seg.iconst (v := 1) d30_12 (by decide) (pc' := 13) rfl ?_
      refine Seg.goto (pc' := 17) d30_13 (by decide) (by decide) ?_
      exact Seg.retN (t := .boolean) (w := (1 : Int32)) rfl (by decide) (by decide) d30_17 (by decide) (by decide) ⟨by rw [if_pos ⟨h1, h2⟩], rfl⟩
    · refine Seg.icY (pc' := 16) d30_9 (XT.ii_ge_t h2) (by decide) (by decide) ?_
      refine Seg.iconst (v := 0) d30_16 (by decide) (pc' := 17) rfl ?_
      exact Seg.retN (t := .boolean) (w := (0 : Int32)) rfl (by decide) (by decide) d30_17 (by decide) (by decide) ⟨by rw [if_neg (fun q => h2 q.2)], rfl⟩
theorem d31_0 : decode jdk_89_method_19_code 0 = .ok (.iload_n 0, 1) := by decide +kernel
theorem d31_1 : decode jdk_89_method_19_code 1 = .ok (.bipush 10, 2) := by decide +kernel
theorem d31_3 : decode jdk_89_method_19_code 3 = .ok (.ishl, 1) := by decide +kernel
theorem d31_4 : decode jdk_89_method_19_code 4 = .ok (.iload_n 1, 1) := by decide +kernel
theorem d31_5 : decode jdk_89_method_19_code 5 = .ok (.iadd, 1) := by decide +kernel
theorem d31_6 : decode jdk_89_method_19_code 6 = .ok (.ldc 85, 2) := by decide +kernel
theorem d31_8 : decode jdk_89_method_19_code 8 = .ok (.iadd, 1) := by decide +kernel
theorem d31_9 : decode jdk_89_method_19_code 9 = .ok (.ireturn, 1) := by decide +kernel
theorem ef_ct_tcp (u : Int32) (u' : Int32) (m : MethodId) : entryFrame m #[(.int u), (.int u')] 2 = mkF m 0 #[.val (.int u), .val (.int u')] [] := by first | (simp [entryFrame, mkF, argsToLocals, Value.category]; done) | rfl
set_option maxRecDepth 65536 in
set_option maxHeartbeats 4000000 in
theorem ct_tcp {l : Launch} {Z : State} {a0 : Array Value} (G : Env1 Z a0) (u : Int32) (u' : Int32) (h0 : Heap) :
    Ct l Z EL1 [] [] (⟨"java/lang/Character", "toCodePoint", "(CC)I"⟩ : MethodName) jdk_89_method_19_code 2 (some .int) ({ frames := 0, cells := 0, slots := 0, locals := 0 } : Room) #[(.int u), (.int u')] h0 (fun v h => v = some (.int (tcp u u')) ∧ h0 = h) := by
  refine Ct.of_seg (a0 := a0) (plainFor_of_name pn_java_lang_Character) G.2.1 (ef_ct_tcp u u') ?_
  refine Seg.iloadN d31_0 rfl (pc' := 1) rfl ?_
  refine Seg.bipush (v := 10) d31_1 (by decide) (pc' := 3) rfl ?_
  refine Seg.ishl (v := (u <<< ((10 : Int32) &&& 31))) d31_3 rfl (pc' := 4) rfl ?_
  refine Seg.iloadN d31_4 rfl (pc' := 5) rfl ?_
  refine Seg.iadd (v := ((u <<< ((10 : Int32) &&& 31)) + u')) d31_5 rfl (pc' := 6) rfl ?_
  refine Seg.ldcI (wd G 137 rfl) d31_6 (pc' := 8) rfl ?_
  refine Seg.iadd (v := (((u <<< ((10 : Int32) &&& 31)) + u') + (-56613888 : Int32))) d31_8 rfl (pc' := 9) rfl ?_
  exact Seg.retI rfl d31_9 (by decide) (by decide) ⟨rfl, rfl⟩
theorem d29_0 : decode jdk_89_method_18_code 0 = .ok (.iload_n 0, 1) := by decide +kernel
theorem d29_1 : decode jdk_89_method_18_code 1 = .ok (.ldc 73, 2) := by decide +kernel
theorem d29_3 : decode jdk_89_method_18_code 3 = .ok (.if_icmp .lt 7, 3) := by decide +kernel
theorem d29_10 : decode jdk_89_method_18_code 10 = .ok (.iconst 1, 1) := by decide +kernel
theorem d29_11 : decode jdk_89_method_18_code 11 = .ok (.ireturn, 1) := by decide +kernel
theorem d29_6 : decode jdk_89_method_18_code 6 = .ok (.iconst 2, 1) := by decide +kernel
theorem d29_7 : decode jdk_89_method_18_code 7 = .ok (.goto 4, 3) := by decide +kernel
theorem ef_ct_cc (u : Int32) (m : MethodId) : entryFrame m #[(.int u)] 1 = mkF m 0 #[.val (.int u)] [] := by first | (simp [entryFrame, mkF, argsToLocals, Value.category]; done) | rfl
set_option maxRecDepth 65536 in
set_option maxHeartbeats 4000000 in
theorem ct_cc {l : Launch} {Z : State} {a0 : Array Value} (G : Env1 Z a0) (u : Int32) (h0 : Heap) :
    Ct l Z EL1 [] [] (⟨"java/lang/Character", "charCount", "(I)I"⟩ : MethodName) jdk_89_method_18_code 1 (some .int) ({ frames := 0, cells := 0, slots := 0, locals := 0 } : Room) #[(.int u)] h0 (fun v h => v = some (.int (Int32.ofNat (wd2 u))) ∧ h0 = h) := by
  refine Ct.of_seg (a0 := a0) (plainFor_of_name pn_java_lang_Character) G.2.1 (ef_ct_cc u) ?_
  refine Seg.iloadN d29_0 rfl (pc' := 1) rfl ?_
  refine Seg.ldcI (wd G 128 rfl) d29_1 (pc' := 3) rfl ?_
  by_cases h1 : u < 65536
  · refine Seg.icY (pc' := 10) d29_3 (XT.ii_lt_t h1) (by decide) (by decide) ?_
    refine Seg.iconst (v := 1) d29_10 (by decide) (pc' := 11) rfl ?_
    exact Seg.retI rfl d29_11 (by decide) (by decide) ⟨by rw [wd2, if_pos h1]; rfl, rfl⟩
  · refine Seg.icN d29_3 (XT.ii_lt_f h1) (pc' := 6) rfl ?_
    refine Seg.iconst (v := 2) d29_6 (by decide) (pc' := 7) rfl ?_
    refine Seg.goto (pc' := 11) d29_7 (by decide) (by decide) ?_
    exact Seg.retI rfl d29_11 (by decide) (by decide) ⟨by rw [wd2, if_neg h1]; rfl, rfl⟩
theorem d11_0 : decode jdk_33_method_40_code 0 = .ok (.iload_n 0, 1) := by decide +kernel
theorem d11_1 : decode jdk_33_method_40_code 1 = .ok (.iload_n 1, 1) := by decide +kernel
theorem d11_2 : decode jdk_33_method_40_code 2 = .ok (.if_icmp .ge 7, 3) := by decide +kernel
theorem d11_5 : decode jdk_33_method_40_code 5 = .ok (.iconst (-1), 1) := by decide +kernel
theorem d11_6 : decode jdk_33_method_40_code 6 = .ok (.goto 13, 3) := by decide +kernel
theorem d11_19 : decode jdk_33_method_40_code 19 = .ok (.ireturn, 1) := by decide +kernel
theorem pn_java_lang_Integer : plainName "java/lang/Integer" = true := by first | (simp [plainName, overriddenIn]; done) | decide +kernel
theorem ef_ct_icL (u : Int32) (u' : Int32) (m : MethodId) : entryFrame m #[(.int u), (.int u')] 2 = mkF m 0 #[.val (.int u), .val (.int u')] [] := by first | (simp [entryFrame, mkF, argsToLocals, Value.category]; done) | rfl
set_option maxRecDepth 65536 in
set_option maxHeartbeats 4000000 in
theorem ct_icL {l : Launch} {Z : State} {a0 : Array Value} (G : Env1 Z a0) (u : Int32) (u' : Int32) (h0 : Heap) (e : u < u') :
    Ct l Z EL1 [] [] (⟨"java/lang/Integer", "compare", "(II)I"⟩ : MethodName) jdk_33_method_40_code 2 (some .int) ({ frames := 0, cells := 0, slots := 0, locals := 0 } : Room) #[(.int u), (.int u')] h0 (fun v h => v = some (.int (-1)) ∧ h0 = h) := by
  refine Ct.of_seg (a0 := a0) (plainFor_of_name pn_java_lang_Integer) G.2.1 (ef_ct_icL u u') ?_
  refine Seg.iloadN d11_0 rfl (pc' := 1) rfl ?_
  refine Seg.iloadN d11_1 rfl (pc' := 2) rfl ?_
  refine Seg.icN d11_2 (XT.ii_ge_f e) (pc' := 5) rfl ?_
  refine Seg.iconst (v := -1) d11_5 (by decide) (pc' := 6) rfl ?_
  refine Seg.goto (pc' := 19) d11_6 (by decide) (by decide) ?_
  exact Seg.retI rfl d11_19 (by decide) (by decide) ⟨rfl, rfl⟩
theorem d11_9 : decode jdk_33_method_40_code 9 = .ok (.iload_n 0, 1) := by decide +kernel
theorem d11_10 : decode jdk_33_method_40_code 10 = .ok (.iload_n 1, 1) := by decide +kernel
theorem d11_11 : decode jdk_33_method_40_code 11 = .ok (.if_icmp .ne 7, 3) := by decide +kernel
theorem d11_14 : decode jdk_33_method_40_code 14 = .ok (.iconst 0, 1) := by decide +kernel
theorem d11_15 : decode jdk_33_method_40_code 15 = .ok (.goto 4, 3) := by decide +kernel
theorem ef_ct_icE (u : Int32) (u' : Int32) (m : MethodId) : entryFrame m #[(.int u), (.int u')] 2 = mkF m 0 #[.val (.int u), .val (.int u')] [] := by first | (simp [entryFrame, mkF, argsToLocals, Value.category]; done) | rfl
set_option maxRecDepth 65536 in
set_option maxHeartbeats 4000000 in
theorem ct_icE {l : Launch} {Z : State} {a0 : Array Value} (G : Env1 Z a0) (u : Int32) (u' : Int32) (h0 : Heap) (e : u = u') :
    Ct l Z EL1 [] [] (⟨"java/lang/Integer", "compare", "(II)I"⟩ : MethodName) jdk_33_method_40_code 2 (some .int) ({ frames := 0, cells := 0, slots := 0, locals := 0 } : Room) #[(.int u), (.int u')] h0 (fun v h => v = some (.int 0) ∧ h0 = h) := by
  refine Ct.of_seg (a0 := a0) (plainFor_of_name pn_java_lang_Integer) G.2.1 (ef_ct_icE u u') ?_
  refine Seg.iloadN d11_0 rfl (pc' := 1) rfl ?_
  refine Seg.iloadN d11_1 rfl (pc' := 2) rfl ?_
  refine Seg.icY (pc' := 9) d11_2 (XT.ii_ge_t (by rw [e]; exact Int32.lt_irrefl)) (by decide) (by decide) ?_
  refine Seg.iloadN d11_9 rfl (pc' := 10) rfl ?_
  refine Seg.iloadN d11_10 rfl (pc' := 11) rfl ?_
  refine Seg.icN d11_11 (XT.ii_ne_f e) (pc' := 14) rfl ?_
  refine Seg.iconst (v := 0) d11_14 (by decide) (pc' := 15) rfl ?_
  refine Seg.goto (pc' := 19) d11_15 (by decide) (by decide) ?_
  exact Seg.retI rfl d11_19 (by decide) (by decide) ⟨rfl, rfl⟩
theorem d11_18 : decode jdk_33_method_40_code 18 = .ok (.iconst 1, 1) := by decide +kernel
theorem ef_ct_icG (u : Int32) (u' : Int32) (m : MethodId) : entryFrame m #[(.int u), (.int u')] 2 = mkF m 0 #[.val (.int u), .val (.int u')] [] := by first | (simp [entryFrame, mkF, argsToLocals, Value.category]; done) | rfl
set_option maxRecDepth 65536 in
set_option maxHeartbeats 4000000 in
theorem ct_icG {l : Launch} {Z : State} {a0 : Array Value} (G : Env1 Z a0) (u : Int32) (u' : Int32) (h0 : Heap) (e : ¬ u = u' ∧ ¬ u < u') :
    Ct l Z EL1 [] [] (⟨"java/lang/Integer", "compare", "(II)I"⟩ : MethodName) jdk_33_method_40_code 2 (some .int) ({ frames := 0, cells := 0, slots := 0, locals := 0 } : Room) #[(.int u), (.int u')] h0 (fun v h => v = some (.int 1) ∧ h0 = h) := by
  refine Ct.of_seg (a0 := a0) (plainFor_of_name pn_java_lang_Integer) G.2.1 (ef_ct_icG u u') ?_
  refine Seg.iloadN d11_0 rfl (pc' := 1) rfl ?_
  refine Seg.iloadN d11_1 rfl (pc' := 2) rfl ?_
  refine Seg.icY (pc' := 9) d11_2 (XT.ii_ge_t e.2) (by decide) (by decide) ?_
  refine Seg.iloadN d11_9 rfl (pc' := 10) rfl ?_
  refine Seg.iloadN d11_10 rfl (pc' := 11) rfl ?_
  refine Seg.icY (pc' := 18) d11_11 (XT.ii_ne_t e.1) (by decide) (by decide) ?_
  refine Seg.iconst (v := 1) d11_18 (by decide) (pc' := 19) rfl ?_
  exact Seg.retI rfl d11_19 (by decide) (by decide) ⟨rfl, rfl⟩
theorem d27_0 : decode jdk_52_method_7_code 0 = .ok (.getstatic 44, 3) := by decide +kernel
theorem d27_3 : decode jdk_52_method_7_code 3 = .ok (.ifCond .ne 16, 3) := by decide +kernel
theorem d27_19 : decode jdk_52_method_7_code 19 = .ok (.iload_n 3, 1) := by decide +kernel
theorem d27_20 : decode jdk_52_method_7_code 20 = .ok (.ifCond .eq 8, 3) := by decide +kernel
theorem d27_28 : decode jdk_52_method_7_code 28 = .ok (.aload_n 0, 1) := by decide +kernel
theorem d27_29 : decode jdk_52_method_7_code 29 = .ok (.iload_n 1, 1) := by decide +kernel
theorem d27_30 : decode jdk_52_method_7_code 30 = .ok (.invokestatic 71, 3) := by decide +kernel
theorem d27_33 : decode jdk_52_method_7_code 33 = .ok (.istore 4, 2) := by decide +kernel
theorem d27_35 : decode jdk_52_method_7_code 35 = .ok (.iload 4, 2) := by decide +kernel
theorem d27_37 : decode jdk_52_method_7_code 37 = .ok (.invokestatic 75, 3) := by decide +kernel
theorem pd_8 : parseMethodDescriptor "(C)Z" = some ⟨[.char], some .boolean⟩ := by decide +kernel
theorem d27_40 : decode jdk_52_method_7_code 40 = .ok (.ifCond .eq 43, 3) := by decide +kernel
theorem d27_43 : decode jdk_52_method_7_code 43 = .ok (.iinc 1 1, 3) := by decide +kernel
theorem d27_46 : decode jdk_52_method_7_code 46 = .ok (.iload_n 1, 1) := by decide +kernel
theorem d27_47 : decode jdk_52_method_7_code 47 = .ok (.iload_n 2, 1) := by decide +kernel
theorem d27_48 : decode jdk_52_method_7_code 48 = .ok (.if_icmp .ge 35, 3) := by decide +kernel
theorem d27_51 : decode jdk_52_method_7_code 51 = .ok (.iload_n 3, 1) := by decide +kernel
theorem d27_52 : decode jdk_52_method_7_code 52 = .ok (.ifCond .eq 8, 3) := by decide +kernel
theorem d27_60 : decode jdk_52_method_7_code 60 = .ok (.aload_n 0, 1) := by decide +kernel
theorem d27_61 : decode jdk_52_method_7_code 61 = .ok (.iload_n 1, 1) := by decide +kernel
theorem d27_62 : decode jdk_52_method_7_code 62 = .ok (.invokestatic 71, 3) := by decide +kernel
theorem d27_65 : decode jdk_52_method_7_code 65 = .ok (.istore 5, 2) := by decide +kernel
theorem d27_67 : decode jdk_52_method_7_code 67 = .ok (.iload 5, 2) := by decide +kernel
theorem d27_69 : decode jdk_52_method_7_code 69 = .ok (.invokestatic 81, 3) := by decide +kernel
theorem d27_72 : decode jdk_52_method_7_code 72 = .ok (.ifCond .eq 11, 3) := by decide +kernel
theorem d27_75 : decode jdk_52_method_7_code 75 = .ok (.iload 4, 2) := by decide +kernel
theorem d27_77 : decode jdk_52_method_7_code 77 = .ok (.iload 5, 2) := by decide +kernel
theorem d27_79 : decode jdk_52_method_7_code 79 = .ok (.invokestatic 84, 3) := by decide +kernel
theorem pd_9 : parseMethodDescriptor "(CC)I" = some ⟨[.char, .char], some .int⟩ := by decide +kernel
theorem d27_82 : decode jdk_52_method_7_code 82 = .ok (.ireturn, 1) := by decide +kernel
theorem d27_83 : decode jdk_52_method_7_code 83 = .ok (.iload 4, 2) := by decide +kernel
theorem d27_85 : decode jdk_52_method_7_code 85 = .ok (.ireturn, 1) := by decide +kernel
theorem ef_ct_ucp4 (b : Addr) (kb : ClassId) (cs : List Int32) (i : Nat) (m : MethodId) : entryFrame m #[(.ref b), (.int (Int32.ofNat i)), (.int (Int32.ofNat cs.length)), (.int (0 : Int32))] 6 = mkF m 0 #[.val (.ref b), .val (.int (Int32.ofNat i)), .val (.int (Int32.ofNat cs.length)), .val (.int (0 : Int32)), .unset, .unset] [] := by first | (simp [entryFrame, mkF, argsToLocals, Value.category]; done) | rfl
set_option maxRecDepth 65536 in
set_option maxHeartbeats 4000000 in
theorem ct_ucp4 {l : Launch} {Z : State} {a0 : Array Value} (G : Env1 Z a0) (b : Addr) (kb : ClassId) (cs : List Int32) (i : Nat) (h0 : Heap) (K : Arv Z h0 b kb .byte (Int32.ofNat (2 * cs.length)) (StrChars.Road.wideBytes cs) (.int 0)) (hr : ∀ c ∈ cs, ¬ c < 0 ∧ ¬ (65535 : Int32) < c) (hl : cs.length ≤ 4000) (hi : i < cs.length) :
    Ct l Z EL1 [] [] (⟨"java/lang/StringUTF16", "codePointAt", "([BIIZ)I"⟩ : MethodName) jdk_52_method_7_code 6 (some .int) ({ frames := 1, cells := 0, slots := 0, locals := 13 } : Room) #[(.ref b), (.int (Int32.ofNat i)), (.int (Int32.ofNat cs.length)), (.int (0 : Int32))] h0 (fun v h => v = some (.int (cpA cs i)) ∧ h0 = h) := by
  refine Ct.of_seg (a0 := a0) (plainFor_of_name pn_java_lang_StringUTF16) G.2.1 (ef_ct_ucp4 b kb cs i) ?_
  refine Seg.getS (wd G 81 rfl) Via.refl G.2.2.2.2.1 d27_0 (pc' := 3) rfl ?_
  refine Seg.ifY (pc' := 19) d27_3 (by decide) (by decide) (by decide) ?_
  refine Seg.iloadN d27_19 rfl (pc' := 20) rfl ?_
  refine Seg.ifY (pc' := 28) d27_20 (by decide) (by decide) (by decide) ?_
  refine Seg.aloadN d27_28 rfl rfl (pc' := 29) rfl ?_
  refine Seg.iloadN d27_29 rfl (pc' := 30) rfl ?_
  refine Seg.callS (y' := (⟨"java/lang/StringUTF16", "getChar", "([BI)C"⟩ : MethodName)) (wd G 84 rfl) (wd G 85 rfl) (wd G 63 rfl) (wd G 86 rfl) ⟨by decide, by decide⟩ (Pays.of_ct (W := 0) (ct_getc G b kb cs i h0 K hr hl hi) all0 (wd G 86 rfl) (wd G 63 rfl) (by decide) (by decide) rfl rfl) (argsL := [(.ref b), (.int (Int32.ofNat i))]) (rest := []) rfl (lenOf pd_6 rfl) rfl (Nat.le_of_eq rfl) rfl d27_30 (pc' := 33) rfl (k' := 0) (n' := 0) rfl rfl (by decide) (by decide) ?_
  intro v_1 h_4 sz_2 q_3
  obtain ⟨rfl, rfl⟩ := q_3
  refine Seg.istore (L' := #[.val (.ref b), .val (.int (Int32.ofNat i)), .val (.int (Int32.ofNat cs.length)), .val (.int (0 : Int32)), .val (.int (cs.getD i 0)), .unset]) d27_33 rfl (pc' := 35) rfl ?_
  refine Seg.iload d27_35 rfl (pc' := 37) rfl ?_
  refine Seg.callS (y' := (⟨"java/lang/Character", "isHighSurrogate", "(C)Z"⟩ : MethodName)) (wd G 119 rfl) (wd G 120 rfl) (wd G 121 rfl) (wd G 122 rfl) ⟨by decide, by decide⟩ (Pays.of_ct (W := 0) (ct_hi G (cs.getD i 0) h0) all0 (wd G 122 rfl) (wd G 121 rfl) (by decide) (by decide) rfl rfl) (argsL := [(.int (cs.getD i 0))]) (rest := []) rfl (lenOf pd_8 rfl) rfl (Nat.le_of_eq rfl) rfl d27_37 (pc' := 40) rfl (k' := 0) (n' := 0) rfl rfl (by decide) (by decide) ?_
  intro v_5 h_8 sz_6 q_7
  obtain ⟨rfl, rfl⟩ := q_7
  by_cases hH : isH (cs.getD i 0)
  · refine Seg.ifN d27_40 (XT.i0_eq_f (by rw [if_pos hH]; decide)) (pc' := 43) rfl ?_
    refine Seg.iinc (v := 1) (z := (Int32.ofNat (i + 1))) (L' := #[.val (.ref b), .val (.int (Int32.ofNat (i + 1))), .val (.int (Int32.ofNat cs.length)), .val (.int (0 : Int32)), .val (.int (cs.getD i 0)), .unset]) d27_43 (by decide) rfl (n32s i) rfl (pc' := 46) rfl ?_
    refine Seg.iloadN d27_46 rfl (pc' := 47) rfl ?_
    refine Seg.iloadN d27_47 rfl (pc' := 48) rfl ?_
    by_cases h2 : i + 1 < cs.length
    · refine Seg.icN d27_48 (XT.ii_ge_f (n32lt h2 (by omega))) (pc' := 51) rfl ?_
      refine Seg.iloadN d27_51 rfl (pc' := 52) rfl ?_
      refine Seg.ifY (pc' := 60) d27_52 (by decide) (by decide) (by decide) ?_
      refine Seg.aloadN d27_60 rfl rfl (pc' := 61) rfl ?_
      refine Seg.iloadN d27_61 rfl (pc' := 62) rfl ?_
      refine Seg.callS (y' := (⟨"java/lang/StringUTF16", "getChar", "([BI)C"⟩ : MethodName)) (wd G 84 rfl) (wd G 85 rfl) (wd G 63 rfl) (wd G 86 rfl) ⟨by decide, by decide⟩ (Pays.of_ct (W := 0) (ct_getc G b kb cs (i + 1) h0 K hr hl h2) all0 (wd G 86 rfl) (wd G 63 rfl) (by decide) (by decide) rfl rfl) (argsL := [(.ref b), (.int (Int32.ofNat (i + 1)))]) (rest := []) rfl (lenOf pd_6 rfl) rfl (Nat.le_of_eq rfl) rfl d27_62 (pc' := 65) rfl (k' := 0) (n' := 0) rfl rfl (by decide) (by decide) ?_
      intro v_9 h_12 sz_10 q_11
      obtain ⟨rfl, rfl⟩ := q_11
      refine Seg.istore (L' := #[.val (.ref b), .val (.int (Int32.ofNat (i + 1))), .val (.int (Int32.ofNat cs.length)), .val (.int (0 : Int32)), .val (.int (cs.getD i 0)), .val (.int (cs.getD (i + 1) 0))]) d27_65 rfl (pc' := 67) rfl ?_
      refine Seg.iload d27_67 rfl (pc' := 69) rfl ?_
      refine Seg.callS (y' := (⟨"java/lang/Character", "isLowSurrogate", "(C)Z"⟩ : MethodName)) (wd G 130 rfl) (wd G 131 rfl) (wd G 121 rfl) (wd G 132 rfl) ⟨by decide, by decide⟩ (Pays.of_ct (W := 0) (ct_lo G (cs.getD (i + 1) 0) h0) all0 (wd G 132 rfl) (wd G 121 rfl) (by decide) (by decide) rfl rfl) (argsL := [(.int (cs.getD (i + 1) 0))]) (rest := []) rfl (lenOf pd_8 rfl) rfl (Nat.le_of_eq rfl) rfl d27_69 (pc' := 72) rfl (k' := 0) (n' := 0) rfl rfl (by decide) (by decide) ?_
      intro v_13 h_16 sz_14 q_15
      obtain ⟨rfl, rfl⟩ := q_15
      by_cases hL : isLo (cs.getD (i + 1) 0)
      · refine Seg.ifN d27_72 (XT.i0_eq_f (by rw [if_pos hL]; decide)) (pc' := 75) rfl ?_
        refine Seg.iload d27_75 rfl (pc' := 77) rfl ?_
        refine Seg.iload d27_77 rfl (pc' := 79) rfl ?_
        refine Seg.callS (y' := (⟨"java/lang/Character", "toCodePoint", "(CC)I"⟩ : MethodName)) (wd G 134 rfl) (wd G 135 rfl) (wd G 121 rfl) (wd G 136 rfl) ⟨by decide, by decide⟩ (Pays.of_ct (W := 0) (ct_tcp G (cs.getD i 0) (cs.getD (i + 1) 0) h0) all0 (wd G 136 rfl) (wd G 121 rfl) (by decide) (by decide) rfl rfl) (argsL := [(.int (cs.getD i 0)), (.int (cs.getD (i + 1) 0))]) (rest := []) rfl (lenOf pd_9 rfl) rfl (Nat.le_of_eq rfl) rfl d27_79 (pc' := 82) rfl (k' := 0) (n' := 0) rfl rfl (by decide) (by decide) ?_
        intro v_17 h_20 sz_18 q_19
        obtain ⟨rfl, rfl⟩ := q_19
        exact Seg.retI rfl d27_82 (by decide) (by decide) ⟨by rw [cpA, if_pos ⟨h2, hH, hL⟩], rfl⟩
      · refine Seg.ifY (pc' := 83) d27_72 (XT.i0_eq_t (if_neg hL)) (by decide) (by decide) ?_
        refine Seg.iload d27_83 rfl (pc' := 85) rfl ?_
        exact Seg.retI rfl d27_85 (by decide) (by decide) ⟨by rw [cpA, if_neg (fun q => hL q.2.2)], rfl⟩
    · refine Seg.icY (pc' := 83) d27_48 (XT.ii_ge_t (n32nlt (by omega) (by omega))) (by decide) (by decide) ?_
      refine Seg.iload d27_83 rfl (pc' := 85) rfl ?_
      exact Seg.retI rfl d27_85 (by decide) (by decide) ⟨by rw [cpA, if_neg (fun q => h2 q.1)], rfl⟩
  · refine Seg.ifY (pc' := 83) d27_40 (XT.i0_eq_t (if_neg hH)) (by decide) (by decide) ?_
    refine Seg.iload d27_83 rfl (pc' := 85) rfl ?_
    exact Seg.retI rfl d27_85 (by decide) (by decide) ⟨by rw [cpA, if_neg (fun q => hH q.2.1)], rfl⟩
theorem d26_0 : decode jdk_52_method_8_code 0 = .ok (.aload_n 0, 1) := by decide +kernel
theorem d26_1 : decode jdk_52_method_8_code 1 = .ok (.iload_n 1, 1) := by decide +kernel
theorem d26_2 : decode jdk_52_method_8_code 2 = .ok (.iload_n 2, 1) := by decide +kernel
theorem d26_3 : decode jdk_52_method_8_code 3 = .ok (.iconst 0, 1) := by decide +kernel
theorem d26_4 : decode jdk_52_method_8_code 4 = .ok (.invokestatic 88, 3) := by decide +kernel
theorem pd_10 : parseMethodDescriptor "([BIIZ)I" = some ⟨[(.array .byte), .int, .int, .boolean], some .int⟩ := by decide +kernel
theorem d26_7 : decode jdk_52_method_8_code 7 = .ok (.ireturn, 1) := by decide +kernel
theorem ef_ct_ucp3 (b : Addr) (kb : ClassId) (cs : List Int32) (i : Nat) (m : MethodId) : entryFrame m #[(.ref b), (.int (Int32.ofNat i)), (.int (Int32.ofNat cs.length))] 3 = mkF m 0 #[.val (.ref b), .val (.int (Int32.ofNat i)), .val (.int (Int32.ofNat cs.length))] [] := by first | (simp [entryFrame, mkF, argsToLocals, Value.category]; done) | rfl
set_option maxRecDepth 65536 in
set_option maxHeartbeats 4000000 in
theorem ct_ucp3 {l : Launch} {Z : State} {a0 : Array Value} (G : Env1 Z a0) (b : Addr) (kb : ClassId) (cs : List Int32) (i : Nat) (h0 : Heap) (K : Arv Z h0 b kb .byte (Int32.ofNat (2 * cs.length)) (StrChars.Road.wideBytes cs) (.int 0)) (hr : ∀ c ∈ cs, ¬ c < 0 ∧ ¬ (65535 : Int32) < c) (hl : cs.length ≤ 4000) (hi : i < cs.length) :
    Ct l Z EL1 [] [] (⟨"java/lang/StringUTF16", "codePointAt", "([BII)I"⟩ : MethodName) jdk_52_method_8_code 3 (some .int) ({ frames := 2, cells := 0, slots := 0, locals := 30 } : Room) #[(.ref b), (.int (Int32.ofNat i)), (.int (Int32.ofNat cs.length))] h0 (fun v h => v = some (.int (cpA cs i)) ∧ h0 = h) := by
  refine Ct.of_seg (a0 := a0) (plainFor_of_name pn_java_lang_StringUTF16) G.2.1 (ef_ct_ucp3 b kb cs i) ?_
  refine Seg.aloadN d26_0 rfl rfl (pc' := 1) rfl ?_
  refine Seg.iloadN d26_1 rfl (pc' := 2) rfl ?_
  refine Seg.iloadN d26_2 rfl (pc' := 3) rfl ?_
  refine Seg.iconst (v := 0) d26_3 (by decide) (pc' := 4) rfl ?_
  refine Seg.callS (y' := (⟨"java/lang/StringUTF16", "codePointAt", "([BIIZ)I"⟩ : MethodName)) (wd G 116 rfl) (wd G 117 rfl) (wd G 63 rfl) (wd G 118 rfl) ⟨by decide, by decide⟩ (Pays.of_ct (W := 0) (ct_ucp4 G b kb cs i h0 K hr hl hi) all0 (wd G 118 rfl) (wd G 63 rfl) (by decide) (by decide) rfl rfl) (argsL := [(.ref b), (.int (Int32.ofNat i)), (.int (Int32.ofNat cs.length)), (.int (0 : Int32))]) (rest := []) rfl (lenOf pd_10 rfl) rfl (Nat.le_of_eq rfl) rfl d26_4 (pc' := 7) rfl (k' := 0) (n' := 0) rfl rfl (by decide) (by decide) ?_
  intro v_1 h_4 sz_2 q_3
  obtain ⟨rfl, rfl⟩ := q_3
  exact Seg.retI rfl d26_7 (by decide) (by decide) ⟨rfl, rfl⟩
theorem d25_0 : decode jdk_41_method_11_code 0 = .ok (.iload_n 0, 1) := by decide +kernel
theorem d25_1 : decode jdk_41_method_11_code 1 = .ok (.ifCond .lt 8, 3) := by decide +kernel
theorem d25_4 : decode jdk_41_method_11_code 4 = .ok (.iload_n 0, 1) := by decide +kernel
theorem d25_5 : decode jdk_41_method_11_code 5 = .ok (.iload_n 1, 1) := by decide +kernel
theorem d25_6 : decode jdk_41_method_11_code 6 = .ok (.if_icmp .lt 10, 3) := by decide +kernel
theorem d25_16 : decode jdk_41_method_11_code 16 = .ok (.iload_n 0, 1) := by decide +kernel
theorem d25_17 : decode jdk_41_method_11_code 17 = .ok (.ireturn, 1) := by decide +kernel
theorem pn_jdk_internal_util_Preconditions : plainName "jdk/internal/util/Preconditions" = true := by first | (simp [plainName, overriddenIn]; done) | decide +kernel
theorem ef_ct_pci (i : Nat) (n : Nat) (fm : Value) (hfm : (fm).isRef = true) (m : MethodId) : entryFrame m #[(.int (Int32.ofNat i)), (.int (Int32.ofNat n)), fm] 3 = mkF m 0 #[.val (.int (Int32.ofNat i)), .val (.int (Int32.ofNat n)), .val fm] [] := by
  rcases ref_cases hfm with rfl | ⟨_, rfl⟩ <;> rfl
set_option maxRecDepth 65536 in
set_option maxHeartbeats 4000000 in
theorem ct_pci {l : Launch} {Z : State} {a0 : Array Value} (G : Env1 Z a0) (i : Nat) (n : Nat) (fm : Value) (h0 : Heap) (hi : i < n) (hn : n ≤ 4000) (hfm : fm.isRef = true) :
    Ct l Z EL1 [] [] (⟨"jdk/internal/util/Preconditions", "checkIndex", "(IILjava/util/function/BiFunction;)I"⟩ : MethodName) jdk_41_method_11_code 3 (some .int) ({ frames := 0, cells := 0, slots := 0, locals := 0 } : Room) #[(.int (Int32.ofNat i)), (.int (Int32.ofNat n)), fm] h0 (fun v h => v = some (.int (Int32.ofNat i)) ∧ h0 = h) := by
  refine Ct.of_seg (a0 := a0) (plainFor_of_name pn_jdk_internal_util_Preconditions) G.2.1 (ef_ct_pci i n fm hfm) ?_
  refine Seg.iloadN d25_0 rfl (pc' := 1) rfl ?_
  refine Seg.ifN d25_1 (XT.i0_lt_f (n32nn (by omega))) (pc' := 4) rfl ?_
  refine Seg.iloadN d25_4 rfl (pc' := 5) rfl ?_
  refine Seg.iloadN d25_5 rfl (pc' := 6) rfl ?_
  refine Seg.icY (pc' := 16) d25_6 (XT.ii_lt_t (n32lt hi (by omega))) (by decide) (by decide) ?_
  refine Seg.iloadN d25_16 rfl (pc' := 17) rfl ?_
  exact Seg.retI rfl d25_17 (by decide) (by decide) ⟨rfl, rfl⟩
theorem d24_0 : decode jdk_42_method_155_code 0 = .ok (.iload_n 0, 1) := by decide +kernel
theorem d24_1 : decode jdk_42_method_155_code 1 = .ok (.iload_n 1, 1) := by decide +kernel
theorem d24_2 : decode jdk_42_method_155_code 2 = .ok (.getstatic 1053, 3) := by decide +kernel
theorem d24_5 : decode jdk_42_method_155_code 5 = .ok (.invokestatic 1059, 3) := by decide +kernel
theorem pd_11 : parseMethodDescriptor "(IILjava/util/function/BiFunction;)I" = some ⟨[.int, .int, (.object "java/util/function/BiFunction")], some .int⟩ := by decide +kernel
theorem d24_8 : decode jdk_42_method_155_code 8 = .ok (.pop, 1) := by decide +kernel
theorem d24_9 : decode jdk_42_method_155_code 9 = .ok (.return_, 1) := by decide +kernel
theorem ef_ct_sci (i : Nat) (n : Nat) (m : MethodId) : entryFrame m #[(.int (Int32.ofNat i)), (.int (Int32.ofNat n))] 2 = mkF m 0 #[.val (.int (Int32.ofNat i)), .val (.int (Int32.ofNat n))] [] := by first | (simp [entryFrame, mkF, argsToLocals, Value.category]; done) | rfl
set_option maxRecDepth 65536 in
set_option maxHeartbeats 4000000 in
theorem ct_sci {l : Launch} {Z : State} {a0 : Array Value} (G : Env1 Z a0) (i : Nat) (n : Nat) (h0 : Heap) (hi : i < n) (hn : n ≤ 4000) :
    Ct l Z EL1 [] [] (⟨"java/lang/String", "checkIndex", "(II)V"⟩ : MethodName) jdk_42_method_155_code 2 none ({ frames := 1, cells := 0, slots := 0, locals := 14 } : Room) #[(.int (Int32.ofNat i)), (.int (Int32.ofNat n))] h0 (fun v h => v = none ∧ h0 = h) := by
  refine Ct.of_seg (a0 := a0) (plainFor_of_name pn_java_lang_String) G.2.1 (ef_ct_sci i n) ?_
  obtain ⟨fm, Sf, hfm⟩ := G.2.2.2.1
  refine Seg.iloadN d24_0 rfl (pc' := 1) rfl ?_
  refine Seg.iloadN d24_1 rfl (pc' := 2) rfl ?_
  refine Seg.getS (wd G 108 rfl) Via.refl Sf d24_2 (pc' := 5) rfl ?_
  refine Seg.callS (y' := (⟨"jdk/internal/util/Preconditions", "checkIndex", "(IILjava/util/function/BiFunction;)I"⟩ : MethodName)) (wd G 110 rfl) (wd G 111 rfl) (wd G 109 rfl) (wd G 112 rfl) ⟨by decide, by decide⟩ (Pays.of_ct (W := 0) (ct_pci G i n fm h0 hi hn hfm) all0 (wd G 112 rfl) (wd G 109 rfl) (by decide) (by decide) rfl rfl) (argsL := [(.int (Int32.ofNat i)), (.int (Int32.ofNat n)), fm]) (rest := []) rfl (lenOf pd_11 rfl) rfl (Nat.le_of_eq rfl) rfl d24_5 (pc' := 8) rfl (k' := 0) (n' := 0) rfl rfl (by decide) (by decide) ?_
  intro v_1 h_4 sz_2 q_3
  obtain ⟨rfl, rfl⟩ := q_3
  refine Seg.pop d24_8 rfl (pc' := 9) rfl ?_
  exact Seg.ret0 rfl d24_9 (by decide) (by decide) ⟨rfl, rfl⟩
theorem d23_0 : decode jdk_42_method_154_code 0 = .ok (.getstatic 38, 3) := by decide +kernel
theorem d23_3 : decode jdk_42_method_154_code 3 = .ok (.ifCond .eq 14, 3) := by decide +kernel
theorem d23_6 : decode jdk_42_method_154_code 6 = .ok (.aload_n 0, 1) := by decide +kernel
theorem d23_7 : decode jdk_42_method_154_code 7 = .ok (.getfield 15, 3) := by decide +kernel
theorem d23_10 : decode jdk_42_method_154_code 10 = .ok (.ifCond .ne 7, 3) := by decide +kernel
theorem d23_13 : decode jdk_42_method_154_code 13 = .ok (.iconst 1, 1) := by decide +kernel
theorem d23_14 : decode jdk_42_method_154_code 14 = .ok (.goto 4, 3) := by decide +kernel
theorem d23_18 : decode jdk_42_method_154_code 18 = .ok (.ireturn, 1) := by decide +kernel
theorem ef_ct_isL (a : Addr) (m : MethodId) : entryFrame m #[(.ref a)] 1 = mkF m 0 #[.val (.ref a)] [] := by first | (simp [entryFrame, mkF, argsToLocals, Value.category]; done) | rfl
set_option maxRecDepth 65536 in
set_option maxHeartbeats 4000000 in
theorem ct_isL {l : Launch} {Z : State} {a0 : Array Value} (G : Env1 Z a0) (a : Addr) (h0 : Heap) (F : Fld Z h0 a STN "coder" "B" (.int 0)) :
    Ct l Z EL1 [] [] (⟨"java/lang/String", "isLatin1", "()Z"⟩ : MethodName) jdk_42_method_154_code 1 (some .boolean) ({ frames := 0, cells := 0, slots := 0, locals := 0 } : Room) #[(.ref a)] h0 (fun v h => v = some (.int 1) ∧ h0 = h) := by
  refine Ct.of_seg (a0 := a0) (plainFor_of_name pn_java_lang_String) G.2.1 (ef_ct_isL a) ?_
  obtain ⟨zc, Sc, hz⟩ := G.2.2.1
  refine Seg.getS (wd G 53 rfl) Via.refl Sc d23_0 (pc' := 3) rfl ?_
  refine Seg.ifN d23_3 (XT.i0_eq_f hz) (pc' := 6) rfl ?_
  refine Seg.aloadN d23_6 rfl rfl (pc' := 7) rfl ?_
  refine Seg.getF (host := "") (Or.inl (wd G 31 rfl)) Via.refl F d23_7 (pc' := 10) rfl ?_
  refine Seg.ifN d23_10 (by decide) (pc' := 13) rfl ?_
  refine Seg.iconst (v := 1) d23_13 (by decide) (pc' := 14) rfl ?_
  refine Seg.goto (pc' := 18) d23_14 (by decide) (by decide) ?_
  exact Seg.retN (t := .boolean) (w := (1 : Int32)) rfl (by decide) (by decide) d23_18 (by decide) (by decide) ⟨rfl, rfl⟩
theorem d23_17 : decode jdk_42_method_154_code 17 = .ok (.iconst 0, 1) := by decide +kernel
theorem ef_ct_isLW (a : Addr) (m : MethodId) : entryFrame m #[(.ref a)] 1 = mkF m 0 #[.val (.ref a)] [] := by first | (simp [entryFrame, mkF, argsToLocals, Value.category]; done) | rfl
set_option maxRecDepth 65536 in
set_option maxHeartbeats 4000000 in
theorem ct_isLW {l : Launch} {Z : State} {a0 : Array Value} (G : Env1 Z a0) (a : Addr) (h0 : Heap) (F : Fld Z h0 a STN "coder" "B" (.int 1)) :
    Ct l Z EL1 [] [] (⟨"java/lang/String", "isLatin1", "()Z"⟩ : MethodName) jdk_42_method_154_code 1 (some .boolean) ({ frames := 0, cells := 0, slots := 0, locals := 0 } : Room) #[(.ref a)] h0 (fun v h => v = some (.int 0) ∧ h0 = h) := by
  refine Ct.of_seg (a0 := a0) (plainFor_of_name pn_java_lang_String) G.2.1 (ef_ct_isLW a) ?_
  obtain ⟨zc, Sc, hz⟩ := G.2.2.1
  refine Seg.getS (wd G 53 rfl) Via.refl Sc d23_0 (pc' := 3) rfl ?_
  refine Seg.ifN d23_3 (XT.i0_eq_f hz) (pc' := 6) rfl ?_
  refine Seg.aloadN d23_6 rfl rfl (pc' := 7) rfl ?_
  refine Seg.getF (host := "") (Or.inl (wd G 31 rfl)) Via.refl F d23_7 (pc' := 10) rfl ?_
  refine Seg.ifY (pc' := 17) d23_10 (by decide) (by decide) (by decide) ?_
  refine Seg.iconst (v := 0) d23_17 (by decide) (pc' := 18) rfl ?_
  exact Seg.retN (t := .boolean) (w := (0 : Int32)) rfl (by decide) (by decide) d23_18 (by decide) (by decide) ⟨rfl, rfl⟩
theorem d22_0 : decode jdk_42_method_57_code 0 = .ok (.aload_n 0, 1) := by decide +kernel
theorem d22_1 : decode jdk_42_method_57_code 1 = .ok (.invokevirtual 492, 3) := by decide +kernel
theorem pd_12 : parseMethodDescriptor "()Z" = some ⟨[], some .boolean⟩ := by decide +kernel
theorem d22_4 : decode jdk_42_method_57_code 4 = .ok (.ifCond .eq 23, 3) := by decide +kernel
theorem d22_7 : decode jdk_42_method_57_code 7 = .ok (.iload_n 1, 1) := by decide +kernel
theorem d22_8 : decode jdk_42_method_57_code 8 = .ok (.aload_n 0, 1) := by decide +kernel
theorem d22_9 : decode jdk_42_method_57_code 9 = .ok (.getfield 9, 3) := by decide +kernel
theorem d22_12 : decode jdk_42_method_57_code 12 = .ok (.arraylength, 1) := by decide +kernel
theorem d22_13 : decode jdk_42_method_57_code 13 = .ok (.invokestatic 499, 3) := by decide +kernel
theorem pd_13 : parseMethodDescriptor "(II)V" = some ⟨[.int, .int], none⟩ := by decide +kernel
theorem d22_16 : decode jdk_42_method_57_code 16 = .ok (.aload_n 0, 1) := by decide +kernel
theorem d22_17 : decode jdk_42_method_57_code 17 = .ok (.getfield 9, 3) := by decide +kernel
theorem d22_20 : decode jdk_42_method_57_code 20 = .ok (.iload_n 1, 1) := by decide +kernel
theorem d22_21 : decode jdk_42_method_57_code 21 = .ok (.baload, 1) := by decide +kernel
theorem d22_22 : decode jdk_42_method_57_code 22 = .ok (.sipush 255, 3) := by decide +kernel
theorem d22_25 : decode jdk_42_method_57_code 25 = .ok (.iand, 1) := by decide +kernel
theorem d22_26 : decode jdk_42_method_57_code 26 = .ok (.ireturn, 1) := by decide +kernel
theorem d22_27 : decode jdk_42_method_57_code 27 = .ok (.aload_n 0, 1) := by decide +kernel
theorem d22_28 : decode jdk_42_method_57_code 28 = .ok (.getfield 9, 3) := by decide +kernel
theorem d22_31 : decode jdk_42_method_57_code 31 = .ok (.arraylength, 1) := by decide +kernel
theorem d22_32 : decode jdk_42_method_57_code 32 = .ok (.iconst 1, 1) := by decide +kernel
theorem d22_33 : decode jdk_42_method_57_code 33 = .ok (.ishr, 1) := by decide +kernel
theorem d22_34 : decode jdk_42_method_57_code 34 = .ok (.istore_n 2, 1) := by decide +kernel
theorem d22_35 : decode jdk_42_method_57_code 35 = .ok (.iload_n 1, 1) := by decide +kernel
theorem d22_36 : decode jdk_42_method_57_code 36 = .ok (.iload_n 2, 1) := by decide +kernel
theorem d22_37 : decode jdk_42_method_57_code 37 = .ok (.invokestatic 499, 3) := by decide +kernel
theorem d22_40 : decode jdk_42_method_57_code 40 = .ok (.aload_n 0, 1) := by decide +kernel
theorem d22_41 : decode jdk_42_method_57_code 41 = .ok (.getfield 9, 3) := by decide +kernel
theorem d22_44 : decode jdk_42_method_57_code 44 = .ok (.iload_n 1, 1) := by decide +kernel
theorem d22_45 : decode jdk_42_method_57_code 45 = .ok (.iload_n 2, 1) := by decide +kernel
theorem d22_46 : decode jdk_42_method_57_code 46 = .ok (.invokestatic 502, 3) := by decide +kernel
theorem pd_14 : parseMethodDescriptor "([BII)I" = some ⟨[(.array .byte), .int, .int], some .int⟩ := by decide +kernel
theorem d22_49 : decode jdk_42_method_57_code 49 = .ok (.ireturn, 1) := by decide +kernel
theorem ef_ct_cpa (a : Addr) (cs : List Int32) (i : Nat) (m : MethodId) : entryFrame m #[(.ref a), (.int (Int32.ofNat i))] 3 = mkF m 0 #[.val (.ref a), .val (.int (Int32.ofNat i)), .unset] [] := by first | (simp [entryFrame, mkF, argsToLocals, Value.category]; done) | rfl
set_option maxRecDepth 65536 in
set_option maxHeartbeats 4000000 in
theorem ct_cpa {l : Launch} {Z : State} {a0 : Array Value} (G : Env1 Z a0) (a : Addr) (cs : List Int32) (i : Nat) (h0 : Heap) (F : Str Z h0 a cs) (hi : i < cs.length) :
    Ct l Z EL1 [] [] (⟨"java/lang/String", "codePointAt", "(I)I"⟩ : MethodName) jdk_42_method_57_code 3 (some .int) ({ frames := 3, cells := 0, slots := 0, locals := 44 } : Room) #[(.ref a), (.int (Int32.ofNat i))] h0 (fun v h => v = some (.int (cpA cs i)) ∧ h0 = h) := by
  refine Ct.of_seg (a0 := a0) (plainFor_of_name pn_java_lang_String) G.2.1 (ef_ct_cpa a cs i) ?_
  obtain ⟨b, kb, cd, N2, vs, f1, f2, f3, f4, f5, hr, hl⟩ := F
  rcases f5 with ⟨rfl, rfl, rfl, q⟩ | ⟨rfl, rfl, rfl, q⟩
  · refine Seg.aloadN d22_0 rfl rfl (pc' := 1) rfl ?_
    refine Seg.callV (y' := (⟨"java/lang/String", "isLatin1", "()Z"⟩ : MethodName)) (z := (⟨"java/lang/String", "isLatin1", "()Z"⟩ : MethodName)) (a := a) (wd G 100 rfl) (wd G 101 rfl) (nf_sel (wd G 103 rfl)) (wd G 103 rfl) (wd G 102 rfl) ⟨by decide, by decide⟩ f1 (Pays.of_ct (W := 0) (ct_isL G a h0 f3) all0 (wd G 104 rfl) (wd G 12 rfl) (by decide) (by decide) rfl rfl) (argsL := []) (rest := []) rfl (lenOf pd_12 rfl) rfl (Nat.le_of_eq rfl) rfl d22_1 (pc' := 4) rfl (k' := 0) (n' := 0) rfl rfl (by decide) (by decide) ?_
    intro v_1 h_4 sz_2 q_3
    obtain ⟨rfl, rfl⟩ := q_3
    refine Seg.ifN d22_4 (by decide) (pc' := 7) rfl ?_
    refine Seg.iloadN d22_7 rfl (pc' := 8) rfl ?_
    refine Seg.aloadN d22_8 rfl rfl (pc' := 9) rfl ?_
    refine Seg.getF (host := "") (Or.inl (wd G 30 rfl)) Via.refl f2 d22_9 (pc' := 12) rfl ?_
    refine Seg.alen f4 d22_12 (pc' := 13) rfl ?_
    refine Seg.callS (y' := (⟨"java/lang/String", "checkIndex", "(II)V"⟩ : MethodName)) (wd G 105 rfl) (wd G 106 rfl) (wd G 12 rfl) (wd G 107 rfl) ⟨by decide, by decide⟩ (Pays.of_ct (W := 0) (ct_sci G i cs.length h0 hi hl) all0 (wd G 107 rfl) (wd G 12 rfl) (by decide) (by decide) rfl rfl) (argsL := [(.int (Int32.ofNat i)), (.int (Int32.ofNat cs.length))]) (rest := []) rfl (lenOf pd_13 rfl) rfl (Nat.le_of_eq rfl) rfl d22_13 (pc' := 16) rfl (k' := 0) (n' := 0) rfl rfl (by decide) (by decide) ?_
    intro v_5 h_8 sz_6 q_7
    obtain ⟨rfl, rfl⟩ := q_7
    refine Seg.aloadN d22_16 rfl rfl (pc' := 17) rfl ?_
    refine Seg.getF (host := "") (Or.inl (wd G 30 rfl)) Via.refl f2 d22_17 (pc' := 20) rfl ?_
    refine Seg.iloadN d22_20 rfl (pc' := 21) rfl ?_
    refine Seg.baload (v := (.int (cs.getD i 0).toInt8.toInt32)) f4 (n32in hi (by omega)) (by rw [n32c (by omega)]; exact getDmap _ _ _ _ _ hi) d22_21 (pc' := 22) rfl ?_
    refine Seg.sipush (v := 255) d22_22 (by decide) (pc' := 25) rfl ?_
    have hg := mem_getD (P := fun c => ¬ c < 0 ∧ ¬ (255 : Int32) < c) (fun c hc => ⟨(hr c hc).1, q c hc⟩) hi
    refine Seg.iand (v := (cs.getD i 0)) d22_25 (b8and hg) (pc' := 26) rfl ?_
    exact Seg.retI rfl d22_26 (by decide) (by decide) ⟨by rw [cp_lat q hi], rfl⟩
  · refine Seg.aloadN d22_0 rfl rfl (pc' := 1) rfl ?_
    refine Seg.callV (y' := (⟨"java/lang/String", "isLatin1", "()Z"⟩ : MethodName)) (z := (⟨"java/lang/String", "isLatin1", "()Z"⟩ : MethodName)) (a := a) (wd G 100 rfl) (wd G 101 rfl) (nf_sel (wd G 103 rfl)) (wd G 103 rfl) (wd G 102 rfl) ⟨by decide, by decide⟩ f1 (Pays.of_ct (W := 0) (ct_isLW G a h0 f3) all0 (wd G 104 rfl) (wd G 12 rfl) (by decide) (by decide) rfl rfl) (argsL := []) (rest := []) rfl (lenOf pd_12 rfl) rfl (Nat.le_of_eq rfl) rfl d22_1 (pc' := 4) rfl (k' := 0) (n' := 0) rfl rfl (by decide) (by decide) ?_
    intro v_9 h_12 sz_10 q_11
    obtain ⟨rfl, rfl⟩ := q_11
    refine Seg.ifY (pc' := 27) d22_4 (by decide) (by decide) (by decide) ?_
    refine Seg.aloadN d22_27 rfl rfl (pc' := 28) rfl ?_
    refine Seg.getF (host := "") (Or.inl (wd G 30 rfl)) Via.refl f2 d22_28 (pc' := 31) rfl ?_
    refine Seg.alen f4 d22_31 (pc' := 32) rfl ?_
    refine Seg.iconst (v := 1) d22_32 (by decide) (pc' := 33) rfl ?_
    refine Seg.ishr (v := (Int32.ofNat cs.length)) d22_33 (n32hlf (by omega)) (pc' := 34) rfl ?_
    refine Seg.istoreN (L' := #[.val (.ref a), .val (.int (Int32.ofNat i)), .val (.int (Int32.ofNat cs.length))]) d22_34 rfl (pc' := 35) rfl ?_
    refine Seg.iloadN d22_35 rfl (pc' := 36) rfl ?_
    refine Seg.iloadN d22_36 rfl (pc' := 37) rfl ?_
    refine Seg.callS (y' := (⟨"java/lang/String", "checkIndex", "(II)V"⟩ : MethodName)) (wd G 105 rfl) (wd G 106 rfl) (wd G 12 rfl) (wd G 107 rfl) ⟨by decide, by decide⟩ (Pays.of_ct (W := 0) (ct_sci G i cs.length h0 hi hl) all0 (wd G 107 rfl) (wd G 12 rfl) (by decide) (by decide) rfl rfl) (argsL := [(.int (Int32.ofNat i)), (.int (Int32.ofNat cs.length))]) (rest := []) rfl (lenOf pd_13 rfl) rfl (Nat.le_of_eq rfl) rfl d22_37 (pc' := 40) rfl (k' := 0) (n' := 0) rfl rfl (by decide) (by decide) ?_
    intro v_13 h_16 sz_14 q_15
    obtain ⟨rfl, rfl⟩ := q_15
    refine Seg.aloadN d22_40 rfl rfl (pc' := 41) rfl ?_
    refine Seg.getF (host := "") (Or.inl (wd G 30 rfl)) Via.refl f2 d22_41 (pc' := 44) rfl ?_
    refine Seg.iloadN d22_44 rfl (pc' := 45) rfl ?_
    refine Seg.iloadN d22_45 rfl (pc' := 46) rfl ?_
    refine Seg.callS (y' := (⟨"java/lang/StringUTF16", "codePointAt", "([BII)I"⟩ : MethodName)) (wd G 113 rfl) (wd G 114 rfl) (wd G 63 rfl) (wd G 115 rfl) ⟨by decide, by decide⟩ (Pays.of_ct (W := 0) (ct_ucp3 G b kb cs i h0 f4 hr hl hi) all0 (wd G 115 rfl) (wd G 63 rfl) (by decide) (by decide) rfl rfl) (argsL := [(.ref b), (.int (Int32.ofNat i)), (.int (Int32.ofNat cs.length))]) (rest := []) rfl (lenOf pd_14 rfl) rfl (Nat.le_of_eq rfl) rfl d22_46 (pc' := 49) rfl (k' := 0) (n' := 0) rfl rfl (by decide) (by decide) ?_
    intro v_17 h_20 sz_18 q_19
    obtain ⟨rfl, rfl⟩ := q_19
    exact Seg.retI rfl d22_49 (by decide) (by decide) ⟨rfl, rfl⟩
theorem d8_4 : decode prog_20_method_22_code 4 = .ok (.iload_n 2, 1) := by decide +kernel
theorem d8_5 : decode prog_20_method_22_code 5 = .ok (.ifCond .ne 48, 3) := by decide +kernel
theorem d8_8 : decode prog_20_method_22_code 8 = .ok (.iload_n 3, 1) := by decide +kernel
theorem d8_9 : decode prog_20_method_22_code 9 = .ok (.aload_n 0, 1) := by decide +kernel
theorem d8_10 : decode prog_20_method_22_code 10 = .ok (.invokevirtual 285, 3) := by decide +kernel
theorem pd_15 : parseMethodDescriptor "()I" = some ⟨[], some .int⟩ := by decide +kernel
theorem d8_13 : decode prog_20_method_22_code 13 = .ok (.if_icmp .ge 40, 3) := by decide +kernel
theorem d8_53 : decode prog_20_method_22_code 53 = .ok (.iload_n 2, 1) := by decide +kernel
theorem d8_54 : decode prog_20_method_22_code 54 = .ok (.ifCond .ne 15, 3) := by decide +kernel
theorem d8_57 : decode prog_20_method_22_code 57 = .ok (.aload_n 0, 1) := by decide +kernel
theorem d8_58 : decode prog_20_method_22_code 58 = .ok (.invokevirtual 285, 3) := by decide +kernel
theorem d8_61 : decode prog_20_method_22_code 61 = .ok (.aload_n 1, 1) := by decide +kernel
theorem d8_62 : decode prog_20_method_22_code 62 = .ok (.invokevirtual 285, 3) := by decide +kernel
theorem d8_65 : decode prog_20_method_22_code 65 = .ok (.invokestatic 385, 3) := by decide +kernel
theorem pd_16 : parseMethodDescriptor "(II)I" = some ⟨[.int, .int], some .int⟩ := by decide +kernel
theorem d8_68 : decode prog_20_method_22_code 68 = .ok (.istore_n 2, 1) := by decide +kernel
theorem d8_69 : decode prog_20_method_22_code 69 = .ok (.iload_n 2, 1) := by decide +kernel
theorem d8_70 : decode prog_20_method_22_code 70 = .ok (.ireturn, 1) := by decide +kernel
theorem d8_16 : decode prog_20_method_22_code 16 = .ok (.iload_n 3, 1) := by decide +kernel
theorem d8_17 : decode prog_20_method_22_code 17 = .ok (.aload_n 1, 1) := by decide +kernel
theorem d8_18 : decode prog_20_method_22_code 18 = .ok (.invokevirtual 285, 3) := by decide +kernel
theorem d8_21 : decode prog_20_method_22_code 21 = .ok (.if_icmp .ge 32, 3) := by decide +kernel
theorem d8_24 : decode prog_20_method_22_code 24 = .ok (.aload_n 0, 1) := by decide +kernel
theorem d8_25 : decode prog_20_method_22_code 25 = .ok (.iload_n 3, 1) := by decide +kernel
theorem d8_26 : decode prog_20_method_22_code 26 = .ok (.invokevirtual 382, 3) := by decide +kernel
theorem d8_29 : decode prog_20_method_22_code 29 = .ok (.istore 4, 2) := by decide +kernel
theorem d8_31 : decode prog_20_method_22_code 31 = .ok (.iload 4, 2) := by decide +kernel
theorem d8_33 : decode prog_20_method_22_code 33 = .ok (.aload_n 1, 1) := by decide +kernel
theorem d8_34 : decode prog_20_method_22_code 34 = .ok (.iload_n 3, 1) := by decide +kernel
theorem d8_35 : decode prog_20_method_22_code 35 = .ok (.invokevirtual 382, 3) := by decide +kernel
theorem d8_38 : decode prog_20_method_22_code 38 = .ok (.invokestatic 385, 3) := by decide +kernel
theorem d8_41 : decode prog_20_method_22_code 41 = .ok (.istore_n 2, 1) := by decide +kernel
theorem d8_42 : decode prog_20_method_22_code 42 = .ok (.iload_n 3, 1) := by decide +kernel
theorem d8_43 : decode prog_20_method_22_code 43 = .ok (.iload 4, 2) := by decide +kernel
theorem d8_45 : decode prog_20_method_22_code 45 = .ok (.invokestatic 388, 3) := by decide +kernel
theorem d8_48 : decode prog_20_method_22_code 48 = .ok (.iadd, 1) := by decide +kernel
theorem d8_49 : decode prog_20_method_22_code 49 = .ok (.istore_n 3, 1) := by decide +kernel
theorem d8_50 : decode prog_20_method_22_code 50 = .ok (.goto (-46), 3) := by decide +kernel
theorem Str.rng {Z : State} {h : Heap} {a : Addr} {cs : List Int32} (F : Str Z h a cs) : ∀ c ∈ cs, ¬ c < 0 ∧ ¬ (65535 : Int32) < c := by obtain ⟨b, kb, cd, N2, vs, -, -, -, -, -, hr, -⟩ := F; exact hr
set_option maxRecDepth 65536 in
set_option maxHeartbeats 4000000 in
theorem lp_cmp {l : Launch} {Z : State} {a0 : Array Value} (G : Env1 Z a0) (a b : Addr) (cs ds : List Int32) (h0 : Heap) (F : Str Z h0 a cs) (F' : Str Z h0 b ds) (hl : cs.length ≤ 3) (hl' : ds.length ≤ 3) (f : Nat) : ∀ (i : Nat) (sl : Slot), (sl = .unset ∨ ∃ v : Int32, sl = .val (.int v)) → cs.length ≤ i + f → ds.length ≤ i + f → i ≤ cs.length → i ≤ ds.length →
    Seg l Z a0 EL1 (⟨"com/example/erne/erne/Summary", "compareNames", "(Ljava/lang/String;Ljava/lang/String;)I"⟩ : MethodName) prog_20_method_22_code 5 (some .int) ({ frames := 4, cells := 0, slots := 0, locals := 59 } : Room) (fun v h => v = some (.int (cmpL (ptsF f cs i) (ptsF f ds i))) ∧ h0 = h) h0 0 0 [] 4 #[.val (.ref a), .val (.ref b), .val (.int (0 : Int32)), .val (.int (Int32.ofNat i)), sl] [] := by
  induction f with
  | zero =>
    intro i sl hsl c1 c2 c3 c4
    have x1 := F.exa
    have x2 := F'.exa
    refine Seg.iloadN d8_4 rfl (pc' := 5) rfl ?_
    refine Seg.ifN d8_5 (by decide) (pc' := 8) rfl ?_
    refine Seg.iloadN d8_8 rfl (pc' := 9) rfl ?_
    refine Seg.aloadN d8_9 rfl rfl (pc' := 10) rfl ?_
    refine Seg.callV (y' := (⟨"java/lang/String", "length", "()I"⟩ : MethodName)) (z := (⟨"java/lang/String", "length", "()I"⟩ : MethodName)) (a := a) (wd G 43 rfl) (wd G 44 rfl) (nf_sel (wd G 46 rfl)) (wd G 46 rfl) (wd G 45 rfl) ⟨by decide, by decide⟩ x1 (pays_len (W := 1) G h0 F (by decide) (by decide)) (argsL := []) (rest := [(.int (Int32.ofNat i))]) rfl (lenOf pd_15 rfl) rfl (Nat.le_of_eq rfl) rfl d8_10 (pc' := 13) rfl (k' := 0) (n' := 0) rfl rfl (by decide) (by decide) ?_
    intro v_1 h_4 sz_2 q_3
    obtain ⟨rfl, rfl⟩ := q_3
    refine Seg.icY (pc' := 53) d8_13 (XT.ii_ge_t (n32nlt (by omega) (by omega))) (by decide) (by decide) ?_
    refine Seg.iloadN d8_53 rfl (pc' := 54) rfl ?_
    refine Seg.ifN d8_54 (by decide) (pc' := 57) rfl ?_
    refine Seg.aloadN d8_57 rfl rfl (pc' := 58) rfl ?_
    refine Seg.callV (y' := (⟨"java/lang/String", "length", "()I"⟩ : MethodName)) (z := (⟨"java/lang/String", "length", "()I"⟩ : MethodName)) (a := a) (wd G 43 rfl) (wd G 44 rfl) (nf_sel (wd G 46 rfl)) (wd G 46 rfl) (wd G 45 rfl) ⟨by decide, by decide⟩ x1 (pays_len (W := 0) G h0 F (by decide) (by decide)) (argsL := []) (rest := []) rfl (lenOf pd_15 rfl) rfl (Nat.le_of_eq rfl) rfl d8_58 (pc' := 61) rfl (k' := 0) (n' := 0) rfl rfl (by decide) (by decide) ?_
    intro v_5 h_8 sz_6 q_7
    obtain ⟨rfl, rfl⟩ := q_7
    refine Seg.aloadN d8_61 rfl rfl (pc' := 62) rfl ?_
    refine Seg.callV (y' := (⟨"java/lang/String", "length", "()I"⟩ : MethodName)) (z := (⟨"java/lang/String", "length", "()I"⟩ : MethodName)) (a := b) (wd G 43 rfl) (wd G 44 rfl) (nf_sel (wd G 46 rfl)) (wd G 46 rfl) (wd G 45 rfl) ⟨by decide, by decide⟩ x2 (pays_len (W := 1) G h0 F' (by decide) (by decide)) (argsL := []) (rest := [(.int (Int32.ofNat cs.length))]) rfl (lenOf pd_15 rfl) rfl (Nat.le_of_eq rfl) rfl d8_62 (pc' := 65) rfl (k' := 0) (n' := 0) rfl rfl (by decide) (by decide) ?_
    intro v_9 h_12 sz_10 q_11
    obtain ⟨rfl, rfl⟩ := q_11
    refine Seg.callS (y' := (⟨"java/lang/Integer", "compare", "(II)I"⟩ : MethodName)) (wd G 54 rfl) (wd G 55 rfl) (wd G 56 rfl) (wd G 57 rfl) ⟨by decide, by decide⟩ (Pays.of_ct (W := 0) (ct_icE G (Int32.ofNat cs.length) (Int32.ofNat ds.length) h0 (congrArg Int32.ofNat (by omega))) all0 (wd G 57 rfl) (wd G 56 rfl) (by decide) (by decide) rfl rfl) (argsL := [(.int (Int32.ofNat cs.length)), (.int (Int32.ofNat ds.length))]) (rest := []) rfl (lenOf pd_16 rfl) rfl (Nat.le_of_eq rfl) rfl d8_65 (pc' := 68) rfl (k' := 0) (n' := 0) rfl rfl (by decide) (by decide) ?_
    intro v_13 h_16 sz_14 q_15
    obtain ⟨rfl, rfl⟩ := q_15
    refine Seg.istoreN (L' := #[.val (.ref a), .val (.ref b), .val (.int (0 : Int32)), .val (.int (Int32.ofNat i)), sl]) d8_68 rfl (pc' := 69) rfl ?_
    refine Seg.iloadN d8_69 rfl (pc' := 70) rfl ?_
    exact Seg.retI rfl d8_70 (by decide) (by decide) ⟨rfl, rfl⟩
  | succ f ih =>
    intro i sl hsl c1 c2 c3 c4
    have x1 := F.exa
    have x2 := F'.exa
    refine Seg.iloadN d8_4 rfl (pc' := 5) rfl ?_
    refine Seg.ifN d8_5 (by decide) (pc' := 8) rfl ?_
    refine Seg.iloadN d8_8 rfl (pc' := 9) rfl ?_
    refine Seg.aloadN d8_9 rfl rfl (pc' := 10) rfl ?_
    refine Seg.callV (y' := (⟨"java/lang/String", "length", "()I"⟩ : MethodName)) (z := (⟨"java/lang/String", "length", "()I"⟩ : MethodName)) (a := a) (wd G 43 rfl) (wd G 44 rfl) (nf_sel (wd G 46 rfl)) (wd G 46 rfl) (wd G 45 rfl) ⟨by decide, by decide⟩ x1 (pays_len (W := 1) G h0 F (by decide) (by decide)) (argsL := []) (rest := [(.int (Int32.ofNat i))]) rfl (lenOf pd_15 rfl) rfl (Nat.le_of_eq rfl) rfl d8_10 (pc' := 13) rfl (k' := 0) (n' := 0) rfl rfl (by decide) (by decide) ?_
    intro v_1 h_4 sz_2 q_3
    obtain ⟨rfl, rfl⟩ := q_3
    by_cases i1 : i < cs.length
    · refine Seg.icN d8_13 (XT.ii_ge_f (n32lt i1 (by omega))) (pc' := 16) rfl ?_
      refine Seg.iloadN d8_16 rfl (pc' := 17) rfl ?_
      refine Seg.aloadN d8_17 rfl rfl (pc' := 18) rfl ?_
      refine Seg.callV (y' := (⟨"java/lang/String", "length", "()I"⟩ : MethodName)) (z := (⟨"java/lang/String", "length", "()I"⟩ : MethodName)) (a := b) (wd G 43 rfl) (wd G 44 rfl) (nf_sel (wd G 46 rfl)) (wd G 46 rfl) (wd G 45 rfl) ⟨by decide, by decide⟩ x2 (pays_len (W := 1) G h0 F' (by decide) (by decide)) (argsL := []) (rest := [(.int (Int32.ofNat i))]) rfl (lenOf pd_15 rfl) rfl (Nat.le_of_eq rfl) rfl d8_18 (pc' := 21) rfl (k' := 0) (n' := 0) rfl rfl (by decide) (by decide) ?_
      intro v_5 h_8 sz_6 q_7
      obtain ⟨rfl, rfl⟩ := q_7
      by_cases i2 : i < ds.length
      · refine Seg.icN d8_21 (XT.ii_ge_f (n32lt i2 (by omega))) (pc' := 24) rfl ?_
        refine Seg.aloadN d8_24 rfl rfl (pc' := 25) rfl ?_
        refine Seg.iloadN d8_25 rfl (pc' := 26) rfl ?_
        refine Seg.callV (y' := (⟨"java/lang/String", "codePointAt", "(I)I"⟩ : MethodName)) (z := (⟨"java/lang/String", "codePointAt", "(I)I"⟩ : MethodName)) (a := a) (wd G 95 rfl) (wd G 96 rfl) (nf_sel (wd G 98 rfl)) (wd G 98 rfl) (wd G 97 rfl) ⟨by decide, by decide⟩ x1 (Pays.of_ct (W := 0) (ct_cpa G a cs i h0 F i1) all0 (wd G 99 rfl) (wd G 12 rfl) (by decide) (by decide) rfl rfl) (argsL := [(.int (Int32.ofNat i))]) (rest := []) rfl (lenOf pd_1 rfl) rfl (Nat.le_of_eq rfl) rfl d8_26 (pc' := 29) rfl (k' := 0) (n' := 0) rfl rfl (by decide) (by decide) ?_
        intro v_9 h_12 sz_10 q_11
        obtain ⟨rfl, rfl⟩ := q_11
        refine Seg.istore (L' := #[.val (.ref a), .val (.ref b), .val (.int (0 : Int32)), .val (.int (Int32.ofNat i)), .val (.int (cpA cs i))]) d8_29 (by rcases hsl with rfl | ⟨_, rfl⟩ <;> rfl) (pc' := 31) rfl ?_
        refine Seg.iload d8_31 rfl (pc' := 33) rfl ?_
        refine Seg.aloadN d8_33 rfl rfl (pc' := 34) rfl ?_
        refine Seg.iloadN d8_34 rfl (pc' := 35) rfl ?_
        refine Seg.callV (y' := (⟨"java/lang/String", "codePointAt", "(I)I"⟩ : MethodName)) (z := (⟨"java/lang/String", "codePointAt", "(I)I"⟩ : MethodName)) (a := b) (wd G 95 rfl) (wd G 96 rfl) (nf_sel (wd G 98 rfl)) (wd G 98 rfl) (wd G 97 rfl) ⟨by decide, by decide⟩ x2 (Pays.of_ct (W := 1) (ct_cpa G b ds i h0 F' i2) all0 (wd G 99 rfl) (wd G 12 rfl) (by decide) (by decide) rfl rfl) (argsL := [(.int (Int32.ofNat i))]) (rest := [(.int (cpA cs i))]) rfl (lenOf pd_1 rfl) rfl (Nat.le_of_eq rfl) rfl d8_35 (pc' := 38) rfl (k' := 0) (n' := 0) rfl rfl (by decide) (by decide) ?_
        intro v_13 h_16 sz_14 q_15
        obtain ⟨rfl, rfl⟩ := q_15
        by_cases e1 : cpA cs i = cpA ds i
        · refine Seg.callS (y' := (⟨"java/lang/Integer", "compare", "(II)I"⟩ : MethodName)) (wd G 54 rfl) (wd G 55 rfl) (wd G 56 rfl) (wd G 57 rfl) ⟨by decide, by decide⟩ (Pays.of_ct (W := 0) (ct_icE G (cpA cs i) (cpA ds i) h0 e1) all0 (wd G 57 rfl) (wd G 56 rfl) (by decide) (by decide) rfl rfl) (argsL := [(.int (cpA cs i)), (.int (cpA ds i))]) (rest := []) rfl (lenOf pd_16 rfl) rfl (Nat.le_of_eq rfl) rfl d8_38 (pc' := 41) rfl (k' := 0) (n' := 0) rfl rfl (by decide) (by decide) ?_
          intro v_17 h_20 sz_18 q_19
          obtain ⟨rfl, rfl⟩ := q_19
          refine Seg.istoreN (L' := #[.val (.ref a), .val (.ref b), .val (.int (0 : Int32)), .val (.int (Int32.ofNat i)), .val (.int (cpA cs i))]) d8_41 rfl (pc' := 42) rfl ?_
          refine Seg.iloadN d8_42 rfl (pc' := 43) rfl ?_
          refine Seg.iload d8_43 rfl (pc' := 45) rfl ?_
          refine Seg.callS (y' := (⟨"java/lang/Character", "charCount", "(I)I"⟩ : MethodName)) (wd G 125 rfl) (wd G 126 rfl) (wd G 121 rfl) (wd G 127 rfl) ⟨by decide, by decide⟩ (Pays.of_ct (W := 1) (ct_cc G (cpA cs i) h0) all0 (wd G 127 rfl) (wd G 121 rfl) (by decide) (by decide) rfl rfl) (argsL := [(.int (cpA cs i))]) (rest := [(.int (Int32.ofNat i))]) rfl (lenOf pd_1 rfl) rfl (Nat.le_of_eq rfl) rfl d8_45 (pc' := 48) rfl (k' := 0) (n' := 0) rfl rfl (by decide) (by decide) ?_
          intro v_21 h_24 sz_22 q_23
          obtain ⟨rfl, rfl⟩ := q_23
          refine Seg.iadd (v := (Int32.ofNat (i + wd2 (cpA cs i)))) d8_48 (n32add _ _) (pc' := 49) rfl ?_
          refine Seg.istoreN (L' := #[.val (.ref a), .val (.ref b), .val (.int (0 : Int32)), .val (.int (Int32.ofNat (i + wd2 (cpA cs i)))), .val (.int (cpA cs i))]) d8_49 rfl (pc' := 50) rfl ?_
          refine Seg.goto (pc' := 4) d8_50 (by decide) (by decide) ?_
          have g1 := wd2_le F.rng i1
          have g2 := wd2_le F'.rng i2
          rw [← e1] at g2
          have g3 := wd2_pos (cpA cs i)
          refine Seg.post (fun v h q => ?_) (ih (i + wd2 (cpA cs i)) _ (Or.inr ⟨_, rfl⟩) (by omega) (by omega) g1 g2)
          rw [ptsS i1, ptsS i2, cmp_eq e1, ← e1]; exact q
        · by_cases e2 : cpA cs i < cpA ds i
          · refine Seg.callS (y' := (⟨"java/lang/Integer", "compare", "(II)I"⟩ : MethodName)) (wd G 54 rfl) (wd G 55 rfl) (wd G 56 rfl) (wd G 57 rfl) ⟨by decide, by decide⟩ (Pays.of_ct (W := 0) (ct_icL G (cpA cs i) (cpA ds i) h0 e2) all0 (wd G 57 rfl) (wd G 56 rfl) (by decide) (by decide) rfl rfl) (argsL := [(.int (cpA cs i)), (.int (cpA ds i))]) (rest := []) rfl (lenOf pd_16 rfl) rfl (Nat.le_of_eq rfl) rfl d8_38 (pc' := 41) rfl (k' := 0) (n' := 0) rfl rfl (by decide) (by decide) ?_
            intro v_25 h_28 sz_26 q_27
            obtain ⟨rfl, rfl⟩ := q_27
            refine Seg.istoreN (L' := #[.val (.ref a), .val (.ref b), .val (.int (-1 : Int32)), .val (.int (Int32.ofNat i)), .val (.int (cpA cs i))]) d8_41 rfl (pc' := 42) rfl ?_
            refine Seg.iloadN d8_42 rfl (pc' := 43) rfl ?_
            refine Seg.iload d8_43 rfl (pc' := 45) rfl ?_
            refine Seg.callS (y' := (⟨"java/lang/Character", "charCount", "(I)I"⟩ : MethodName)) (wd G 125 rfl) (wd G 126 rfl) (wd G 121 rfl) (wd G 127 rfl) ⟨by decide, by decide⟩ (Pays.of_ct (W := 1) (ct_cc G (cpA cs i) h0) all0 (wd G 127 rfl) (wd G 121 rfl) (by decide) (by decide) rfl rfl) (argsL := [(.int (cpA cs i))]) (rest := [(.int (Int32.ofNat i))]) rfl (lenOf pd_1 rfl) rfl (Nat.le_of_eq rfl) rfl d8_45 (pc' := 48) rfl (k' := 0) (n' := 0) rfl rfl (by decide) (by decide) ?_
            intro v_29 h_32 sz_30 q_31
            obtain ⟨rfl, rfl⟩ := q_31
            refine Seg.iadd (v := ((Int32.ofNat i) + (Int32.ofNat (wd2 (cpA cs i))))) d8_48 rfl (pc' := 49) rfl ?_
            refine Seg.istoreN (L' := #[.val (.ref a), .val (.ref b), .val (.int (-1 : Int32)), .val (.int ((Int32.ofNat i) + (Int32.ofNat (wd2 (cpA cs i))))), .val (.int (cpA cs i))]) d8_49 rfl (pc' := 50) rfl ?_
            refine Seg.goto (pc' := 4) d8_50 (by decide) (by decide) ?_
            refine Seg.iloadN d8_4 rfl (pc' := 5) rfl ?_
            refine Seg.ifY (pc' := 53) d8_5 (by decide) (by decide) (by decide) ?_
            refine Seg.iloadN d8_53 rfl (pc' := 54) rfl ?_
            refine Seg.ifY (pc' := 69) d8_54 (by decide) (by decide) (by decide) ?_
            refine Seg.iloadN d8_69 rfl (pc' := 70) rfl ?_
            exact Seg.retI rfl d8_70 (by decide) (by decide) ⟨by rw [ptsS i1, ptsS i2, cmp_lt e2], rfl⟩
          · refine Seg.callS (y' := (⟨"java/lang/Integer", "compare", "(II)I"⟩ : MethodName)) (wd G 54 rfl) (wd G 55 rfl) (wd G 56 rfl) (wd G 57 rfl) ⟨by decide, by decide⟩ (Pays.of_ct (W := 0) (ct_icG G (cpA cs i) (cpA ds i) h0 ⟨e1, e2⟩) all0 (wd G 57 rfl) (wd G 56 rfl) (by decide) (by decide) rfl rfl) (argsL := [(.int (cpA cs i)), (.int (cpA ds i))]) (rest := []) rfl (lenOf pd_16 rfl) rfl (Nat.le_of_eq rfl) rfl d8_38 (pc' := 41) rfl (k' := 0) (n' := 0) rfl rfl (by decide) (by decide) ?_
            intro v_33 h_36 sz_34 q_35
            obtain ⟨rfl, rfl⟩ := q_35
            refine Seg.istoreN (L' := #[.val (.ref a), .val (.ref b), .val (.int (1 : Int32)), .val (.int (Int32.ofNat i)), .val (.int (cpA cs i))]) d8_41 rfl (pc' := 42) rfl ?_
            refine Seg.iloadN d8_42 rfl (pc' := 43) rfl ?_
            refine Seg.iload d8_43 rfl (pc' := 45) rfl ?_
            refine Seg.callS (y' := (⟨"java/lang/Character", "charCount", "(I)I"⟩ : MethodName)) (wd G 125 rfl) (wd G 126 rfl) (wd G 121 rfl) (wd G 127 rfl) ⟨by decide, by decide⟩ (Pays.of_ct (W := 1) (ct_cc G (cpA cs i) h0) all0 (wd G 127 rfl) (wd G 121 rfl) (by decide) (by decide) rfl rfl) (argsL := [(.int (cpA cs i))]) (rest := [(.int (Int32.ofNat i))]) rfl (lenOf pd_1 rfl) rfl (Nat.le_of_eq rfl) rfl d8_45 (pc' := 48) rfl (k' := 0) (n' := 0) rfl rfl (by decide) (by decide) ?_
            intro v_37 h_40 sz_38 q_39
            obtain ⟨rfl, rfl⟩ := q_39
            refine Seg.iadd (v := ((Int32.ofNat i) + (Int32.ofNat (wd2 (cpA cs i))))) d8_48 rfl (pc' := 49) rfl ?_
            refine Seg.istoreN (L' := #[.val (.ref a), .val (.ref b), .val (.int (1 : Int32)), .val (.int ((Int32.ofNat i) + (Int32.ofNat (wd2 (cpA cs i))))), .val (.int (cpA cs i))]) d8_49 rfl (pc' := 50) rfl ?_
            refine Seg.goto (pc' := 4) d8_50 (by decide) (by decide) ?_
            refine Seg.iloadN d8_4 rfl (pc' := 5) rfl ?_
            refine Seg.ifY (pc' := 53) d8_5 (by decide) (by decide) (by decide) ?_
            refine Seg.iloadN d8_53 rfl (pc' := 54) rfl ?_
            refine Seg.ifY (pc' := 69) d8_54 (by decide) (by decide) (by decide) ?_
            refine Seg.iloadN d8_69 rfl (pc' := 70) rfl ?_
            exact Seg.retI rfl d8_70 (by decide) (by decide) ⟨by rw [ptsS i1, ptsS i2, cmp_gt e1 e2], rfl⟩
      · refine Seg.icY (pc' := 53) d8_21 (XT.ii_ge_t (n32nlt (by omega) (by omega))) (by decide) (by decide) ?_
        refine Seg.iloadN d8_53 rfl (pc' := 54) rfl ?_
        refine Seg.ifN d8_54 (by decide) (pc' := 57) rfl ?_
        refine Seg.aloadN d8_57 rfl rfl (pc' := 58) rfl ?_
        refine Seg.callV (y' := (⟨"java/lang/String", "length", "()I"⟩ : MethodName)) (z := (⟨"java/lang/String", "length", "()I"⟩ : MethodName)) (a := a) (wd G 43 rfl) (wd G 44 rfl) (nf_sel (wd G 46 rfl)) (wd G 46 rfl) (wd G 45 rfl) ⟨by decide, by decide⟩ x1 (pays_len (W := 0) G h0 F (by decide) (by decide)) (argsL := []) (rest := []) rfl (lenOf pd_15 rfl) rfl (Nat.le_of_eq rfl) rfl d8_58 (pc' := 61) rfl (k' := 0) (n' := 0) rfl rfl (by decide) (by decide) ?_
        intro v_41 h_44 sz_42 q_43
        obtain ⟨rfl, rfl⟩ := q_43
        refine Seg.aloadN d8_61 rfl rfl (pc' := 62) rfl ?_
        refine Seg.callV (y' := (⟨"java/lang/String", "length", "()I"⟩ : MethodName)) (z := (⟨"java/lang/String", "length", "()I"⟩ : MethodName)) (a := b) (wd G 43 rfl) (wd G 44 rfl) (nf_sel (wd G 46 rfl)) (wd G 46 rfl) (wd G 45 rfl) ⟨by decide, by decide⟩ x2 (pays_len (W := 1) G h0 F' (by decide) (by decide)) (argsL := []) (rest := [(.int (Int32.ofNat cs.length))]) rfl (lenOf pd_15 rfl) rfl (Nat.le_of_eq rfl) rfl d8_62 (pc' := 65) rfl (k' := 0) (n' := 0) rfl rfl (by decide) (by decide) ?_
        intro v_45 h_48 sz_46 q_47
        obtain ⟨rfl, rfl⟩ := q_47
        refine Seg.callS (y' := (⟨"java/lang/Integer", "compare", "(II)I"⟩ : MethodName)) (wd G 54 rfl) (wd G 55 rfl) (wd G 56 rfl) (wd G 57 rfl) ⟨by decide, by decide⟩ (Pays.of_ct (W := 0) (ct_icG G (Int32.ofNat cs.length) (Int32.ofNat ds.length) h0 ⟨fun q => absurd (n32eq (by omega) (by omega) q) (by omega), n32nlt (by omega) (by omega)⟩) all0 (wd G 57 rfl) (wd G 56 rfl) (by decide) (by decide) rfl rfl) (argsL := [(.int (Int32.ofNat cs.length)), (.int (Int32.ofNat ds.length))]) (rest := []) rfl (lenOf pd_16 rfl) rfl (Nat.le_of_eq rfl) rfl d8_65 (pc' := 68) rfl (k' := 0) (n' := 0) rfl rfl (by decide) (by decide) ?_
        intro v_49 h_52 sz_50 q_51
        obtain ⟨rfl, rfl⟩ := q_51
        refine Seg.istoreN (L' := #[.val (.ref a), .val (.ref b), .val (.int (1 : Int32)), .val (.int (Int32.ofNat i)), sl]) d8_68 rfl (pc' := 69) rfl ?_
        refine Seg.iloadN d8_69 rfl (pc' := 70) rfl ?_
        exact Seg.retI rfl d8_70 (by decide) (by decide) ⟨by rw [ptsS i1, ptsN (cs := ds) (i := i) (by omega)]; rfl, rfl⟩
    · refine Seg.icY (pc' := 53) d8_13 (XT.ii_ge_t (n32nlt (by omega) (by omega))) (by decide) (by decide) ?_
      by_cases i2 : i < ds.length
      · refine Seg.iloadN d8_53 rfl (pc' := 54) rfl ?_
        refine Seg.ifN d8_54 (by decide) (pc' := 57) rfl ?_
        refine Seg.aloadN d8_57 rfl rfl (pc' := 58) rfl ?_
        refine Seg.callV (y' := (⟨"java/lang/String", "length", "()I"⟩ : MethodName)) (z := (⟨"java/lang/String", "length", "()I"⟩ : MethodName)) (a := a) (wd G 43 rfl) (wd G 44 rfl) (nf_sel (wd G 46 rfl)) (wd G 46 rfl) (wd G 45 rfl) ⟨by decide, by decide⟩ x1 (pays_len (W := 0) G h0 F (by decide) (by decide)) (argsL := []) (rest := []) rfl (lenOf pd_15 rfl) rfl (Nat.le_of_eq rfl) rfl d8_58 (pc' := 61) rfl (k' := 0) (n' := 0) rfl rfl (by decide) (by decide) ?_
        intro v_53 h_56 sz_54 q_55
        obtain ⟨rfl, rfl⟩ := q_55
        refine Seg.aloadN d8_61 rfl rfl (pc' := 62) rfl ?_
        refine Seg.callV (y' := (⟨"java/lang/String", "length", "()I"⟩ : MethodName)) (z := (⟨"java/lang/String", "length", "()I"⟩ : MethodName)) (a := b) (wd G 43 rfl) (wd G 44 rfl) (nf_sel (wd G 46 rfl)) (wd G 46 rfl) (wd G 45 rfl) ⟨by decide, by decide⟩ x2 (pays_len (W := 1) G h0 F' (by decide) (by decide)) (argsL := []) (rest := [(.int (Int32.ofNat cs.length))]) rfl (lenOf pd_15 rfl) rfl (Nat.le_of_eq rfl) rfl d8_62 (pc' := 65) rfl (k' := 0) (n' := 0) rfl rfl (by decide) (by decide) ?_
        intro v_57 h_60 sz_58 q_59
        obtain ⟨rfl, rfl⟩ := q_59
        refine Seg.callS (y' := (⟨"java/lang/Integer", "compare", "(II)I"⟩ : MethodName)) (wd G 54 rfl) (wd G 55 rfl) (wd G 56 rfl) (wd G 57 rfl) ⟨by decide, by decide⟩ (Pays.of_ct (W := 0) (ct_icL G (Int32.ofNat cs.length) (Int32.ofNat ds.length) h0 (n32lt (by omega) (by omega))) all0 (wd G 57 rfl) (wd G 56 rfl) (by decide) (by decide) rfl rfl) (argsL := [(.int (Int32.ofNat cs.length)), (.int (Int32.ofNat ds.length))]) (rest := []) rfl (lenOf pd_16 rfl) rfl (Nat.le_of_eq rfl) rfl d8_65 (pc' := 68) rfl (k' := 0) (n' := 0) rfl rfl (by decide) (by decide) ?_
        intro v_61 h_64 sz_62 q_63
        obtain ⟨rfl, rfl⟩ := q_63
        refine Seg.istoreN (L' := #[.val (.ref a), .val (.ref b), .val (.int (-1 : Int32)), .val (.int (Int32.ofNat i)), sl]) d8_68 rfl (pc' := 69) rfl ?_
        refine Seg.iloadN d8_69 rfl (pc' := 70) rfl ?_
        exact Seg.retI rfl d8_70 (by decide) (by decide) ⟨by rw [ptsS i2, ptsN (cs := cs) (i := i) (by omega)]; rfl, rfl⟩
      · refine Seg.iloadN d8_53 rfl (pc' := 54) rfl ?_
        refine Seg.ifN d8_54 (by decide) (pc' := 57) rfl ?_
        refine Seg.aloadN d8_57 rfl rfl (pc' := 58) rfl ?_
        refine Seg.callV (y' := (⟨"java/lang/String", "length", "()I"⟩ : MethodName)) (z := (⟨"java/lang/String", "length", "()I"⟩ : MethodName)) (a := a) (wd G 43 rfl) (wd G 44 rfl) (nf_sel (wd G 46 rfl)) (wd G 46 rfl) (wd G 45 rfl) ⟨by decide, by decide⟩ x1 (pays_len (W := 0) G h0 F (by decide) (by decide)) (argsL := []) (rest := []) rfl (lenOf pd_15 rfl) rfl (Nat.le_of_eq rfl) rfl d8_58 (pc' := 61) rfl (k' := 0) (n' := 0) rfl rfl (by decide) (by decide) ?_
        intro v_65 h_68 sz_66 q_67
        obtain ⟨rfl, rfl⟩ := q_67
        refine Seg.aloadN d8_61 rfl rfl (pc' := 62) rfl ?_
        refine Seg.callV (y' := (⟨"java/lang/String", "length", "()I"⟩ : MethodName)) (z := (⟨"java/lang/String", "length", "()I"⟩ : MethodName)) (a := b) (wd G 43 rfl) (wd G 44 rfl) (nf_sel (wd G 46 rfl)) (wd G 46 rfl) (wd G 45 rfl) ⟨by decide, by decide⟩ x2 (pays_len (W := 1) G h0 F' (by decide) (by decide)) (argsL := []) (rest := [(.int (Int32.ofNat cs.length))]) rfl (lenOf pd_15 rfl) rfl (Nat.le_of_eq rfl) rfl d8_62 (pc' := 65) rfl (k' := 0) (n' := 0) rfl rfl (by decide) (by decide) ?_
        intro v_69 h_72 sz_70 q_71
        obtain ⟨rfl, rfl⟩ := q_71
        refine Seg.callS (y' := (⟨"java/lang/Integer", "compare", "(II)I"⟩ : MethodName)) (wd G 54 rfl) (wd G 55 rfl) (wd G 56 rfl) (wd G 57 rfl) ⟨by decide, by decide⟩ (Pays.of_ct (W := 0) (ct_icE G (Int32.ofNat cs.length) (Int32.ofNat ds.length) h0 (congrArg Int32.ofNat (by omega))) all0 (wd G 57 rfl) (wd G 56 rfl) (by decide) (by decide) rfl rfl) (argsL := [(.int (Int32.ofNat cs.length)), (.int (Int32.ofNat ds.length))]) (rest := []) rfl (lenOf pd_16 rfl) rfl (Nat.le_of_eq rfl) rfl d8_65 (pc' := 68) rfl (k' := 0) (n' := 0) rfl rfl (by decide) (by decide) ?_
        intro v_73 h_76 sz_74 q_75
        obtain ⟨rfl, rfl⟩ := q_75
        refine Seg.istoreN (L' := #[.val (.ref a), .val (.ref b), .val (.int (0 : Int32)), .val (.int (Int32.ofNat i)), sl]) d8_68 rfl (pc' := 69) rfl ?_
        refine Seg.iloadN d8_69 rfl (pc' := 70) rfl ?_
        exact Seg.retI rfl d8_70 (by decide) (by decide) ⟨by rw [ptsN (cs := cs) (i := i) (by omega), ptsN (cs := ds) (i := i) (by omega)]; rfl, rfl⟩
theorem d8_0 : decode prog_20_method_22_code 0 = .ok (.iconst 0, 1) := by decide +kernel
theorem d8_1 : decode prog_20_method_22_code 1 = .ok (.istore_n 2, 1) := by decide +kernel
theorem d8_2 : decode prog_20_method_22_code 2 = .ok (.iconst 0, 1) := by decide +kernel
theorem d8_3 : decode prog_20_method_22_code 3 = .ok (.istore_n 3, 1) := by decide +kernel
theorem pn_com_example_erne_erne_Summary : plainName "com/example/erne/erne/Summary" = true := by first | (simp [plainName, overriddenIn]; done) | decide +kernel
theorem ef_ct_cmp (a : Addr) (b : Addr) (cs : List Int32) (ds : List Int32) (m : MethodId) : entryFrame m #[(.ref a), (.ref b)] 5 = mkF m 0 #[.val (.ref a), .val (.ref b), .unset, .unset, .unset] [] := by first | (simp [entryFrame, mkF, argsToLocals, Value.category]; done) | rfl
set_option maxRecDepth 65536 in
set_option maxHeartbeats 4000000 in
theorem ct_cmp {l : Launch} {Z : State} {a0 : Array Value} (G : Env1 Z a0) (a : Addr) (b : Addr) (cs : List Int32) (ds : List Int32) (h0 : Heap) (F : Str Z h0 a cs) (F' : Str Z h0 b ds) (hl : cs.length ≤ 3) (hl' : ds.length ≤ 3) :
    Ct l Z EL1 [] [] (⟨"com/example/erne/erne/Summary", "compareNames", "(Ljava/lang/String;Ljava/lang/String;)I"⟩ : MethodName) prog_20_method_22_code 5 (some .int) ({ frames := 4, cells := 0, slots := 0, locals := 59 } : Room) #[(.ref a), (.ref b)] h0 (fun v h => v = some (.int (cmpL (ptsF 3 cs 0) (ptsF 3 ds 0))) ∧ h0 = h) := by
  refine Ct.of_seg (a0 := a0) (plainFor_of_name pn_com_example_erne_erne_Summary) G.2.1 (ef_ct_cmp a b cs ds) ?_
  refine Seg.iconst (v := 0) d8_0 (by decide) (pc' := 1) rfl ?_
  refine Seg.istoreN (L' := #[.val (.ref a), .val (.ref b), .val (.int (0 : Int32)), .unset, .unset]) d8_1 rfl (pc' := 2) rfl ?_
  refine Seg.iconst (v := 0) d8_2 (by decide) (pc' := 3) rfl ?_
  refine Seg.istoreN (L' := #[.val (.ref a), .val (.ref b), .val (.int (0 : Int32)), .val (.int (0 : Int32)), .unset]) d8_3 rfl (pc' := 4) rfl ?_
  exact lp_cmp G a b cs ds h0 F F' hl hl' 3 0 _ (Or.inl rfl) (by omega) (by omega) (by omega) (by omega)
theorem d1_0 : decode method_3_code 0 = .ok (.iload_n 0, 1) := by decide +kernel
theorem d1_1 : decode method_3_code 1 = .ok (.iconst 3, 1) := by decide +kernel
theorem d1_2 : decode method_3_code 2 = .ok (.iand, 1) := by decide +kernel
theorem d1_3 : decode method_3_code 3 = .ok (.istore_n 1, 1) := by decide +kernel
theorem d1_4 : decode method_3_code 4 = .ok (.iload_n 0, 1) := by decide +kernel
theorem d1_5 : decode method_3_code 5 = .ok (.iconst 2, 1) := by decide +kernel
theorem d1_6 : decode method_3_code 6 = .ok (.iushr, 1) := by decide +kernel
theorem d1_7 : decode method_3_code 7 = .ok (.istore_n 2, 1) := by decide +kernel
theorem d1_8 : decode method_3_code 8 = .ok (.iload_n 1, 1) := by decide +kernel
theorem d1_9 : decode method_3_code 9 = .ok (.ifCond .ne 11, 3) := by decide +kernel
theorem d1_12 : decode method_3_code 12 = .ok (.bipush 97, 2) := by decide +kernel
theorem d1_14 : decode method_3_code 14 = .ok (.iload_n 2, 1) := by decide +kernel
theorem d1_15 : decode method_3_code 15 = .ok (.iconst 1, 1) := by decide +kernel
theorem d1_16 : decode method_3_code 16 = .ok (.iand, 1) := by decide +kernel
theorem d1_17 : decode method_3_code 17 = .ok (.iadd, 1) := by decide +kernel
theorem d1_18 : decode method_3_code 18 = .ok (.i2c, 1) := by decide +kernel
theorem d1_19 : decode method_3_code 19 = .ok (.ireturn, 1) := by decide +kernel
theorem d1_20 : decode method_3_code 20 = .ok (.iload_n 1, 1) := by decide +kernel
theorem d1_21 : decode method_3_code 21 = .ok (.iconst 1, 1) := by decide +kernel
theorem d1_22 : decode method_3_code 22 = .ok (.if_icmp .ne 13, 3) := by decide +kernel
theorem d1_25 : decode method_3_code 25 = .ok (.ldc 35, 2) := by decide +kernel
theorem d1_27 : decode method_3_code 27 = .ok (.iload_n 2, 1) := by decide +kernel
theorem d1_28 : decode method_3_code 28 = .ok (.sipush 1023, 3) := by decide +kernel
theorem d1_31 : decode method_3_code 31 = .ok (.iand, 1) := by decide +kernel
theorem d1_32 : decode method_3_code 32 = .ok (.ior, 1) := by decide +kernel
theorem d1_33 : decode method_3_code 33 = .ok (.i2c, 1) := by decide +kernel
theorem d1_34 : decode method_3_code 34 = .ok (.ireturn, 1) := by decide +kernel
theorem d1_35 : decode method_3_code 35 = .ok (.iload_n 1, 1) := by decide +kernel
theorem d1_36 : decode method_3_code 36 = .ok (.iconst 2, 1) := by decide +kernel
theorem d1_37 : decode method_3_code 37 = .ok (.if_icmp .ne 13, 3) := by decide +kernel
theorem d1_40 : decode method_3_code 40 = .ok (.ldc 36, 2) := by decide +kernel
theorem d1_42 : decode method_3_code 42 = .ok (.iload_n 2, 1) := by decide +kernel
theorem d1_43 : decode method_3_code 43 = .ok (.sipush 1023, 3) := by decide +kernel
theorem d1_46 : decode method_3_code 46 = .ok (.iand, 1) := by decide +kernel
theorem d1_47 : decode method_3_code 47 = .ok (.ior, 1) := by decide +kernel
theorem d1_48 : decode method_3_code 48 = .ok (.i2c, 1) := by decide +kernel
theorem d1_49 : decode method_3_code 49 = .ok (.ireturn, 1) := by decide +kernel
theorem d1_50 : decode method_3_code 50 = .ok (.iload_n 2, 1) := by decide +kernel
theorem d1_51 : decode method_3_code 51 = .ok (.ldc 37, 2) := by decide +kernel
theorem d1_53 : decode method_3_code 53 = .ok (.iand, 1) := by decide +kernel
theorem d1_54 : decode method_3_code 54 = .ok (.i2c, 1) := by decide +kernel
theorem d1_55 : decode method_3_code 55 = .ok (.ireturn, 1) := by decide +kernel
theorem pn_com_example_erne_erne_SummaryCompareNamesPinLaw : plainName "com/example/erne/erne/SummaryCompareNamesPinLaw" = true := by first | (simp [plainName, overriddenIn]; done) | decide +kernel
theorem ef_ct_draw (u : Int32) (m : MethodId) : entryFrame m #[(.int u)] 3 = mkF m 0 #[.val (.int u), .unset, .unset] [] := by first | (simp [entryFrame, mkF, argsToLocals, Value.category]; done) | rfl
set_option maxRecDepth 65536 in
set_option maxHeartbeats 4000000 in
theorem ct_draw {l : Launch} {Z : State} {a0 : Array Value} (G : Env1 Z a0) (u : Int32) (h0 : Heap) :
    Ct l Z EL1 [] [] (⟨"com/example/erne/erne/SummaryCompareNamesPinLaw", "draw", "(I)C"⟩ : MethodName) method_3_code 3 (some .char) ({ frames := 0, cells := 0, slots := 0, locals := 0 } : Room) #[(.int u)] h0 (fun v h => ∃ r : Int32, v = some (.int r) ∧ h0 = h ∧ (¬ r < 0 ∧ ¬ (65535 : Int32) < r)) := by
  refine Ct.of_seg (a0 := a0) (plainFor_of_name pn_com_example_erne_erne_SummaryCompareNamesPinLaw) G.2.1 (ef_ct_draw u) ?_
  refine Seg.iloadN d1_0 rfl (pc' := 1) rfl ?_
  refine Seg.iconst (v := 3) d1_1 (by decide) (pc' := 2) rfl ?_
  refine Seg.iand (v := (u &&& (3 : Int32))) d1_2 rfl (pc' := 3) rfl ?_
  refine Seg.istoreN (L' := #[.val (.int u), .val (.int (u &&& (3 : Int32))), .unset]) d1_3 rfl (pc' := 4) rfl ?_
  refine Seg.iloadN d1_4 rfl (pc' := 5) rfl ?_
  refine Seg.iconst (v := 2) d1_5 (by decide) (pc' := 6) rfl ?_
  refine Seg.iushr (v := ((u).toUInt32 >>> ((2 : Int32) &&& 31).toUInt32).toInt32) d1_6 rfl (pc' := 7) rfl ?_
  refine Seg.istoreN (L' := #[.val (.int u), .val (.int (u &&& (3 : Int32))), .val (.int ((u).toUInt32 >>> ((2 : Int32) &&& 31).toUInt32).toInt32)]) d1_7 rfl (pc' := 8) rfl ?_
  refine Seg.iloadN d1_8 rfl (pc' := 9) rfl ?_
  by_cases h1 : (u &&& (3 : Int32)) = 0
  · refine Seg.ifN d1_9 (XT.i0_ne_f h1) (pc' := 12) rfl ?_
    refine Seg.bipush (v := 97) d1_12 (by decide) (pc' := 14) rfl ?_
    refine Seg.iloadN d1_14 rfl (pc' := 15) rfl ?_
    refine Seg.iconst (v := 1) d1_15 (by decide) (pc' := 16) rfl ?_
    refine Seg.iand (v := (((u).toUInt32 >>> ((2 : Int32) &&& 31).toUInt32).toInt32 &&& (1 : Int32))) d1_16 rfl (pc' := 17) rfl ?_
    refine Seg.iadd (v := ((97 : Int32) + (((u).toUInt32 >>> ((2 : Int32) &&& 31).toUInt32).toInt32 &&& (1 : Int32)))) d1_17 rfl (pc' := 18) rfl ?_
    refine Seg.i2c (v := (((97 : Int32) + (((u).toUInt32 >>> ((2 : Int32) &&& 31).toUInt32).toInt32 &&& (1 : Int32)))).toUInt32.toUInt16.toUInt32.toInt32) d1_18 rfl (pc' := 19) rfl ?_
    exact Seg.retN (t := .char) (w := (((97 : Int32) + (((u).toUInt32 >>> ((2 : Int32) &&& 31).toUInt32).toInt32 &&& (1 : Int32)))).toUInt32.toUInt16.toUInt32.toInt32) rfl (by decide) (nar16 (i2c16 _)) d1_19 (by decide) (by decide) ⟨_, rfl, rfl, i2c16 _⟩
  · refine Seg.ifY (pc' := 20) d1_9 (XT.i0_ne_t h1) (by decide) (by decide) ?_
    refine Seg.iloadN d1_20 rfl (pc' := 21) rfl ?_
    refine Seg.iconst (v := 1) d1_21 (by decide) (pc' := 22) rfl ?_
    by_cases h2 : (u &&& (3 : Int32)) = 1
    · refine Seg.icN d1_22 (XT.ii_ne_f h2) (pc' := 25) rfl ?_
      refine Seg.ldcI (wd G 6 rfl) d1_25 (pc' := 27) rfl ?_
      refine Seg.iloadN d1_27 rfl (pc' := 28) rfl ?_
      refine Seg.sipush (v := 1023) d1_28 (by decide) (pc' := 31) rfl ?_
      refine Seg.iand (v := (((u).toUInt32 >>> ((2 : Int32) &&& 31).toUInt32).toInt32 &&& (1023 : Int32))) d1_31 rfl (pc' := 32) rfl ?_
      refine Seg.ior (v := ((55296 : Int32) ||| (((u).toUInt32 >>> ((2 : Int32) &&& 31).toUInt32).toInt32 &&& (1023 : Int32)))) d1_32 rfl (pc' := 33) rfl ?_
      refine Seg.i2c (v := (((55296 : Int32) ||| (((u).toUInt32 >>> ((2 : Int32) &&& 31).toUInt32).toInt32 &&& (1023 : Int32)))).toUInt32.toUInt16.toUInt32.toInt32) d1_33 rfl (pc' := 34) rfl ?_
      exact Seg.retN (t := .char) (w := (((55296 : Int32) ||| (((u).toUInt32 >>> ((2 : Int32) &&& 31).toUInt32).toInt32 &&& (1023 : Int32)))).toUInt32.toUInt16.toUInt32.toInt32) rfl (by decide) (nar16 (i2c16 _)) d1_34 (by decide) (by decide) ⟨_, rfl, rfl, i2c16 _⟩
    · refine Seg.icY (pc' := 35) d1_22 (XT.ii_ne_t h2) (by decide) (by decide) ?_
      refine Seg.iloadN d1_35 rfl (pc' := 36) rfl ?_
      refine Seg.iconst (v := 2) d1_36 (by decide) (pc' := 37) rfl ?_
      by_cases h3 : (u &&& (3 : Int32)) = 2
      · refine Seg.icN d1_37 (XT.ii_ne_f h3) (pc' := 40) rfl ?_
        refine Seg.ldcI (wd G 5 rfl) d1_40 (pc' := 42) rfl ?_
        refine Seg.iloadN d1_42 rfl (pc' := 43) rfl ?_
        refine Seg.sipush (v := 1023) d1_43 (by decide) (pc' := 46) rfl ?_
        refine Seg.iand (v := (((u).toUInt32 >>> ((2 : Int32) &&& 31).toUInt32).toInt32 &&& (1023 : Int32))) d1_46 rfl (pc' := 47) rfl ?_
        refine Seg.ior (v := ((56320 : Int32) ||| (((u).toUInt32 >>> ((2 : Int32) &&& 31).toUInt32).toInt32 &&& (1023 : Int32)))) d1_47 rfl (pc' := 48) rfl ?_
        refine Seg.i2c (v := (((56320 : Int32) ||| (((u).toUInt32 >>> ((2 : Int32) &&& 31).toUInt32).toInt32 &&& (1023 : Int32)))).toUInt32.toUInt16.toUInt32.toInt32) d1_48 rfl (pc' := 49) rfl ?_
        exact Seg.retN (t := .char) (w := (((56320 : Int32) ||| (((u).toUInt32 >>> ((2 : Int32) &&& 31).toUInt32).toInt32 &&& (1023 : Int32)))).toUInt32.toUInt16.toUInt32.toInt32) rfl (by decide) (nar16 (i2c16 _)) d1_49 (by decide) (by decide) ⟨_, rfl, rfl, i2c16 _⟩
      · refine Seg.icY (pc' := 50) d1_37 (XT.ii_ne_t h3) (by decide) (by decide) ?_
        refine Seg.iloadN d1_50 rfl (pc' := 51) rfl ?_
        refine Seg.ldcI (wd G 4 rfl) d1_51 (pc' := 53) rfl ?_
        refine Seg.iand (v := (((u).toUInt32 >>> ((2 : Int32) &&& 31).toUInt32).toInt32 &&& (65535 : Int32))) d1_53 rfl (pc' := 54) rfl ?_
        refine Seg.i2c (v := ((((u).toUInt32 >>> ((2 : Int32) &&& 31).toUInt32).toInt32 &&& (65535 : Int32))).toUInt32.toUInt16.toUInt32.toInt32) d1_54 rfl (pc' := 55) rfl ?_
        exact Seg.retN (t := .char) (w := ((((u).toUInt32 >>> ((2 : Int32) &&& 31).toUInt32).toInt32 &&& (65535 : Int32))).toUInt32.toUInt16.toUInt32.toInt32) rfl (by decide) (nar16 (i2c16 _)) d1_55 (by decide) (by decide) ⟨_, rfl, rfl, i2c16 _⟩
theorem d2_0 : decode method_4_code 0 = .ok (.iload_n 0, 1) := by decide +kernel
theorem d2_1 : decode method_4_code 1 = .ok (.ifCond .ne 14, 3) := by decide +kernel
theorem d2_4 : decode method_4_code 4 = .ok (.new 38, 3) := by decide +kernel
theorem d2_7 : decode method_4_code 7 = .ok (.dup, 1) := by decide +kernel
theorem d2_8 : decode method_4_code 8 = .ok (.iconst 0, 1) := by decide +kernel
theorem d2_9 : decode method_4_code 9 = .ok (.newarray .char, 2) := by decide +kernel
theorem d2_11 : decode method_4_code 11 = .ok (.invokespecial 40, 3) := by decide +kernel
theorem pd_17 : parseMethodDescriptor "([C)V" = some ⟨[(.array .char)], none⟩ := by decide +kernel
theorem d2_14 : decode method_4_code 14 = .ok (.areturn, 1) := by decide +kernel
theorem d2_15 : decode method_4_code 15 = .ok (.iload_n 0, 1) := by decide +kernel
theorem d2_16 : decode method_4_code 16 = .ok (.iconst 1, 1) := by decide +kernel
theorem d2_17 : decode method_4_code 17 = .ok (.if_icmp .ne 18, 3) := by decide +kernel
theorem d2_20 : decode method_4_code 20 = .ok (.new 38, 3) := by decide +kernel
theorem d2_23 : decode method_4_code 23 = .ok (.dup, 1) := by decide +kernel
theorem d2_24 : decode method_4_code 24 = .ok (.iconst 1, 1) := by decide +kernel
theorem d2_25 : decode method_4_code 25 = .ok (.newarray .char, 2) := by decide +kernel
theorem d2_27 : decode method_4_code 27 = .ok (.dup, 1) := by decide +kernel
theorem d2_28 : decode method_4_code 28 = .ok (.iconst 0, 1) := by decide +kernel
theorem d2_29 : decode method_4_code 29 = .ok (.iload_n 1, 1) := by decide +kernel
theorem d2_30 : decode method_4_code 30 = .ok (.castore, 1) := by decide +kernel
theorem d2_31 : decode method_4_code 31 = .ok (.invokespecial 40, 3) := by decide +kernel
theorem d2_34 : decode method_4_code 34 = .ok (.areturn, 1) := by decide +kernel
theorem d2_35 : decode method_4_code 35 = .ok (.iload_n 0, 1) := by decide +kernel
theorem d2_36 : decode method_4_code 36 = .ok (.iconst 2, 1) := by decide +kernel
theorem d2_37 : decode method_4_code 37 = .ok (.if_icmp .ne 22, 3) := by decide +kernel
theorem d2_40 : decode method_4_code 40 = .ok (.new 38, 3) := by decide +kernel
theorem d2_43 : decode method_4_code 43 = .ok (.dup, 1) := by decide +kernel
theorem d2_44 : decode method_4_code 44 = .ok (.iconst 2, 1) := by decide +kernel
theorem d2_45 : decode method_4_code 45 = .ok (.newarray .char, 2) := by decide +kernel
theorem d2_47 : decode method_4_code 47 = .ok (.dup, 1) := by decide +kernel
theorem d2_48 : decode method_4_code 48 = .ok (.iconst 0, 1) := by decide +kernel
theorem d2_49 : decode method_4_code 49 = .ok (.iload_n 1, 1) := by decide +kernel
theorem d2_50 : decode method_4_code 50 = .ok (.castore, 1) := by decide +kernel
theorem d2_51 : decode method_4_code 51 = .ok (.dup, 1) := by decide +kernel
theorem d2_52 : decode method_4_code 52 = .ok (.iconst 1, 1) := by decide +kernel
theorem d2_53 : decode method_4_code 53 = .ok (.iload_n 2, 1) := by decide +kernel
theorem d2_54 : decode method_4_code 54 = .ok (.castore, 1) := by decide +kernel
theorem d2_55 : decode method_4_code 55 = .ok (.invokespecial 40, 3) := by decide +kernel
theorem d2_58 : decode method_4_code 58 = .ok (.areturn, 1) := by decide +kernel
theorem d2_59 : decode method_4_code 59 = .ok (.new 38, 3) := by decide +kernel
theorem d2_62 : decode method_4_code 62 = .ok (.dup, 1) := by decide +kernel
theorem d2_63 : decode method_4_code 63 = .ok (.iconst 3, 1) := by decide +kernel
theorem d2_64 : decode method_4_code 64 = .ok (.newarray .char, 2) := by decide +kernel
theorem d2_66 : decode method_4_code 66 = .ok (.dup, 1) := by decide +kernel
theorem d2_67 : decode method_4_code 67 = .ok (.iconst 0, 1) := by decide +kernel
theorem d2_68 : decode method_4_code 68 = .ok (.iload_n 1, 1) := by decide +kernel
theorem d2_69 : decode method_4_code 69 = .ok (.castore, 1) := by decide +kernel
theorem d2_70 : decode method_4_code 70 = .ok (.dup, 1) := by decide +kernel
theorem d2_71 : decode method_4_code 71 = .ok (.iconst 1, 1) := by decide +kernel
theorem d2_72 : decode method_4_code 72 = .ok (.iload_n 2, 1) := by decide +kernel
theorem d2_73 : decode method_4_code 73 = .ok (.castore, 1) := by decide +kernel
theorem d2_74 : decode method_4_code 74 = .ok (.dup, 1) := by decide +kernel
theorem d2_75 : decode method_4_code 75 = .ok (.iconst 2, 1) := by decide +kernel
theorem d2_76 : decode method_4_code 76 = .ok (.iload_n 3, 1) := by decide +kernel
theorem d2_77 : decode method_4_code 77 = .ok (.castore, 1) := by decide +kernel
theorem d2_78 : decode method_4_code 78 = .ok (.invokespecial 40, 3) := by decide +kernel
theorem d2_81 : decode method_4_code 81 = .ok (.areturn, 1) := by decide +kernel
theorem ef_ct_text (n : Nat) (u0 : Int32) (u1 : Int32) (u2 : Int32) (m : MethodId) : entryFrame m #[(.int (Int32.ofNat n)), (.int u0), (.int u1), (.int u2)] 4 = mkF m 0 #[.val (.int (Int32.ofNat n)), .val (.int u0), .val (.int u1), .val (.int u2)] [] := by first | (simp [entryFrame, mkF, argsToLocals, Value.category]; done) | rfl
set_option maxRecDepth 65536 in
set_option maxHeartbeats 4000000 in
theorem ct_text {l : Launch} {Z : State} {a0 : Array Value} (G : Env1 Z a0) (n : Nat) (u0 : Int32) (u1 : Int32) (u2 : Int32) (h0 : Heap) (hn : n < 4) (z0 : ¬ u0 < 0 ∧ ¬ (65535 : Int32) < u0) (z1 : ¬ u1 < 0 ∧ ¬ (65535 : Int32) < u1) (z2 : ¬ u2 < 0 ∧ ¬ (65535 : Int32) < u2) :
    Ct l Z EL1 [] [] (⟨"com/example/erne/erne/SummaryCompareNamesPinLaw", "text", "(ICCC)Ljava/lang/String;"⟩ : MethodName) method_4_code 4 (some (.object "java/lang/String")) ({ frames := 6, cells := 6, slots := 16, locals := 88 } : Room) #[(.int (Int32.ofNat n)), (.int u0), (.int u1), (.int u2)] h0 (fun v h => ∃ r, v = some (.ref r) ∧ Ext h0 h ∧ Str Z h r ([u0, u1, u2].take n)) := by
  refine Ct.of_seg (a0 := a0) (plainFor_of_name pn_com_example_erne_erne_SummaryCompareNamesPinLaw) G.2.1 (ef_ct_text n u0 u1 u2) ?_
  match n, hn with
  | 0, _ =>
    show Seg l Z a0 EL1 _ _ _ _ _ _ h0 0 0 [] 0 #[.val (.int (0 : Int32)), .val (.int u0), .val (.int u1), .val (.int u2)] []
    refine Seg.iloadN d2_0 rfl (pc' := 1) rfl ?_
    refine Seg.ifN d2_1 (by decide) (pc' := 4) rfl ?_
    refine Seg.newO (wd G 10 rfl) (wd G 11 rfl) (wd G 12 rfl) d2_4 (pc' := 7) rfl (k' := 1) (n' := 4) rfl rfl (by decide) (by decide) ?_
    intro b_1 h_3 E_2 e_b_1 l_b_1 A_b_1 D_b_1
    have F_value_b_1 : Fld Z h_3 b_1 "java/lang/String" "value" "[B" Value.null := D_b_1 (Or.inr (wd G 26 rfl)) (ty := (.array .byte)) (by decide)
    have F_coder_b_1 : Fld Z h_3 b_1 "java/lang/String" "coder" "B" (.int (0 : Int32)) := D_b_1 (Or.inr (wd G 27 rfl)) (ty := .byte) (by decide)
    refine Seg.dup d2_7 rfl (pc' := 8) rfl ?_
    refine Seg.iconst (v := 0) d2_8 (by decide) (pc' := 9) rfl ?_
    refine Seg.newP (ty := .char) (dv := (.int 0)) rfl rfl (wd G 13 rfl) d2_9 (pc' := 11) rfl (by decide) (cap := 0) (by decide) (by decide) (k' := 2) (n' := 4) rfl rfl (by decide) (by decide) ?_
    intro b_4 h_6 k_b_4 E_5 e_b_4 l_b_4 A_b_4
    have F_7 := A_b_1.ext E_5
    have F_8 := F_value_b_1.ext E_5
    have F_9 := F_coder_b_1.ext E_5
    refine Seg.callN (y' := (⟨"java/lang/String", "<init>", "([C)V"⟩ : MethodName)) (a := b_1) rfl (wd G 14 rfl) (wd G 15 rfl) (wd G 16 rfl) ⟨by decide, by decide⟩ (Pays.of_ct (W := 1) (ct_sie G b_1 b_4 .null (.int 0) k_b_4 (.int 0) h_6 F_7 F_8 F_9 A_b_4) (allS (List.mem_of_getElem? (i := 1) rfl) all0) (wd G 16 rfl) (wd G 12 rfl) (by decide) (by decide) rfl rfl) (argsL := [(.ref b_4)]) (rest := [(.ref b_1)]) rfl (lenOf pd_17 rfl) rfl (Nat.le_of_eq rfl) rfl d2_11 (pc' := 14) rfl (k' := 6) (n' := 12) rfl rfl (by decide) (by decide) ?_
    intro v_10 h_13 sz_11 q_12
    obtain ⟨rfl, K8, F8⟩ := q_12
    have E_14 : Ext h0 h_6 := ext_tr E_2 E_5
    have E_15 : Ext h0 h_13 := ext_kp E_14 K8 (allS (Nat.le_trans (ext_rfl _).1 (Nat.le_of_eq e_b_1)) all0)
    exact Seg.retA rfl rfl rfl d2_14 (by decide) (by decide) ⟨b_1, rfl, E_15, F8⟩
  | 1, _ =>
    show Seg l Z a0 EL1 _ _ _ _ _ _ h0 0 0 [] 0 #[.val (.int (1 : Int32)), .val (.int u0), .val (.int u1), .val (.int u2)] []
    refine Seg.iloadN d2_0 rfl (pc' := 1) rfl ?_
    refine Seg.ifY (pc' := 15) d2_1 (by decide) (by decide) (by decide) ?_
    refine Seg.iloadN d2_15 rfl (pc' := 16) rfl ?_
    refine Seg.iconst (v := 1) d2_16 (by decide) (pc' := 17) rfl ?_
    refine Seg.icN d2_17 (by decide) (pc' := 20) rfl ?_
    refine Seg.newO (wd G 10 rfl) (wd G 11 rfl) (wd G 12 rfl) d2_20 (pc' := 23) rfl (k' := 1) (n' := 4) rfl rfl (by decide) (by decide) ?_
    intro b_16 h_18 E_17 e_b_16 l_b_16 A_b_16 D_b_16
    have F_value_b_16 : Fld Z h_18 b_16 "java/lang/String" "value" "[B" Value.null := D_b_16 (Or.inr (wd G 26 rfl)) (ty := (.array .byte)) (by decide)
    have F_coder_b_16 : Fld Z h_18 b_16 "java/lang/String" "coder" "B" (.int (0 : Int32)) := D_b_16 (Or.inr (wd G 27 rfl)) (ty := .byte) (by decide)
    refine Seg.dup d2_23 rfl (pc' := 24) rfl ?_
    refine Seg.iconst (v := 1) d2_24 (by decide) (pc' := 25) rfl ?_
    refine Seg.newP (ty := .char) (dv := (.int 0)) rfl rfl (wd G 13 rfl) d2_25 (pc' := 27) rfl (by decide) (cap := 1) (by decide) (by decide) (k' := 2) (n' := 5) rfl rfl (by decide) (by decide) ?_
    intro b_19 h_21 k_b_19 E_20 e_b_19 l_b_19 A_b_19
    replace A_b_19 : Arv Z h_21 b_19 k_b_19 .char (1 : Int32) [(.int (0 : Int32))] (.int 0) := A_b_19.pad (pad_rep [] (.int 0) 1)
    refine Seg.dup d2_27 rfl (pc' := 28) rfl ?_
    refine Seg.iconst (v := 0) d2_28 (by decide) (pc' := 29) rfl ?_
    refine Seg.iloadN d2_29 rfl (pc' := 30) rfl ?_
    refine Seg.castore (v' := u0) (i := 0) A_b_19 ⟨by decide, by decide⟩ rfl (Nat.le_of_ble_eq_true rfl) (nar16 z0) (List.mem_of_getElem? (i := 0) rfl) d2_30 (pc' := 31) rfl ?_
    intro h_24 W_22 A_23
    replace A_23 : Arv Z h_24 b_19 k_b_19 .char (1 : Int32) [(.int u0)] (.int 0) := A_23
    have E_25 : Ext h_18 h_24 := ext_wr E_20 W_22 (Nat.le_trans (ext_rfl _).1 (Nat.le_of_eq e_b_19))
    have F_26 := A_b_16.ext E_25
    have F_27 := F_value_b_16.ext E_25
    have F_28 := F_coder_b_16.ext E_25
    have hr : ∀ c ∈ [u0], ¬ c < 0 ∧ ¬ (65535 : Int32) < c := (by intro c hc; simp only [List.mem_cons, List.not_mem_nil, or_false] at hc; rcases hc with rfl <;> assumption)
    by_cases hw : ∃ c ∈ [u0], (255 : Int32) < c
    · refine Seg.callN (y' := (⟨"java/lang/String", "<init>", "([C)V"⟩ : MethodName)) (a := b_16) rfl (wd G 14 rfl) (wd G 15 rfl) (wd G 16 rfl) ⟨by decide, by decide⟩ (Pays.of_ct (W := 1) (ct_siw1 G b_16 b_19 k_b_19 (.int 0) u0 .null (.int 0) h_24 F_26 F_27 F_28 A_23 hr hw) (allS (List.mem_of_getElem? (i := 1) rfl) all0) (wd G 16 rfl) (wd G 12 rfl) (by decide) (by decide) rfl rfl) (argsL := [(.ref b_19)]) (rest := [(.ref b_16)]) rfl (lenOf pd_17 rfl) rfl (Nat.le_of_eq rfl) rfl d2_31 (pc' := 34) rfl (k' := 4) (n' := 8) rfl rfl (by decide) (by decide) ?_
      intro v_29 h_32 sz_30 q_31
      obtain ⟨rfl, K8, F8⟩ := q_31
      have E_33 : Ext h0 h_21 := ext_tr E_17 E_20
      have E_34 : Ext h0 h_24 := ext_wr E_33 W_22 (Nat.le_trans E_17.1 (Nat.le_of_eq e_b_19))
      have E_35 : Ext h0 h_32 := ext_kp E_34 K8 (allS (Nat.le_trans (ext_rfl _).1 (Nat.le_of_eq e_b_16)) all0)
      exact Seg.retA rfl rfl rfl d2_34 (by decide) (by decide) ⟨b_16, rfl, E_35, F8⟩
    · refine Seg.callN (y' := (⟨"java/lang/String", "<init>", "([C)V"⟩ : MethodName)) (a := b_16) rfl (wd G 14 rfl) (wd G 15 rfl) (wd G 16 rfl) ⟨by decide, by decide⟩ (pays_str (W := 1) G [u0] 1 h_24 F_26 F_27 F_28 A_23 rfl rfl (by decide) (by decide) (fun c hc => ⟨(hr c hc).1, fun q => hw ⟨c, hc, q⟩⟩) (List.mem_of_getElem? (i := 1) rfl) (by decide) (by decide)) (argsL := [(.ref b_19)]) (rest := [(.ref b_16)]) rfl (lenOf pd_17 rfl) rfl (Nat.le_of_eq rfl) rfl d2_31 (pc' := 34) rfl (k' := 3) (n' := 6) rfl rfl (by decide) (by decide) ?_
      intro v_36 h_39 sz_37 q_38
      obtain ⟨rfl, K8, F8⟩ := q_38
      have E_40 : Ext h0 h_21 := ext_tr E_17 E_20
      have E_41 : Ext h0 h_24 := ext_wr E_40 W_22 (Nat.le_trans E_17.1 (Nat.le_of_eq e_b_19))
      have E_42 : Ext h0 h_39 := ext_kp E_41 K8 (allS (Nat.le_trans (ext_rfl _).1 (Nat.le_of_eq e_b_16)) all0)
      exact Seg.retA rfl rfl rfl d2_34 (by decide) (by decide) ⟨b_16, rfl, E_42, F8⟩
  | 2, _ =>
    show Seg l Z a0 EL1 _ _ _ _ _ _ h0 0 0 [] 0 #[.val (.int (2 : Int32)), .val (.int u0), .val (.int u1), .val (.int u2)] []
    refine Seg.iloadN d2_0 rfl (pc' := 1) rfl ?_
    refine Seg.ifY (pc' := 15) d2_1 (by decide) (by decide) (by decide) ?_
    refine Seg.iloadN d2_15 rfl (pc' := 16) rfl ?_
    refine Seg.iconst (v := 1) d2_16 (by decide) (pc' := 17) rfl ?_
    refine Seg.icY (pc' := 35) d2_17 (by decide) (by decide) (by decide) ?_
    refine Seg.iloadN d2_35 rfl (pc' := 36) rfl ?_
    refine Seg.iconst (v := 2) d2_36 (by decide) (pc' := 37) rfl ?_
    refine Seg.icN d2_37 (by decide) (pc' := 40) rfl ?_
    refine Seg.newO (wd G 10 rfl) (wd G 11 rfl) (wd G 12 rfl) d2_40 (pc' := 43) rfl (k' := 1) (n' := 4) rfl rfl (by decide) (by decide) ?_
    intro b_43 h_45 E_44 e_b_43 l_b_43 A_b_43 D_b_43
    have F_value_b_43 : Fld Z h_45 b_43 "java/lang/String" "value" "[B" Value.null := D_b_43 (Or.inr (wd G 26 rfl)) (ty := (.array .byte)) (by decide)
    have F_coder_b_43 : Fld Z h_45 b_43 "java/lang/String" "coder" "B" (.int (0 : Int32)) := D_b_43 (Or.inr (wd G 27 rfl)) (ty := .byte) (by decide)
    refine Seg.dup d2_43 rfl (pc' := 44) rfl ?_
    refine Seg.iconst (v := 2) d2_44 (by decide) (pc' := 45) rfl ?_
    refine Seg.newP (ty := .char) (dv := (.int 0)) rfl rfl (wd G 13 rfl) d2_45 (pc' := 47) rfl (by decide) (cap := 2) (by decide) (by decide) (k' := 2) (n' := 6) rfl rfl (by decide) (by decide) ?_
    intro b_46 h_48 k_b_46 E_47 e_b_46 l_b_46 A_b_46
    replace A_b_46 : Arv Z h_48 b_46 k_b_46 .char (2 : Int32) [(.int (0 : Int32)), (.int (0 : Int32))] (.int 0) := A_b_46.pad (pad_rep [] (.int 0) 2)
    refine Seg.dup d2_47 rfl (pc' := 48) rfl ?_
    refine Seg.iconst (v := 0) d2_48 (by decide) (pc' := 49) rfl ?_
    refine Seg.iloadN d2_49 rfl (pc' := 50) rfl ?_
    refine Seg.castore (v' := u0) (i := 0) A_b_46 ⟨by decide, by decide⟩ rfl (Nat.le_of_ble_eq_true rfl) (nar16 z0) (List.mem_of_getElem? (i := 0) rfl) d2_50 (pc' := 51) rfl ?_
    intro h_51 W_49 A_50
    replace A_50 : Arv Z h_51 b_46 k_b_46 .char (2 : Int32) [(.int u0), (.int (0 : Int32))] (.int 0) := A_50
    refine Seg.dup d2_51 rfl (pc' := 52) rfl ?_
    refine Seg.iconst (v := 1) d2_52 (by decide) (pc' := 53) rfl ?_
    refine Seg.iloadN d2_53 rfl (pc' := 54) rfl ?_
    refine Seg.castore (v' := u1) (i := 1) A_50 ⟨by decide, by decide⟩ rfl (Nat.le_of_ble_eq_true rfl) (nar16 z1) (List.mem_of_getElem? (i := 0) rfl) d2_54 (pc' := 55) rfl ?_
    intro h_54 W_52 A_53
    replace A_53 : Arv Z h_54 b_46 k_b_46 .char (2 : Int32) [(.int u0), (.int u1)] (.int 0) := A_53
    have E_55 : Ext h_45 h_51 := ext_wr E_47 W_49 (Nat.le_trans (ext_rfl _).1 (Nat.le_of_eq e_b_46))
    have E_56 : Ext h_45 h_54 := ext_wr E_55 W_52 (Nat.le_trans (ext_rfl _).1 (Nat.le_of_eq e_b_46))
    have F_57 := A_b_43.ext E_56
    have F_58 := F_value_b_43.ext E_56
    have F_59 := F_coder_b_43.ext E_56
    have hr : ∀ c ∈ [u0, u1], ¬ c < 0 ∧ ¬ (65535 : Int32) < c := (by intro c hc; simp only [List.mem_cons, List.not_mem_nil, or_false] at hc; rcases hc with rfl | rfl <;> assumption)
    by_cases hw : ∃ c ∈ [u0, u1], (255 : Int32) < c
    · refine Seg.callN (y' := (⟨"java/lang/String", "<init>", "([C)V"⟩ : MethodName)) (a := b_43) rfl (wd G 14 rfl) (wd G 15 rfl) (wd G 16 rfl) ⟨by decide, by decide⟩ (Pays.of_ct (W := 1) (ct_siw2 G b_43 b_46 k_b_46 (.int 0) u0 u1 .null (.int 0) h_54 F_57 F_58 F_59 A_53 hr hw) (allS (List.mem_of_getElem? (i := 1) rfl) all0) (wd G 16 rfl) (wd G 12 rfl) (by decide) (by decide) rfl rfl) (argsL := [(.ref b_46)]) (rest := [(.ref b_43)]) rfl (lenOf pd_17 rfl) rfl (Nat.le_of_eq rfl) rfl d2_55 (pc' := 58) rfl (k' := 4) (n' := 12) rfl rfl (by decide) (by decide) ?_
      intro v_60 h_63 sz_61 q_62
      obtain ⟨rfl, K8, F8⟩ := q_62
      have E_64 : Ext h0 h_48 := ext_tr E_44 E_47
      have E_65 : Ext h0 h_51 := ext_wr E_64 W_49 (Nat.le_trans E_44.1 (Nat.le_of_eq e_b_46))
      have E_66 : Ext h0 h_54 := ext_wr E_65 W_52 (Nat.le_trans E_44.1 (Nat.le_of_eq e_b_46))
      have E_67 : Ext h0 h_63 := ext_kp E_66 K8 (allS (Nat.le_trans (ext_rfl _).1 (Nat.le_of_eq e_b_43)) all0)
      exact Seg.retA rfl rfl rfl d2_58 (by decide) (by decide) ⟨b_43, rfl, E_67, F8⟩
    · refine Seg.callN (y' := (⟨"java/lang/String", "<init>", "([C)V"⟩ : MethodName)) (a := b_43) rfl (wd G 14 rfl) (wd G 15 rfl) (wd G 16 rfl) ⟨by decide, by decide⟩ (pays_str (W := 1) G [u0, u1] 2 h_54 F_57 F_58 F_59 A_53 rfl rfl (by decide) (by decide) (fun c hc => ⟨(hr c hc).1, fun q => hw ⟨c, hc, q⟩⟩) (List.mem_of_getElem? (i := 1) rfl) (by decide) (by decide)) (argsL := [(.ref b_46)]) (rest := [(.ref b_43)]) rfl (lenOf pd_17 rfl) rfl (Nat.le_of_eq rfl) rfl d2_55 (pc' := 58) rfl (k' := 3) (n' := 8) rfl rfl (by decide) (by decide) ?_
      intro v_68 h_71 sz_69 q_70
      obtain ⟨rfl, K8, F8⟩ := q_70
      have E_72 : Ext h0 h_48 := ext_tr E_44 E_47
      have E_73 : Ext h0 h_51 := ext_wr E_72 W_49 (Nat.le_trans E_44.1 (Nat.le_of_eq e_b_46))
      have E_74 : Ext h0 h_54 := ext_wr E_73 W_52 (Nat.le_trans E_44.1 (Nat.le_of_eq e_b_46))
      have E_75 : Ext h0 h_71 := ext_kp E_74 K8 (allS (Nat.le_trans (ext_rfl _).1 (Nat.le_of_eq e_b_43)) all0)
      exact Seg.retA rfl rfl rfl d2_58 (by decide) (by decide) ⟨b_43, rfl, E_75, F8⟩
  | 3, _ =>
    show Seg l Z a0 EL1 _ _ _ _ _ _ h0 0 0 [] 0 #[.val (.int (3 : Int32)), .val (.int u0), .val (.int u1), .val (.int u2)] []
    refine Seg.iloadN d2_0 rfl (pc' := 1) rfl ?_
    refine Seg.ifY (pc' := 15) d2_1 (by decide) (by decide) (by decide) ?_
    refine Seg.iloadN d2_15 rfl (pc' := 16) rfl ?_
    refine Seg.iconst (v := 1) d2_16 (by decide) (pc' := 17) rfl ?_
    refine Seg.icY (pc' := 35) d2_17 (by decide) (by decide) (by decide) ?_
    refine Seg.iloadN d2_35 rfl (pc' := 36) rfl ?_
    refine Seg.iconst (v := 2) d2_36 (by decide) (pc' := 37) rfl ?_
    refine Seg.icY (pc' := 59) d2_37 (by decide) (by decide) (by decide) ?_
    refine Seg.newO (wd G 10 rfl) (wd G 11 rfl) (wd G 12 rfl) d2_59 (pc' := 62) rfl (k' := 1) (n' := 4) rfl rfl (by decide) (by decide) ?_
    intro b_76 h_78 E_77 e_b_76 l_b_76 A_b_76 D_b_76
    have F_value_b_76 : Fld Z h_78 b_76 "java/lang/String" "value" "[B" Value.null := D_b_76 (Or.inr (wd G 26 rfl)) (ty := (.array .byte)) (by decide)
    have F_coder_b_76 : Fld Z h_78 b_76 "java/lang/String" "coder" "B" (.int (0 : Int32)) := D_b_76 (Or.inr (wd G 27 rfl)) (ty := .byte) (by decide)
    refine Seg.dup d2_62 rfl (pc' := 63) rfl ?_
    refine Seg.iconst (v := 3) d2_63 (by decide) (pc' := 64) rfl ?_
    refine Seg.newP (ty := .char) (dv := (.int 0)) rfl rfl (wd G 13 rfl) d2_64 (pc' := 66) rfl (by decide) (cap := 3) (by decide) (by decide) (k' := 2) (n' := 7) rfl rfl (by decide) (by decide) ?_
    intro b_79 h_81 k_b_79 E_80 e_b_79 l_b_79 A_b_79
    replace A_b_79 : Arv Z h_81 b_79 k_b_79 .char (3 : Int32) [(.int (0 : Int32)), (.int (0 : Int32)), (.int (0 : Int32))] (.int 0) := A_b_79.pad (pad_rep [] (.int 0) 3)
    refine Seg.dup d2_66 rfl (pc' := 67) rfl ?_
    refine Seg.iconst (v := 0) d2_67 (by decide) (pc' := 68) rfl ?_
    refine Seg.iloadN d2_68 rfl (pc' := 69) rfl ?_
    refine Seg.castore (v' := u0) (i := 0) A_b_79 ⟨by decide, by decide⟩ rfl (Nat.le_of_ble_eq_true rfl) (nar16 z0) (List.mem_of_getElem? (i := 0) rfl) d2_69 (pc' := 70) rfl ?_
    intro h_84 W_82 A_83
    replace A_83 : Arv Z h_84 b_79 k_b_79 .char (3 : Int32) [(.int u0), (.int (0 : Int32)), (.int (0 : Int32))] (.int 0) := A_83
    refine Seg.dup d2_70 rfl (pc' := 71) rfl ?_
    refine Seg.iconst (v := 1) d2_71 (by decide) (pc' := 72) rfl ?_
    refine Seg.iloadN d2_72 rfl (pc' := 73) rfl ?_
    refine Seg.castore (v' := u1) (i := 1) A_83 ⟨by decide, by decide⟩ rfl (Nat.le_of_ble_eq_true rfl) (nar16 z1) (List.mem_of_getElem? (i := 0) rfl) d2_73 (pc' := 74) rfl ?_
    intro h_87 W_85 A_86
    replace A_86 : Arv Z h_87 b_79 k_b_79 .char (3 : Int32) [(.int u0), (.int u1), (.int (0 : Int32))] (.int 0) := A_86
    refine Seg.dup d2_74 rfl (pc' := 75) rfl ?_
    refine Seg.iconst (v := 2) d2_75 (by decide) (pc' := 76) rfl ?_
    refine Seg.iloadN d2_76 rfl (pc' := 77) rfl ?_
    refine Seg.castore (v' := u2) (i := 2) A_86 ⟨by decide, by decide⟩ rfl (Nat.le_of_ble_eq_true rfl) (nar16 z2) (List.mem_of_getElem? (i := 0) rfl) d2_77 (pc' := 78) rfl ?_
    intro h_90 W_88 A_89
    replace A_89 : Arv Z h_90 b_79 k_b_79 .char (3 : Int32) [(.int u0), (.int u1), (.int u2)] (.int 0) := A_89
    have E_91 : Ext h_78 h_84 := ext_wr E_80 W_82 (Nat.le_trans (ext_rfl _).1 (Nat.le_of_eq e_b_79))
    have E_92 : Ext h_78 h_87 := ext_wr E_91 W_85 (Nat.le_trans (ext_rfl _).1 (Nat.le_of_eq e_b_79))
    have E_93 : Ext h_78 h_90 := ext_wr E_92 W_88 (Nat.le_trans (ext_rfl _).1 (Nat.le_of_eq e_b_79))
    have F_94 := A_b_76.ext E_93
    have F_95 := F_value_b_76.ext E_93
    have F_96 := F_coder_b_76.ext E_93
    have hr : ∀ c ∈ [u0, u1, u2], ¬ c < 0 ∧ ¬ (65535 : Int32) < c := (by intro c hc; simp only [List.mem_cons, List.not_mem_nil, or_false] at hc; rcases hc with rfl | rfl | rfl <;> assumption)
    by_cases hw : ∃ c ∈ [u0, u1, u2], (255 : Int32) < c
    · refine Seg.callN (y' := (⟨"java/lang/String", "<init>", "([C)V"⟩ : MethodName)) (a := b_76) rfl (wd G 14 rfl) (wd G 15 rfl) (wd G 16 rfl) ⟨by decide, by decide⟩ (Pays.of_ct (W := 1) (ct_siw3 G b_76 b_79 k_b_79 (.int 0) u0 u1 u2 .null (.int 0) h_90 F_94 F_95 F_96 A_89 hr hw) (allS (List.mem_of_getElem? (i := 1) rfl) all0) (wd G 16 rfl) (wd G 12 rfl) (by decide) (by decide) rfl rfl) (argsL := [(.ref b_79)]) (rest := [(.ref b_76)]) rfl (lenOf pd_17 rfl) rfl (Nat.le_of_eq rfl) rfl d2_78 (pc' := 81) rfl (k' := 4) (n' := 16) rfl rfl (by decide) (by decide) ?_
      intro v_97 h_100 sz_98 q_99
      obtain ⟨rfl, K8, F8⟩ := q_99
      have E_101 : Ext h0 h_81 := ext_tr E_77 E_80
      have E_102 : Ext h0 h_84 := ext_wr E_101 W_82 (Nat.le_trans E_77.1 (Nat.le_of_eq e_b_79))
      have E_103 : Ext h0 h_87 := ext_wr E_102 W_85 (Nat.le_trans E_77.1 (Nat.le_of_eq e_b_79))
      have E_104 : Ext h0 h_90 := ext_wr E_103 W_88 (Nat.le_trans E_77.1 (Nat.le_of_eq e_b_79))
      have E_105 : Ext h0 h_100 := ext_kp E_104 K8 (allS (Nat.le_trans (ext_rfl _).1 (Nat.le_of_eq e_b_76)) all0)
      exact Seg.retA rfl rfl rfl d2_81 (by decide) (by decide) ⟨b_76, rfl, E_105, F8⟩
    · refine Seg.callN (y' := (⟨"java/lang/String", "<init>", "([C)V"⟩ : MethodName)) (a := b_76) rfl (wd G 14 rfl) (wd G 15 rfl) (wd G 16 rfl) ⟨by decide, by decide⟩ (pays_str (W := 1) G [u0, u1, u2] 3 h_90 F_94 F_95 F_96 A_89 rfl rfl (by decide) (by decide) (fun c hc => ⟨(hr c hc).1, fun q => hw ⟨c, hc, q⟩⟩) (List.mem_of_getElem? (i := 1) rfl) (by decide) (by decide)) (argsL := [(.ref b_79)]) (rest := [(.ref b_76)]) rfl (lenOf pd_17 rfl) rfl (Nat.le_of_eq rfl) rfl d2_78 (pc' := 81) rfl (k' := 3) (n' := 10) rfl rfl (by decide) (by decide) ?_
      intro v_106 h_109 sz_107 q_108
      obtain ⟨rfl, K8, F8⟩ := q_108
      have E_110 : Ext h0 h_81 := ext_tr E_77 E_80
      have E_111 : Ext h0 h_84 := ext_wr E_110 W_82 (Nat.le_trans E_77.1 (Nat.le_of_eq e_b_79))
      have E_112 : Ext h0 h_87 := ext_wr E_111 W_85 (Nat.le_trans E_77.1 (Nat.le_of_eq e_b_79))
      have E_113 : Ext h0 h_90 := ext_wr E_112 W_88 (Nat.le_trans E_77.1 (Nat.le_of_eq e_b_79))
      have E_114 : Ext h0 h_109 := ext_kp E_113 K8 (allS (Nat.le_trans (ext_rfl _).1 (Nat.le_of_eq e_b_76)) all0)
      exact Seg.retA rfl rfl rfl d2_81 (by decide) (by decide) ⟨b_76, rfl, E_114, F8⟩
theorem d21_0 : decode method_5_code 0 = .ok (.aload_n 0, 1) := by decide +kernel
theorem d21_1 : decode method_5_code 1 = .ok (.iload_n 2, 1) := by decide +kernel
theorem d21_2 : decode method_5_code 2 = .ok (.caload, 1) := by decide +kernel
theorem d21_3 : decode method_5_code 3 = .ok (.istore_n 3, 1) := by decide +kernel
theorem d21_4 : decode method_5_code 4 = .ok (.iload_n 2, 1) := by decide +kernel
theorem d21_5 : decode method_5_code 5 = .ok (.iconst 1, 1) := by decide +kernel
theorem d21_6 : decode method_5_code 6 = .ok (.iadd, 1) := by decide +kernel
theorem d21_7 : decode method_5_code 7 = .ok (.iload_n 1, 1) := by decide +kernel
theorem d21_8 : decode method_5_code 8 = .ok (.if_icmp .ge 53, 3) := by decide +kernel
theorem d21_11 : decode method_5_code 11 = .ok (.iload_n 3, 1) := by decide +kernel
theorem d21_12 : decode method_5_code 12 = .ok (.ldc 35, 2) := by decide +kernel
theorem d21_14 : decode method_5_code 14 = .ok (.if_icmp .lt 47, 3) := by decide +kernel
theorem d21_61 : decode method_5_code 61 = .ok (.iload_n 3, 1) := by decide +kernel
theorem d21_62 : decode method_5_code 62 = .ok (.ireturn, 1) := by decide +kernel
theorem d21_17 : decode method_5_code 17 = .ok (.iload_n 3, 1) := by decide +kernel
theorem d21_18 : decode method_5_code 18 = .ok (.ldc 43, 2) := by decide +kernel
theorem d21_20 : decode method_5_code 20 = .ok (.if_icmp .gt 41, 3) := by decide +kernel
theorem d21_23 : decode method_5_code 23 = .ok (.aload_n 0, 1) := by decide +kernel
theorem d21_24 : decode method_5_code 24 = .ok (.iload_n 2, 1) := by decide +kernel
theorem d21_25 : decode method_5_code 25 = .ok (.iconst 1, 1) := by decide +kernel
theorem d21_26 : decode method_5_code 26 = .ok (.iadd, 1) := by decide +kernel
theorem d21_27 : decode method_5_code 27 = .ok (.caload, 1) := by decide +kernel
theorem d21_28 : decode method_5_code 28 = .ok (.istore 4, 2) := by decide +kernel
theorem d21_30 : decode method_5_code 30 = .ok (.iload 4, 2) := by decide +kernel
theorem d21_32 : decode method_5_code 32 = .ok (.ldc 36, 2) := by decide +kernel
theorem d21_34 : decode method_5_code 34 = .ok (.if_icmp .lt 27, 3) := by decide +kernel
theorem d21_37 : decode method_5_code 37 = .ok (.iload 4, 2) := by decide +kernel
theorem d21_39 : decode method_5_code 39 = .ok (.ldc 44, 2) := by decide +kernel
theorem d21_41 : decode method_5_code 41 = .ok (.if_icmp .gt 20, 3) := by decide +kernel
theorem d21_44 : decode method_5_code 44 = .ok (.ldc 45, 2) := by decide +kernel
theorem d21_46 : decode method_5_code 46 = .ok (.iload_n 3, 1) := by decide +kernel
theorem d21_47 : decode method_5_code 47 = .ok (.ldc 35, 2) := by decide +kernel
theorem d21_49 : decode method_5_code 49 = .ok (.isub, 1) := by decide +kernel
theorem d21_50 : decode method_5_code 50 = .ok (.bipush 10, 2) := by decide +kernel
theorem d21_52 : decode method_5_code 52 = .ok (.ishl, 1) := by decide +kernel
theorem d21_53 : decode method_5_code 53 = .ok (.iadd, 1) := by decide +kernel
theorem d21_54 : decode method_5_code 54 = .ok (.iload 4, 2) := by decide +kernel
theorem d21_56 : decode method_5_code 56 = .ok (.ldc 36, 2) := by decide +kernel
theorem d21_58 : decode method_5_code 58 = .ok (.isub, 1) := by decide +kernel
theorem d21_59 : decode method_5_code 59 = .ok (.iadd, 1) := by decide +kernel
theorem d21_60 : decode method_5_code 60 = .ok (.ireturn, 1) := by decide +kernel
theorem ef_ct_cp (a : Addr) (ka : ClassId) (ds : List Int32) (n : Nat) (i : Nat) (m : MethodId) : entryFrame m #[(.ref a), (.int (Int32.ofNat n)), (.int (Int32.ofNat i))] 5 = mkF m 0 #[.val (.ref a), .val (.int (Int32.ofNat n)), .val (.int (Int32.ofNat i)), .unset, .unset] [] := by first | (simp [entryFrame, mkF, argsToLocals, Value.category]; done) | rfl
set_option maxRecDepth 65536 in
set_option maxHeartbeats 4000000 in
theorem ct_cp {l : Launch} {Z : State} {a0 : Array Value} (G : Env1 Z a0) (a : Addr) (ka : ClassId) (ds : List Int32) (n : Nat) (i : Nat) (h0 : Heap) (K : Arv Z h0 a ka .char 3 (ds.map Value.int) (.int 0)) (hd : ds.length = 3) (hn : n ≤ 3) (hi : i < n) :
    Ct l Z EL1 [] [] (⟨"com/example/erne/erne/SummaryCompareNamesPinLaw", "cp", "([CII)I"⟩ : MethodName) method_5_code 5 (some .int) ({ frames := 0, cells := 0, slots := 0, locals := 0 } : Room) #[(.ref a), (.int (Int32.ofNat n)), (.int (Int32.ofNat i))] h0 (fun v h => v = some (.int (cpA (ds.take n) i)) ∧ h0 = h) := by
  refine Ct.of_seg (a0 := a0) (plainFor_of_name pn_com_example_erne_erne_SummaryCompareNamesPinLaw) G.2.1 (ef_ct_cp a ka ds n i) ?_
  refine Seg.aloadN d21_0 rfl rfl (pc' := 1) rfl ?_
  refine Seg.iloadN d21_1 rfl (pc' := 2) rfl ?_
  refine Seg.caload (v := (.int (ds.getD i 0))) K (n32in (n := 3) (by omega) (by decide)) (by rw [n32c (by omega)]; exact getDmap _ _ _ _ _ (by omega)) d21_2 (pc' := 3) rfl ?_
  refine Seg.istoreN (L' := #[.val (.ref a), .val (.int (Int32.ofNat n)), .val (.int (Int32.ofNat i)), .val (.int (ds.getD i 0)), .unset]) d21_3 rfl (pc' := 4) rfl ?_
  refine Seg.iloadN d21_4 rfl (pc' := 5) rfl ?_
  refine Seg.iconst (v := 1) d21_5 (by decide) (pc' := 6) rfl ?_
  refine Seg.iadd (v := (Int32.ofNat (i + 1))) d21_6 (n32s i) (pc' := 7) rfl ?_
  refine Seg.iloadN d21_7 rfl (pc' := 8) rfl ?_
  by_cases h1 : i + 1 < n
  · refine Seg.icN d21_8 (XT.ii_ge_f (n32lt h1 (by omega))) (pc' := 11) rfl ?_
    refine Seg.iloadN d21_11 rfl (pc' := 12) rfl ?_
    refine Seg.ldcI (wd G 6 rfl) d21_12 (pc' := 14) rfl ?_
    by_cases h2 : (ds.getD i 0) < 55296
    · refine Seg.icY (pc' := 61) d21_14 (XT.ii_lt_t h2) (by decide) (by decide) ?_
      refine Seg.iloadN d21_61 rfl (pc' := 62) rfl ?_
      exact Seg.retI rfl d21_62 (by decide) (by decide) ⟨by rw [cpTn hd hn hi (fun p1 p2 p3 => p2.1 h2)], rfl⟩
    · refine Seg.icN d21_14 (XT.ii_lt_f h2) (pc' := 17) rfl ?_
      refine Seg.iloadN d21_17 rfl (pc' := 18) rfl ?_
      refine Seg.ldcI (wd G 94 rfl) d21_18 (pc' := 20) rfl ?_
      by_cases h3 : (56319 : Int32) < (ds.getD i 0)
      · refine Seg.icY (pc' := 61) d21_20 (XT.ii_gt_t h3) (by decide) (by decide) ?_
        refine Seg.iloadN d21_61 rfl (pc' := 62) rfl ?_
        exact Seg.retI rfl d21_62 (by decide) (by decide) ⟨by rw [cpTn hd hn hi (fun p1 p2 p3 => gtH h3 p2.2)], rfl⟩
      · refine Seg.icN d21_20 (XT.ii_gt_f h3) (pc' := 23) rfl ?_
        refine Seg.aloadN d21_23 rfl rfl (pc' := 24) rfl ?_
        refine Seg.iloadN d21_24 rfl (pc' := 25) rfl ?_
        refine Seg.iconst (v := 1) d21_25 (by decide) (pc' := 26) rfl ?_
        refine Seg.iadd (v := (Int32.ofNat (i + 1))) d21_26 (n32s i) (pc' := 27) rfl ?_
        refine Seg.caload (v := (.int (ds.getD (i + 1) 0))) K (n32in (n := 3) (by omega) (by decide)) (by rw [n32c (by omega)]; exact getDmap _ _ _ _ _ (by omega)) d21_27 (pc' := 28) rfl ?_
        refine Seg.istore (L' := #[.val (.ref a), .val (.int (Int32.ofNat n)), .val (.int (Int32.ofNat i)), .val (.int (ds.getD i 0)), .val (.int (ds.getD (i + 1) 0))]) d21_28 rfl (pc' := 30) rfl ?_
        refine Seg.iload d21_30 rfl (pc' := 32) rfl ?_
        refine Seg.ldcI (wd G 5 rfl) d21_32 (pc' := 34) rfl ?_
        by_cases h4 : (ds.getD (i + 1) 0) < 56320
        · refine Seg.icY (pc' := 61) d21_34 (XT.ii_lt_t h4) (by decide) (by decide) ?_
          refine Seg.iloadN d21_61 rfl (pc' := 62) rfl ?_
          exact Seg.retI rfl d21_62 (by decide) (by decide) ⟨by rw [cpTn hd hn hi (fun p1 p2 p3 => p3.1 h4)], rfl⟩
        · refine Seg.icN d21_34 (XT.ii_lt_f h4) (pc' := 37) rfl ?_
          refine Seg.iload d21_37 rfl (pc' := 39) rfl ?_
          refine Seg.ldcI (wd G 129 rfl) d21_39 (pc' := 41) rfl ?_
          by_cases h5 : (57343 : Int32) < (ds.getD (i + 1) 0)
          · refine Seg.icY (pc' := 61) d21_41 (XT.ii_gt_t h5) (by decide) (by decide) ?_
            refine Seg.iloadN d21_61 rfl (pc' := 62) rfl ?_
            exact Seg.retI rfl d21_62 (by decide) (by decide) ⟨by rw [cpTn hd hn hi (fun p1 p2 p3 => gtL h5 p3.2)], rfl⟩
          · refine Seg.icN d21_41 (XT.ii_gt_f h5) (pc' := 44) rfl ?_
            refine Seg.ldcI (wd G 93 rfl) d21_44 (pc' := 46) rfl ?_
            refine Seg.iloadN d21_46 rfl (pc' := 47) rfl ?_
            refine Seg.ldcI (wd G 6 rfl) d21_47 (pc' := 49) rfl ?_
            refine Seg.isub (v := ((ds.getD i 0) - (55296 : Int32))) d21_49 rfl (pc' := 50) rfl ?_
            refine Seg.bipush (v := 10) d21_50 (by decide) (pc' := 52) rfl ?_
            refine Seg.ishl (v := (((ds.getD i 0) - (55296 : Int32)) <<< ((10 : Int32) &&& 31))) d21_52 rfl (pc' := 53) rfl ?_
            refine Seg.iadd (v := ((65536 : Int32) + (((ds.getD i 0) - (55296 : Int32)) <<< ((10 : Int32) &&& 31)))) d21_53 rfl (pc' := 54) rfl ?_
            refine Seg.iload d21_54 rfl (pc' := 56) rfl ?_
            refine Seg.ldcI (wd G 5 rfl) d21_56 (pc' := 58) rfl ?_
            refine Seg.isub (v := ((ds.getD (i + 1) 0) - (56320 : Int32))) d21_58 rfl (pc' := 59) rfl ?_
            refine Seg.iadd (v := (((65536 : Int32) + (((ds.getD i 0) - (55296 : Int32)) <<< ((10 : Int32) &&& 31))) + ((ds.getD (i + 1) 0) - (56320 : Int32)))) d21_59 rfl (pc' := 60) rfl ?_
            exact Seg.retI rfl d21_60 (by decide) (by decide) ⟨by rw [cpTy hd hn h1 ⟨h2, leH h3⟩ ⟨h4, leL h5⟩], rfl⟩
  · refine Seg.icY (pc' := 61) d21_8 (XT.ii_ge_t (n32nlt (by omega) (by omega))) (by decide) (by decide) ?_
    refine Seg.iloadN d21_61 rfl (pc' := 62) rfl ?_
    exact Seg.retI rfl d21_62 (by decide) (by decide) ⟨by rw [cpTn hd hn hi (fun p1 p2 p3 => h1 p1)], rfl⟩
theorem d6_0 : decode method_6_code 0 = .ok (.iconst 4, 1) := by decide +kernel
theorem d6_1 : decode method_6_code 1 = .ok (.newarray .int, 2) := by decide +kernel
theorem d6_3 : decode method_6_code 3 = .ok (.astore_n 2, 1) := by decide +kernel
theorem d6_4 : decode method_6_code 4 = .ok (.iconst 0, 1) := by decide +kernel
theorem d6_5 : decode method_6_code 5 = .ok (.istore_n 3, 1) := by decide +kernel
theorem d6_6 : decode method_6_code 6 = .ok (.iconst 0, 1) := by decide +kernel
theorem d6_7 : decode method_6_code 7 = .ok (.istore 4, 2) := by decide +kernel
theorem d6_9 : decode method_6_code 9 = .ok (.iload_n 3, 1) := by decide +kernel
theorem d6_10 : decode method_6_code 10 = .ok (.iload_n 1, 1) := by decide +kernel
theorem d6_11 : decode method_6_code 11 = .ok (.if_icmp .ge 33, 3) := by decide +kernel
theorem d6_44 : decode method_6_code 44 = .ok (.iload_n 3, 1) := by decide +kernel
theorem d6_45 : decode method_6_code 45 = .ok (.iload_n 1, 1) := by decide +kernel
theorem d6_46 : decode method_6_code 46 = .ok (.if_icmp .ge 33, 3) := by decide +kernel
theorem d6_79 : decode method_6_code 79 = .ok (.iload_n 3, 1) := by decide +kernel
theorem d6_80 : decode method_6_code 80 = .ok (.iload_n 1, 1) := by decide +kernel
theorem d6_81 : decode method_6_code 81 = .ok (.if_icmp .ge 33, 3) := by decide +kernel
theorem d6_114 : decode method_6_code 114 = .ok (.aload_n 2, 1) := by decide +kernel
theorem d6_115 : decode method_6_code 115 = .ok (.iconst 3, 1) := by decide +kernel
theorem d6_116 : decode method_6_code 116 = .ok (.iload 4, 2) := by decide +kernel
theorem d6_118 : decode method_6_code 118 = .ok (.iastore, 1) := by decide +kernel
theorem d6_119 : decode method_6_code 119 = .ok (.aload_n 2, 1) := by decide +kernel
theorem d6_120 : decode method_6_code 120 = .ok (.areturn, 1) := by decide +kernel
theorem d6_14 : decode method_6_code 14 = .ok (.aload_n 2, 1) := by decide +kernel
theorem d6_15 : decode method_6_code 15 = .ok (.iload 4, 2) := by decide +kernel
theorem d6_17 : decode method_6_code 17 = .ok (.aload_n 0, 1) := by decide +kernel
theorem d6_18 : decode method_6_code 18 = .ok (.iload_n 1, 1) := by decide +kernel
theorem d6_19 : decode method_6_code 19 = .ok (.iload_n 3, 1) := by decide +kernel
theorem d6_20 : decode method_6_code 20 = .ok (.invokestatic 46, 3) := by decide +kernel
theorem pd_18 : parseMethodDescriptor "([CII)I" = some ⟨[(.array .char), .int, .int], some .int⟩ := by decide +kernel
theorem d6_23 : decode method_6_code 23 = .ok (.iastore, 1) := by decide +kernel
theorem d6_24 : decode method_6_code 24 = .ok (.iload_n 3, 1) := by decide +kernel
theorem d6_25 : decode method_6_code 25 = .ok (.aload_n 2, 1) := by decide +kernel
theorem d6_26 : decode method_6_code 26 = .ok (.iload 4, 2) := by decide +kernel
theorem d6_28 : decode method_6_code 28 = .ok (.iaload, 1) := by decide +kernel
theorem d6_29 : decode method_6_code 29 = .ok (.ldc 45, 2) := by decide +kernel
theorem d6_31 : decode method_6_code 31 = .ok (.if_icmp .lt 7, 3) := by decide +kernel
theorem d6_38 : decode method_6_code 38 = .ok (.iconst 1, 1) := by decide +kernel
theorem d6_39 : decode method_6_code 39 = .ok (.iadd, 1) := by decide +kernel
theorem d6_40 : decode method_6_code 40 = .ok (.istore_n 3, 1) := by decide +kernel
theorem d6_41 : decode method_6_code 41 = .ok (.iinc 4 1, 3) := by decide +kernel
theorem d6_34 : decode method_6_code 34 = .ok (.iconst 2, 1) := by decide +kernel
theorem d6_35 : decode method_6_code 35 = .ok (.goto 4, 3) := by decide +kernel
theorem d6_49 : decode method_6_code 49 = .ok (.aload_n 2, 1) := by decide +kernel
theorem d6_50 : decode method_6_code 50 = .ok (.iload 4, 2) := by decide +kernel
theorem d6_52 : decode method_6_code 52 = .ok (.aload_n 0, 1) := by decide +kernel
theorem d6_53 : decode method_6_code 53 = .ok (.iload_n 1, 1) := by decide +kernel
theorem d6_54 : decode method_6_code 54 = .ok (.iload_n 3, 1) := by decide +kernel
theorem d6_55 : decode method_6_code 55 = .ok (.invokestatic 46, 3) := by decide +kernel
theorem d6_58 : decode method_6_code 58 = .ok (.iastore, 1) := by decide +kernel
theorem d6_59 : decode method_6_code 59 = .ok (.iload_n 3, 1) := by decide +kernel
theorem d6_60 : decode method_6_code 60 = .ok (.aload_n 2, 1) := by decide +kernel
theorem d6_61 : decode method_6_code 61 = .ok (.iload 4, 2) := by decide +kernel
theorem d6_63 : decode method_6_code 63 = .ok (.iaload, 1) := by decide +kernel
theorem d6_64 : decode method_6_code 64 = .ok (.ldc 45, 2) := by decide +kernel
theorem d6_66 : decode method_6_code 66 = .ok (.if_icmp .lt 7, 3) := by decide +kernel
theorem d6_73 : decode method_6_code 73 = .ok (.iconst 1, 1) := by decide +kernel
theorem d6_74 : decode method_6_code 74 = .ok (.iadd, 1) := by decide +kernel
theorem d6_75 : decode method_6_code 75 = .ok (.istore_n 3, 1) := by decide +kernel
theorem d6_76 : decode method_6_code 76 = .ok (.iinc 4 1, 3) := by decide +kernel
theorem d6_69 : decode method_6_code 69 = .ok (.iconst 2, 1) := by decide +kernel
theorem d6_70 : decode method_6_code 70 = .ok (.goto 4, 3) := by decide +kernel
theorem d6_84 : decode method_6_code 84 = .ok (.aload_n 2, 1) := by decide +kernel
theorem d6_85 : decode method_6_code 85 = .ok (.iload 4, 2) := by decide +kernel
theorem d6_87 : decode method_6_code 87 = .ok (.aload_n 0, 1) := by decide +kernel
theorem d6_88 : decode method_6_code 88 = .ok (.iload_n 1, 1) := by decide +kernel
theorem d6_89 : decode method_6_code 89 = .ok (.iload_n 3, 1) := by decide +kernel
theorem d6_90 : decode method_6_code 90 = .ok (.invokestatic 46, 3) := by decide +kernel
theorem d6_93 : decode method_6_code 93 = .ok (.iastore, 1) := by decide +kernel
theorem d6_94 : decode method_6_code 94 = .ok (.iload_n 3, 1) := by decide +kernel
theorem d6_95 : decode method_6_code 95 = .ok (.aload_n 2, 1) := by decide +kernel
theorem d6_96 : decode method_6_code 96 = .ok (.iload 4, 2) := by decide +kernel
theorem d6_98 : decode method_6_code 98 = .ok (.iaload, 1) := by decide +kernel
theorem d6_99 : decode method_6_code 99 = .ok (.ldc 45, 2) := by decide +kernel
theorem d6_101 : decode method_6_code 101 = .ok (.if_icmp .lt 7, 3) := by decide +kernel
theorem d6_108 : decode method_6_code 108 = .ok (.iconst 1, 1) := by decide +kernel
theorem d6_109 : decode method_6_code 109 = .ok (.iadd, 1) := by decide +kernel
theorem d6_110 : decode method_6_code 110 = .ok (.istore_n 3, 1) := by decide +kernel
theorem d6_111 : decode method_6_code 111 = .ok (.iinc 4 1, 3) := by decide +kernel
theorem d6_104 : decode method_6_code 104 = .ok (.iconst 2, 1) := by decide +kernel
theorem d6_105 : decode method_6_code 105 = .ok (.goto 4, 3) := by decide +kernel
theorem ef_ct_pts (a : Addr) (ka : ClassId) (ds : List Int32) (n : Nat) (m : MethodId) : entryFrame m #[(.ref a), (.int (Int32.ofNat n))] 5 = mkF m 0 #[.val (.ref a), .val (.int (Int32.ofNat n)), .unset, .unset, .unset] [] := by first | (simp [entryFrame, mkF, argsToLocals, Value.category]; done) | rfl
set_option maxRecDepth 65536 in
set_option maxHeartbeats 4000000 in
theorem ct_pts {l : Launch} {Z : State} {a0 : Array Value} (G : Env1 Z a0) (a : Addr) (ka : ClassId) (ds : List Int32) (n : Nat) (h0 : Heap) (K : Arv Z h0 a ka .char 3 (ds.map Value.int) (.int 0)) (hd : ds.length = 3) (hn : n < 4) :
    Ct l Z EL1 [] [] (⟨"com/example/erne/erne/SummaryCompareNamesPinLaw", "points", "([CI)[I"⟩ : MethodName) method_6_code 5 (some (.array .int)) ({ frames := 1, cells := 1, slots := 4, locals := 18 } : Room) #[(.ref a), (.int (Int32.ofNat n))] h0 (fun v h => ∃ (r : Addr) (kr : ClassId) (q0 q1 q2 : Int32) (k : Nat), v = some (.ref r) ∧ Ext h0 h ∧ Arv Z h r kr .int 4 [.int q0, .int q1, .int q2, .int (Int32.ofNat k)] (.int 0) ∧ k ≤ 3 ∧ ptsF 3 (ds.take n) 0 = [q0, q1, q2].take k) := by
  refine Ct.of_seg (a0 := a0) (plainFor_of_name pn_com_example_erne_erne_SummaryCompareNamesPinLaw) G.2.1 (ef_ct_pts a ka ds n) ?_
  match n, hn with
  | 0, _ =>
    show Seg l Z a0 EL1 _ _ _ _ _ _ h0 0 0 [] 0 #[.val (.ref a), .val (.int (0 : Int32)), .unset, .unset, .unset] []
    have hC : (ds.take 0).length = 0 := by rw [List.length_take, hd]; decide
    refine Seg.iconst (v := 4) d6_0 (by decide) (pc' := 1) rfl ?_
    refine Seg.newP (ty := .int) (dv := (.int 0)) rfl rfl (wd G 35 rfl) d6_1 (pc' := 3) rfl (by decide) (cap := 4) (by decide) (by decide) (k' := 1) (n' := 4) rfl rfl (by decide) (by decide) ?_
    intro b_1 h_3 k_b_1 E_2 e_b_1 l_b_1 A_b_1
    replace A_b_1 : Arv Z h_3 b_1 k_b_1 .int (4 : Int32) [(.int (0 : Int32)), (.int (0 : Int32)), (.int (0 : Int32)), (.int (0 : Int32))] (.int 0) := A_b_1.pad (pad_rep [] (.int 0) 4)
    refine Seg.astoreN (L' := #[.val (.ref a), .val (.int (0 : Int32)), .val (.ref b_1), .unset, .unset]) d6_3 rfl rfl (pc' := 4) rfl ?_
    refine Seg.iconst (v := 0) d6_4 (by decide) (pc' := 5) rfl ?_
    refine Seg.istoreN (L' := #[.val (.ref a), .val (.int (0 : Int32)), .val (.ref b_1), .val (.int (0 : Int32)), .unset]) d6_5 rfl (pc' := 6) rfl ?_
    refine Seg.iconst (v := 0) d6_6 (by decide) (pc' := 7) rfl ?_
    refine Seg.istore (L' := #[.val (.ref a), .val (.int (0 : Int32)), .val (.ref b_1), .val (.int (0 : Int32)), .val (.int (0 : Int32))]) d6_7 rfl (pc' := 9) rfl ?_
    refine Seg.iloadN d6_9 rfl (pc' := 10) rfl ?_
    refine Seg.iloadN d6_10 rfl (pc' := 11) rfl ?_
    refine Seg.icY (pc' := 44) d6_11 (by decide) (by decide) (by decide) ?_
    refine Seg.iloadN d6_44 rfl (pc' := 45) rfl ?_
    refine Seg.iloadN d6_45 rfl (pc' := 46) rfl ?_
    refine Seg.icY (pc' := 79) d6_46 (by decide) (by decide) (by decide) ?_
    refine Seg.iloadN d6_79 rfl (pc' := 80) rfl ?_
    refine Seg.iloadN d6_80 rfl (pc' := 81) rfl ?_
    refine Seg.icY (pc' := 114) d6_81 (by decide) (by decide) (by decide) ?_
    refine Seg.aloadN d6_114 rfl rfl (pc' := 115) rfl ?_
    refine Seg.iconst (v := 3) d6_115 (by decide) (pc' := 116) rfl ?_
    refine Seg.iload d6_116 rfl (pc' := 118) rfl ?_
    refine Seg.iastore (i := 3) A_b_1 ⟨by decide, by decide⟩ rfl (Nat.le_of_ble_eq_true rfl) (List.mem_of_getElem? (i := 0) rfl) d6_118 (pc' := 119) rfl ?_
    intro h_6 W_4 A_5
    replace A_5 : Arv Z h_6 b_1 k_b_1 .int (4 : Int32) [(.int (0 : Int32)), (.int (0 : Int32)), (.int (0 : Int32)), (.int (0 : Int32))] (.int 0) := A_5
    refine Seg.aloadN d6_119 rfl rfl (pc' := 120) rfl ?_
    have E_7 : Ext h0 h_6 := ext_wr E_2 W_4 (Nat.le_trans (ext_rfl _).1 (Nat.le_of_eq e_b_1))
    exact Seg.retA rfl rfl rfl d6_120 (by decide) (by decide) ⟨b_1, k_b_1, (0 : Int32), (0 : Int32), (0 : Int32), 0, rfl, E_7, A_5, by decide, ptsN (by rw [hC]; decide)⟩
  | 1, _ =>
    show Seg l Z a0 EL1 _ _ _ _ _ _ h0 0 0 [] 0 #[.val (.ref a), .val (.int (1 : Int32)), .unset, .unset, .unset] []
    have hC : (ds.take 1).length = 1 := by rw [List.length_take, hd]; decide
    refine Seg.iconst (v := 4) d6_0 (by decide) (pc' := 1) rfl ?_
    refine Seg.newP (ty := .int) (dv := (.int 0)) rfl rfl (wd G 35 rfl) d6_1 (pc' := 3) rfl (by decide) (cap := 4) (by decide) (by decide) (k' := 1) (n' := 4) rfl rfl (by decide) (by decide) ?_
    intro b_8 h_10 k_b_8 E_9 e_b_8 l_b_8 A_b_8
    replace A_b_8 : Arv Z h_10 b_8 k_b_8 .int (4 : Int32) [(.int (0 : Int32)), (.int (0 : Int32)), (.int (0 : Int32)), (.int (0 : Int32))] (.int 0) := A_b_8.pad (pad_rep [] (.int 0) 4)
    refine Seg.astoreN (L' := #[.val (.ref a), .val (.int (1 : Int32)), .val (.ref b_8), .unset, .unset]) d6_3 rfl rfl (pc' := 4) rfl ?_
    refine Seg.iconst (v := 0) d6_4 (by decide) (pc' := 5) rfl ?_
    refine Seg.istoreN (L' := #[.val (.ref a), .val (.int (1 : Int32)), .val (.ref b_8), .val (.int (0 : Int32)), .unset]) d6_5 rfl (pc' := 6) rfl ?_
    refine Seg.iconst (v := 0) d6_6 (by decide) (pc' := 7) rfl ?_
    refine Seg.istore (L' := #[.val (.ref a), .val (.int (1 : Int32)), .val (.ref b_8), .val (.int (0 : Int32)), .val (.int (0 : Int32))]) d6_7 rfl (pc' := 9) rfl ?_
    refine Seg.iloadN d6_9 rfl (pc' := 10) rfl ?_
    refine Seg.iloadN d6_10 rfl (pc' := 11) rfl ?_
    refine Seg.icN d6_11 (by decide) (pc' := 14) rfl ?_
    refine Seg.aloadN d6_14 rfl rfl (pc' := 15) rfl ?_
    refine Seg.iload d6_15 rfl (pc' := 17) rfl ?_
    refine Seg.aloadN d6_17 rfl rfl (pc' := 18) rfl ?_
    refine Seg.iloadN d6_18 rfl (pc' := 19) rfl ?_
    refine Seg.iloadN d6_19 rfl (pc' := 20) rfl ?_
    have F_11 := K.ext E_9
    refine Seg.callS (y' := (⟨"com/example/erne/erne/SummaryCompareNamesPinLaw", "cp", "([CII)I"⟩ : MethodName)) (wd G 90 rfl) (wd G 91 rfl) (wd G 2 rfl) (wd G 92 rfl) ⟨by decide, by decide⟩ (Pays.of_ct (W := 2) (ct_cp G a ka ds 1 0 h_10 F_11 hd (by decide) (by decide)) all0 (wd G 92 rfl) (wd G 2 rfl) (by decide) (by decide) rfl rfl) (argsL := [(.ref a), (.int (1 : Int32)), (.int (0 : Int32))]) (rest := [(.int (0 : Int32)), (.ref b_8)]) rfl (lenOf pd_18 rfl) rfl (Nat.le_of_eq rfl) rfl d6_20 (pc' := 23) rfl (k' := 1) (n' := 4) rfl rfl (by decide) (by decide) ?_
    intro v_12 h_15 sz_13 q_14
    obtain ⟨rfl, rfl⟩ := q_14
    refine Seg.iastore (i := 0) A_b_8 ⟨by decide, by decide⟩ rfl (Nat.le_of_ble_eq_true rfl) (List.mem_of_getElem? (i := 0) rfl) d6_23 (pc' := 24) rfl ?_
    intro h_18 W_16 A_17
    replace A_17 : Arv Z h_18 b_8 k_b_8 .int (4 : Int32) [(.int (cpA (ds.take 1) 0)), (.int (0 : Int32)), (.int (0 : Int32)), (.int (0 : Int32))] (.int 0) := A_17
    refine Seg.iloadN d6_24 rfl (pc' := 25) rfl ?_
    refine Seg.aloadN d6_25 rfl rfl (pc' := 26) rfl ?_
    refine Seg.iload d6_26 rfl (pc' := 28) rfl ?_
    refine Seg.iaload (v := (.int (cpA (ds.take 1) 0))) A_17 ⟨by decide, by decide⟩ rfl d6_28 (pc' := 29) rfl ?_
    refine Seg.ldcI (wd G 93 rfl) d6_29 (pc' := 31) rfl ?_
    by_cases q0 : cpA (ds.take 1) 0 < 65536
    · refine Seg.icY (pc' := 38) d6_31 (XT.ii_lt_t q0) (by decide) (by decide) ?_
      refine Seg.iconst (v := 1) d6_38 (by decide) (pc' := 39) rfl ?_
      refine Seg.iadd (v := (1 : Int32)) d6_39 (by decide) (pc' := 40) rfl ?_
      refine Seg.istoreN (L' := #[.val (.ref a), .val (.int (1 : Int32)), .val (.ref b_8), .val (.int (1 : Int32)), .val (.int (0 : Int32))]) d6_40 rfl (pc' := 41) rfl ?_
      refine Seg.iinc (v := 1) (z := (1 : Int32)) (L' := #[.val (.ref a), .val (.int (1 : Int32)), .val (.ref b_8), .val (.int (1 : Int32)), .val (.int (1 : Int32))]) d6_41 (by decide) rfl (by decide) rfl (pc' := 44) rfl ?_
      refine Seg.iloadN d6_44 rfl (pc' := 45) rfl ?_
      refine Seg.iloadN d6_45 rfl (pc' := 46) rfl ?_
      refine Seg.icY (pc' := 79) d6_46 (by decide) (by decide) (by decide) ?_
      refine Seg.iloadN d6_79 rfl (pc' := 80) rfl ?_
      refine Seg.iloadN d6_80 rfl (pc' := 81) rfl ?_
      refine Seg.icY (pc' := 114) d6_81 (by decide) (by decide) (by decide) ?_
      refine Seg.aloadN d6_114 rfl rfl (pc' := 115) rfl ?_
      refine Seg.iconst (v := 3) d6_115 (by decide) (pc' := 116) rfl ?_
      refine Seg.iload d6_116 rfl (pc' := 118) rfl ?_
      refine Seg.iastore (i := 3) A_17 ⟨by decide, by decide⟩ rfl (Nat.le_of_ble_eq_true rfl) (List.mem_of_getElem? (i := 0) rfl) d6_118 (pc' := 119) rfl ?_
      intro h_21 W_19 A_20
      replace A_20 : Arv Z h_21 b_8 k_b_8 .int (4 : Int32) [(.int (cpA (ds.take 1) 0)), (.int (0 : Int32)), (.int (0 : Int32)), (.int (1 : Int32))] (.int 0) := A_20
      refine Seg.aloadN d6_119 rfl rfl (pc' := 120) rfl ?_
      have E_22 : Ext h0 h_18 := ext_wr E_9 W_16 (Nat.le_trans (ext_rfl _).1 (Nat.le_of_eq e_b_8))
      have E_23 : Ext h0 h_21 := ext_wr E_22 W_19 (Nat.le_trans (ext_rfl _).1 (Nat.le_of_eq e_b_8))
      exact Seg.retA rfl rfl rfl d6_120 (by decide) (by decide) ⟨b_8, k_b_8, (cpA (ds.take 1) 0), (0 : Int32), (0 : Int32), 1, rfl, E_23, A_20, by decide, (ptsY (by rw [hC]; decide) q0).trans (congrArg (List.cons _) (ptsN (by rw [hC]; decide)))⟩
    · refine Seg.icN d6_31 (XT.ii_lt_f q0) (pc' := 34) rfl ?_
      refine Seg.iconst (v := 2) d6_34 (by decide) (pc' := 35) rfl ?_
      refine Seg.goto (pc' := 39) d6_35 (by decide) (by decide) ?_
      refine Seg.iadd (v := (2 : Int32)) d6_39 (by decide) (pc' := 40) rfl ?_
      refine Seg.istoreN (L' := #[.val (.ref a), .val (.int (1 : Int32)), .val (.ref b_8), .val (.int (2 : Int32)), .val (.int (0 : Int32))]) d6_40 rfl (pc' := 41) rfl ?_
      refine Seg.iinc (v := 1) (z := (1 : Int32)) (L' := #[.val (.ref a), .val (.int (1 : Int32)), .val (.ref b_8), .val (.int (2 : Int32)), .val (.int (1 : Int32))]) d6_41 (by decide) rfl (by decide) rfl (pc' := 44) rfl ?_
      refine Seg.iloadN d6_44 rfl (pc' := 45) rfl ?_
      refine Seg.iloadN d6_45 rfl (pc' := 46) rfl ?_
      refine Seg.icY (pc' := 79) d6_46 (by decide) (by decide) (by decide) ?_
      refine Seg.iloadN d6_79 rfl (pc' := 80) rfl ?_
      refine Seg.iloadN d6_80 rfl (pc' := 81) rfl ?_
      refine Seg.icY (pc' := 114) d6_81 (by decide) (by decide) (by decide) ?_
      refine Seg.aloadN d6_114 rfl rfl (pc' := 115) rfl ?_
      refine Seg.iconst (v := 3) d6_115 (by decide) (pc' := 116) rfl ?_
      refine Seg.iload d6_116 rfl (pc' := 118) rfl ?_
      refine Seg.iastore (i := 3) A_17 ⟨by decide, by decide⟩ rfl (Nat.le_of_ble_eq_true rfl) (List.mem_of_getElem? (i := 0) rfl) d6_118 (pc' := 119) rfl ?_
      intro h_26 W_24 A_25
      replace A_25 : Arv Z h_26 b_8 k_b_8 .int (4 : Int32) [(.int (cpA (ds.take 1) 0)), (.int (0 : Int32)), (.int (0 : Int32)), (.int (1 : Int32))] (.int 0) := A_25
      refine Seg.aloadN d6_119 rfl rfl (pc' := 120) rfl ?_
      have E_27 : Ext h0 h_18 := ext_wr E_9 W_16 (Nat.le_trans (ext_rfl _).1 (Nat.le_of_eq e_b_8))
      have E_28 : Ext h0 h_26 := ext_wr E_27 W_24 (Nat.le_trans (ext_rfl _).1 (Nat.le_of_eq e_b_8))
      exact Seg.retA rfl rfl rfl d6_120 (by decide) (by decide) ⟨b_8, k_b_8, (cpA (ds.take 1) 0), (0 : Int32), (0 : Int32), 1, rfl, E_28, A_25, by decide, (ptsZ (by rw [hC]; decide) q0).trans (congrArg (List.cons _) (ptsN (by rw [hC]; decide)))⟩
  | 2, _ =>
    show Seg l Z a0 EL1 _ _ _ _ _ _ h0 0 0 [] 0 #[.val (.ref a), .val (.int (2 : Int32)), .unset, .unset, .unset] []
    have hC : (ds.take 2).length = 2 := by rw [List.length_take, hd]; decide
    refine Seg.iconst (v := 4) d6_0 (by decide) (pc' := 1) rfl ?_
    refine Seg.newP (ty := .int) (dv := (.int 0)) rfl rfl (wd G 35 rfl) d6_1 (pc' := 3) rfl (by decide) (cap := 4) (by decide) (by decide) (k' := 1) (n' := 4) rfl rfl (by decide) (by decide) ?_
    intro b_29 h_31 k_b_29 E_30 e_b_29 l_b_29 A_b_29
    replace A_b_29 : Arv Z h_31 b_29 k_b_29 .int (4 : Int32) [(.int (0 : Int32)), (.int (0 : Int32)), (.int (0 : Int32)), (.int (0 : Int32))] (.int 0) := A_b_29.pad (pad_rep [] (.int 0) 4)
    refine Seg.astoreN (L' := #[.val (.ref a), .val (.int (2 : Int32)), .val (.ref b_29), .unset, .unset]) d6_3 rfl rfl (pc' := 4) rfl ?_
    refine Seg.iconst (v := 0) d6_4 (by decide) (pc' := 5) rfl ?_
    refine Seg.istoreN (L' := #[.val (.ref a), .val (.int (2 : Int32)), .val (.ref b_29), .val (.int (0 : Int32)), .unset]) d6_5 rfl (pc' := 6) rfl ?_
    refine Seg.iconst (v := 0) d6_6 (by decide) (pc' := 7) rfl ?_
    refine Seg.istore (L' := #[.val (.ref a), .val (.int (2 : Int32)), .val (.ref b_29), .val (.int (0 : Int32)), .val (.int (0 : Int32))]) d6_7 rfl (pc' := 9) rfl ?_
    refine Seg.iloadN d6_9 rfl (pc' := 10) rfl ?_
    refine Seg.iloadN d6_10 rfl (pc' := 11) rfl ?_
    refine Seg.icN d6_11 (by decide) (pc' := 14) rfl ?_
    refine Seg.aloadN d6_14 rfl rfl (pc' := 15) rfl ?_
    refine Seg.iload d6_15 rfl (pc' := 17) rfl ?_
    refine Seg.aloadN d6_17 rfl rfl (pc' := 18) rfl ?_
    refine Seg.iloadN d6_18 rfl (pc' := 19) rfl ?_
    refine Seg.iloadN d6_19 rfl (pc' := 20) rfl ?_
    have F_32 := K.ext E_30
    refine Seg.callS (y' := (⟨"com/example/erne/erne/SummaryCompareNamesPinLaw", "cp", "([CII)I"⟩ : MethodName)) (wd G 90 rfl) (wd G 91 rfl) (wd G 2 rfl) (wd G 92 rfl) ⟨by decide, by decide⟩ (Pays.of_ct (W := 2) (ct_cp G a ka ds 2 0 h_31 F_32 hd (by decide) (by decide)) all0 (wd G 92 rfl) (wd G 2 rfl) (by decide) (by decide) rfl rfl) (argsL := [(.ref a), (.int (2 : Int32)), (.int (0 : Int32))]) (rest := [(.int (0 : Int32)), (.ref b_29)]) rfl (lenOf pd_18 rfl) rfl (Nat.le_of_eq rfl) rfl d6_20 (pc' := 23) rfl (k' := 1) (n' := 4) rfl rfl (by decide) (by decide) ?_
    intro v_33 h_36 sz_34 q_35
    obtain ⟨rfl, rfl⟩ := q_35
    refine Seg.iastore (i := 0) A_b_29 ⟨by decide, by decide⟩ rfl (Nat.le_of_ble_eq_true rfl) (List.mem_of_getElem? (i := 0) rfl) d6_23 (pc' := 24) rfl ?_
    intro h_39 W_37 A_38
    replace A_38 : Arv Z h_39 b_29 k_b_29 .int (4 : Int32) [(.int (cpA (ds.take 2) 0)), (.int (0 : Int32)), (.int (0 : Int32)), (.int (0 : Int32))] (.int 0) := A_38
    refine Seg.iloadN d6_24 rfl (pc' := 25) rfl ?_
    refine Seg.aloadN d6_25 rfl rfl (pc' := 26) rfl ?_
    refine Seg.iload d6_26 rfl (pc' := 28) rfl ?_
    refine Seg.iaload (v := (.int (cpA (ds.take 2) 0))) A_38 ⟨by decide, by decide⟩ rfl d6_28 (pc' := 29) rfl ?_
    refine Seg.ldcI (wd G 93 rfl) d6_29 (pc' := 31) rfl ?_
    by_cases q0 : cpA (ds.take 2) 0 < 65536
    · refine Seg.icY (pc' := 38) d6_31 (XT.ii_lt_t q0) (by decide) (by decide) ?_
      refine Seg.iconst (v := 1) d6_38 (by decide) (pc' := 39) rfl ?_
      refine Seg.iadd (v := (1 : Int32)) d6_39 (by decide) (pc' := 40) rfl ?_
      refine Seg.istoreN (L' := #[.val (.ref a), .val (.int (2 : Int32)), .val (.ref b_29), .val (.int (1 : Int32)), .val (.int (0 : Int32))]) d6_40 rfl (pc' := 41) rfl ?_
      refine Seg.iinc (v := 1) (z := (1 : Int32)) (L' := #[.val (.ref a), .val (.int (2 : Int32)), .val (.ref b_29), .val (.int (1 : Int32)), .val (.int (1 : Int32))]) d6_41 (by decide) rfl (by decide) rfl (pc' := 44) rfl ?_
      refine Seg.iloadN d6_44 rfl (pc' := 45) rfl ?_
      refine Seg.iloadN d6_45 rfl (pc' := 46) rfl ?_
      refine Seg.icN d6_46 (by decide) (pc' := 49) rfl ?_
      refine Seg.aloadN d6_49 rfl rfl (pc' := 50) rfl ?_
      refine Seg.iload d6_50 rfl (pc' := 52) rfl ?_
      refine Seg.aloadN d6_52 rfl rfl (pc' := 53) rfl ?_
      refine Seg.iloadN d6_53 rfl (pc' := 54) rfl ?_
      refine Seg.iloadN d6_54 rfl (pc' := 55) rfl ?_
      have E_40 : Ext h0 h_39 := ext_wr E_30 W_37 (Nat.le_trans (ext_rfl _).1 (Nat.le_of_eq e_b_29))
      have F_41 := K.ext E_40
      refine Seg.callS (y' := (⟨"com/example/erne/erne/SummaryCompareNamesPinLaw", "cp", "([CII)I"⟩ : MethodName)) (wd G 90 rfl) (wd G 91 rfl) (wd G 2 rfl) (wd G 92 rfl) ⟨by decide, by decide⟩ (Pays.of_ct (W := 2) (ct_cp G a ka ds 2 1 h_39 F_41 hd (by decide) (by decide)) all0 (wd G 92 rfl) (wd G 2 rfl) (by decide) (by decide) rfl rfl) (argsL := [(.ref a), (.int (2 : Int32)), (.int (1 : Int32))]) (rest := [(.int (1 : Int32)), (.ref b_29)]) rfl (lenOf pd_18 rfl) rfl (Nat.le_of_eq rfl) rfl d6_55 (pc' := 58) rfl (k' := 1) (n' := 4) rfl rfl (by decide) (by decide) ?_
      intro v_42 h_45 sz_43 q_44
      obtain ⟨rfl, rfl⟩ := q_44
      refine Seg.iastore (i := 1) A_38 ⟨by decide, by decide⟩ rfl (Nat.le_of_ble_eq_true rfl) (List.mem_of_getElem? (i := 0) rfl) d6_58 (pc' := 59) rfl ?_
      intro h_48 W_46 A_47
      replace A_47 : Arv Z h_48 b_29 k_b_29 .int (4 : Int32) [(.int (cpA (ds.take 2) 0)), (.int (cpA (ds.take 2) 1)), (.int (0 : Int32)), (.int (0 : Int32))] (.int 0) := A_47
      refine Seg.iloadN d6_59 rfl (pc' := 60) rfl ?_
      refine Seg.aloadN d6_60 rfl rfl (pc' := 61) rfl ?_
      refine Seg.iload d6_61 rfl (pc' := 63) rfl ?_
      refine Seg.iaload (v := (.int (cpA (ds.take 2) 1))) A_47 ⟨by decide, by decide⟩ rfl d6_63 (pc' := 64) rfl ?_
      refine Seg.ldcI (wd G 93 rfl) d6_64 (pc' := 66) rfl ?_
      by_cases q1 : cpA (ds.take 2) 1 < 65536
      · refine Seg.icY (pc' := 73) d6_66 (XT.ii_lt_t q1) (by decide) (by decide) ?_
        refine Seg.iconst (v := 1) d6_73 (by decide) (pc' := 74) rfl ?_
        refine Seg.iadd (v := (2 : Int32)) d6_74 (by decide) (pc' := 75) rfl ?_
        refine Seg.istoreN (L' := #[.val (.ref a), .val (.int (2 : Int32)), .val (.ref b_29), .val (.int (2 : Int32)), .val (.int (1 : Int32))]) d6_75 rfl (pc' := 76) rfl ?_
        refine Seg.iinc (v := 1) (z := (2 : Int32)) (L' := #[.val (.ref a), .val (.int (2 : Int32)), .val (.ref b_29), .val (.int (2 : Int32)), .val (.int (2 : Int32))]) d6_76 (by decide) rfl (by decide) rfl (pc' := 79) rfl ?_
        refine Seg.iloadN d6_79 rfl (pc' := 80) rfl ?_
        refine Seg.iloadN d6_80 rfl (pc' := 81) rfl ?_
        refine Seg.icY (pc' := 114) d6_81 (by decide) (by decide) (by decide) ?_
        refine Seg.aloadN d6_114 rfl rfl (pc' := 115) rfl ?_
        refine Seg.iconst (v := 3) d6_115 (by decide) (pc' := 116) rfl ?_
        refine Seg.iload d6_116 rfl (pc' := 118) rfl ?_
        refine Seg.iastore (i := 3) A_47 ⟨by decide, by decide⟩ rfl (Nat.le_of_ble_eq_true rfl) (List.mem_of_getElem? (i := 0) rfl) d6_118 (pc' := 119) rfl ?_
        intro h_51 W_49 A_50
        replace A_50 : Arv Z h_51 b_29 k_b_29 .int (4 : Int32) [(.int (cpA (ds.take 2) 0)), (.int (cpA (ds.take 2) 1)), (.int (0 : Int32)), (.int (2 : Int32))] (.int 0) := A_50
        refine Seg.aloadN d6_119 rfl rfl (pc' := 120) rfl ?_
        have E_52 : Ext h0 h_48 := ext_wr E_40 W_46 (Nat.le_trans (ext_rfl _).1 (Nat.le_of_eq e_b_29))
        have E_53 : Ext h0 h_51 := ext_wr E_52 W_49 (Nat.le_trans (ext_rfl _).1 (Nat.le_of_eq e_b_29))
        exact Seg.retA rfl rfl rfl d6_120 (by decide) (by decide) ⟨b_29, k_b_29, (cpA (ds.take 2) 0), (cpA (ds.take 2) 1), (0 : Int32), 2, rfl, E_53, A_50, by decide, (ptsY (by rw [hC]; decide) q0).trans (congrArg (List.cons _) ((ptsY (by rw [hC]; decide) q1).trans (congrArg (List.cons _) (ptsN (by rw [hC]; decide)))))⟩
      · refine Seg.icN d6_66 (XT.ii_lt_f q1) (pc' := 69) rfl ?_
        refine Seg.iconst (v := 2) d6_69 (by decide) (pc' := 70) rfl ?_
        refine Seg.goto (pc' := 74) d6_70 (by decide) (by decide) ?_
        refine Seg.iadd (v := (3 : Int32)) d6_74 (by decide) (pc' := 75) rfl ?_
        refine Seg.istoreN (L' := #[.val (.ref a), .val (.int (2 : Int32)), .val (.ref b_29), .val (.int (3 : Int32)), .val (.int (1 : Int32))]) d6_75 rfl (pc' := 76) rfl ?_
        refine Seg.iinc (v := 1) (z := (2 : Int32)) (L' := #[.val (.ref a), .val (.int (2 : Int32)), .val (.ref b_29), .val (.int (3 : Int32)), .val (.int (2 : Int32))]) d6_76 (by decide) rfl (by decide) rfl (pc' := 79) rfl ?_
        refine Seg.iloadN d6_79 rfl (pc' := 80) rfl ?_
        refine Seg.iloadN d6_80 rfl (pc' := 81) rfl ?_
        refine Seg.icY (pc' := 114) d6_81 (by decide) (by decide) (by decide) ?_
        refine Seg.aloadN d6_114 rfl rfl (pc' := 115) rfl ?_
        refine Seg.iconst (v := 3) d6_115 (by decide) (pc' := 116) rfl ?_
        refine Seg.iload d6_116 rfl (pc' := 118) rfl ?_
        refine Seg.iastore (i := 3) A_47 ⟨by decide, by decide⟩ rfl (Nat.le_of_ble_eq_true rfl) (List.mem_of_getElem? (i := 0) rfl) d6_118 (pc' := 119) rfl ?_
        intro h_56 W_54 A_55
        replace A_55 : Arv Z h_56 b_29 k_b_29 .int (4 : Int32) [(.int (cpA (ds.take 2) 0)), (.int (cpA (ds.take 2) 1)), (.int (0 : Int32)), (.int (2 : Int32))] (.int 0) := A_55
        refine Seg.aloadN d6_119 rfl rfl (pc' := 120) rfl ?_
        have E_57 : Ext h0 h_48 := ext_wr E_40 W_46 (Nat.le_trans (ext_rfl _).1 (Nat.le_of_eq e_b_29))
        have E_58 : Ext h0 h_56 := ext_wr E_57 W_54 (Nat.le_trans (ext_rfl _).1 (Nat.le_of_eq e_b_29))
        exact Seg.retA rfl rfl rfl d6_120 (by decide) (by decide) ⟨b_29, k_b_29, (cpA (ds.take 2) 0), (cpA (ds.take 2) 1), (0 : Int32), 2, rfl, E_58, A_55, by decide, (ptsY (by rw [hC]; decide) q0).trans (congrArg (List.cons _) ((ptsZ (by rw [hC]; decide) q1).trans (congrArg (List.cons _) (ptsN (by rw [hC]; decide)))))⟩
    · refine Seg.icN d6_31 (XT.ii_lt_f q0) (pc' := 34) rfl ?_
      refine Seg.iconst (v := 2) d6_34 (by decide) (pc' := 35) rfl ?_
      refine Seg.goto (pc' := 39) d6_35 (by decide) (by decide) ?_
      refine Seg.iadd (v := (2 : Int32)) d6_39 (by decide) (pc' := 40) rfl ?_
      refine Seg.istoreN (L' := #[.val (.ref a), .val (.int (2 : Int32)), .val (.ref b_29), .val (.int (2 : Int32)), .val (.int (0 : Int32))]) d6_40 rfl (pc' := 41) rfl ?_
      refine Seg.iinc (v := 1) (z := (1 : Int32)) (L' := #[.val (.ref a), .val (.int (2 : Int32)), .val (.ref b_29), .val (.int (2 : Int32)), .val (.int (1 : Int32))]) d6_41 (by decide) rfl (by decide) rfl (pc' := 44) rfl ?_
      refine Seg.iloadN d6_44 rfl (pc' := 45) rfl ?_
      refine Seg.iloadN d6_45 rfl (pc' := 46) rfl ?_
      refine Seg.icY (pc' := 79) d6_46 (by decide) (by decide) (by decide) ?_
      refine Seg.iloadN d6_79 rfl (pc' := 80) rfl ?_
      refine Seg.iloadN d6_80 rfl (pc' := 81) rfl ?_
      refine Seg.icY (pc' := 114) d6_81 (by decide) (by decide) (by decide) ?_
      refine Seg.aloadN d6_114 rfl rfl (pc' := 115) rfl ?_
      refine Seg.iconst (v := 3) d6_115 (by decide) (pc' := 116) rfl ?_
      refine Seg.iload d6_116 rfl (pc' := 118) rfl ?_
      refine Seg.iastore (i := 3) A_38 ⟨by decide, by decide⟩ rfl (Nat.le_of_ble_eq_true rfl) (List.mem_of_getElem? (i := 0) rfl) d6_118 (pc' := 119) rfl ?_
      intro h_61 W_59 A_60
      replace A_60 : Arv Z h_61 b_29 k_b_29 .int (4 : Int32) [(.int (cpA (ds.take 2) 0)), (.int (0 : Int32)), (.int (0 : Int32)), (.int (1 : Int32))] (.int 0) := A_60
      refine Seg.aloadN d6_119 rfl rfl (pc' := 120) rfl ?_
      have E_62 : Ext h0 h_39 := ext_wr E_30 W_37 (Nat.le_trans (ext_rfl _).1 (Nat.le_of_eq e_b_29))
      have E_63 : Ext h0 h_61 := ext_wr E_62 W_59 (Nat.le_trans (ext_rfl _).1 (Nat.le_of_eq e_b_29))
      exact Seg.retA rfl rfl rfl d6_120 (by decide) (by decide) ⟨b_29, k_b_29, (cpA (ds.take 2) 0), (0 : Int32), (0 : Int32), 1, rfl, E_63, A_60, by decide, (ptsZ (by rw [hC]; decide) q0).trans (congrArg (List.cons _) (ptsN (by rw [hC]; decide)))⟩
  | 3, _ =>
    show Seg l Z a0 EL1 _ _ _ _ _ _ h0 0 0 [] 0 #[.val (.ref a), .val (.int (3 : Int32)), .unset, .unset, .unset] []
    have hC : (ds.take 3).length = 3 := by rw [List.length_take, hd]; decide
    refine Seg.iconst (v := 4) d6_0 (by decide) (pc' := 1) rfl ?_
    refine Seg.newP (ty := .int) (dv := (.int 0)) rfl rfl (wd G 35 rfl) d6_1 (pc' := 3) rfl (by decide) (cap := 4) (by decide) (by decide) (k' := 1) (n' := 4) rfl rfl (by decide) (by decide) ?_
    intro b_64 h_66 k_b_64 E_65 e_b_64 l_b_64 A_b_64
    replace A_b_64 : Arv Z h_66 b_64 k_b_64 .int (4 : Int32) [(.int (0 : Int32)), (.int (0 : Int32)), (.int (0 : Int32)), (.int (0 : Int32))] (.int 0) := A_b_64.pad (pad_rep [] (.int 0) 4)
    refine Seg.astoreN (L' := #[.val (.ref a), .val (.int (3 : Int32)), .val (.ref b_64), .unset, .unset]) d6_3 rfl rfl (pc' := 4) rfl ?_
    refine Seg.iconst (v := 0) d6_4 (by decide) (pc' := 5) rfl ?_
    refine Seg.istoreN (L' := #[.val (.ref a), .val (.int (3 : Int32)), .val (.ref b_64), .val (.int (0 : Int32)), .unset]) d6_5 rfl (pc' := 6) rfl ?_
    refine Seg.iconst (v := 0) d6_6 (by decide) (pc' := 7) rfl ?_
    refine Seg.istore (L' := #[.val (.ref a), .val (.int (3 : Int32)), .val (.ref b_64), .val (.int (0 : Int32)), .val (.int (0 : Int32))]) d6_7 rfl (pc' := 9) rfl ?_
    refine Seg.iloadN d6_9 rfl (pc' := 10) rfl ?_
    refine Seg.iloadN d6_10 rfl (pc' := 11) rfl ?_
    refine Seg.icN d6_11 (by decide) (pc' := 14) rfl ?_
    refine Seg.aloadN d6_14 rfl rfl (pc' := 15) rfl ?_
    refine Seg.iload d6_15 rfl (pc' := 17) rfl ?_
    refine Seg.aloadN d6_17 rfl rfl (pc' := 18) rfl ?_
    refine Seg.iloadN d6_18 rfl (pc' := 19) rfl ?_
    refine Seg.iloadN d6_19 rfl (pc' := 20) rfl ?_
    have F_67 := K.ext E_65
    refine Seg.callS (y' := (⟨"com/example/erne/erne/SummaryCompareNamesPinLaw", "cp", "([CII)I"⟩ : MethodName)) (wd G 90 rfl) (wd G 91 rfl) (wd G 2 rfl) (wd G 92 rfl) ⟨by decide, by decide⟩ (Pays.of_ct (W := 2) (ct_cp G a ka ds 3 0 h_66 F_67 hd (by decide) (by decide)) all0 (wd G 92 rfl) (wd G 2 rfl) (by decide) (by decide) rfl rfl) (argsL := [(.ref a), (.int (3 : Int32)), (.int (0 : Int32))]) (rest := [(.int (0 : Int32)), (.ref b_64)]) rfl (lenOf pd_18 rfl) rfl (Nat.le_of_eq rfl) rfl d6_20 (pc' := 23) rfl (k' := 1) (n' := 4) rfl rfl (by decide) (by decide) ?_
    intro v_68 h_71 sz_69 q_70
    obtain ⟨rfl, rfl⟩ := q_70
    refine Seg.iastore (i := 0) A_b_64 ⟨by decide, by decide⟩ rfl (Nat.le_of_ble_eq_true rfl) (List.mem_of_getElem? (i := 0) rfl) d6_23 (pc' := 24) rfl ?_
    intro h_74 W_72 A_73
    replace A_73 : Arv Z h_74 b_64 k_b_64 .int (4 : Int32) [(.int (cpA (ds.take 3) 0)), (.int (0 : Int32)), (.int (0 : Int32)), (.int (0 : Int32))] (.int 0) := A_73
    refine Seg.iloadN d6_24 rfl (pc' := 25) rfl ?_
    refine Seg.aloadN d6_25 rfl rfl (pc' := 26) rfl ?_
    refine Seg.iload d6_26 rfl (pc' := 28) rfl ?_
    refine Seg.iaload (v := (.int (cpA (ds.take 3) 0))) A_73 ⟨by decide, by decide⟩ rfl d6_28 (pc' := 29) rfl ?_
    refine Seg.ldcI (wd G 93 rfl) d6_29 (pc' := 31) rfl ?_
    by_cases q0 : cpA (ds.take 3) 0 < 65536
    · refine Seg.icY (pc' := 38) d6_31 (XT.ii_lt_t q0) (by decide) (by decide) ?_
      refine Seg.iconst (v := 1) d6_38 (by decide) (pc' := 39) rfl ?_
      refine Seg.iadd (v := (1 : Int32)) d6_39 (by decide) (pc' := 40) rfl ?_
      refine Seg.istoreN (L' := #[.val (.ref a), .val (.int (3 : Int32)), .val (.ref b_64), .val (.int (1 : Int32)), .val (.int (0 : Int32))]) d6_40 rfl (pc' := 41) rfl ?_
      refine Seg.iinc (v := 1) (z := (1 : Int32)) (L' := #[.val (.ref a), .val (.int (3 : Int32)), .val (.ref b_64), .val (.int (1 : Int32)), .val (.int (1 : Int32))]) d6_41 (by decide) rfl (by decide) rfl (pc' := 44) rfl ?_
      refine Seg.iloadN d6_44 rfl (pc' := 45) rfl ?_
      refine Seg.iloadN d6_45 rfl (pc' := 46) rfl ?_
      refine Seg.icN d6_46 (by decide) (pc' := 49) rfl ?_
      refine Seg.aloadN d6_49 rfl rfl (pc' := 50) rfl ?_
      refine Seg.iload d6_50 rfl (pc' := 52) rfl ?_
      refine Seg.aloadN d6_52 rfl rfl (pc' := 53) rfl ?_
      refine Seg.iloadN d6_53 rfl (pc' := 54) rfl ?_
      refine Seg.iloadN d6_54 rfl (pc' := 55) rfl ?_
      have E_75 : Ext h0 h_74 := ext_wr E_65 W_72 (Nat.le_trans (ext_rfl _).1 (Nat.le_of_eq e_b_64))
      have F_76 := K.ext E_75
      refine Seg.callS (y' := (⟨"com/example/erne/erne/SummaryCompareNamesPinLaw", "cp", "([CII)I"⟩ : MethodName)) (wd G 90 rfl) (wd G 91 rfl) (wd G 2 rfl) (wd G 92 rfl) ⟨by decide, by decide⟩ (Pays.of_ct (W := 2) (ct_cp G a ka ds 3 1 h_74 F_76 hd (by decide) (by decide)) all0 (wd G 92 rfl) (wd G 2 rfl) (by decide) (by decide) rfl rfl) (argsL := [(.ref a), (.int (3 : Int32)), (.int (1 : Int32))]) (rest := [(.int (1 : Int32)), (.ref b_64)]) rfl (lenOf pd_18 rfl) rfl (Nat.le_of_eq rfl) rfl d6_55 (pc' := 58) rfl (k' := 1) (n' := 4) rfl rfl (by decide) (by decide) ?_
      intro v_77 h_80 sz_78 q_79
      obtain ⟨rfl, rfl⟩ := q_79
      refine Seg.iastore (i := 1) A_73 ⟨by decide, by decide⟩ rfl (Nat.le_of_ble_eq_true rfl) (List.mem_of_getElem? (i := 0) rfl) d6_58 (pc' := 59) rfl ?_
      intro h_83 W_81 A_82
      replace A_82 : Arv Z h_83 b_64 k_b_64 .int (4 : Int32) [(.int (cpA (ds.take 3) 0)), (.int (cpA (ds.take 3) 1)), (.int (0 : Int32)), (.int (0 : Int32))] (.int 0) := A_82
      refine Seg.iloadN d6_59 rfl (pc' := 60) rfl ?_
      refine Seg.aloadN d6_60 rfl rfl (pc' := 61) rfl ?_
      refine Seg.iload d6_61 rfl (pc' := 63) rfl ?_
      refine Seg.iaload (v := (.int (cpA (ds.take 3) 1))) A_82 ⟨by decide, by decide⟩ rfl d6_63 (pc' := 64) rfl ?_
      refine Seg.ldcI (wd G 93 rfl) d6_64 (pc' := 66) rfl ?_
      by_cases q1 : cpA (ds.take 3) 1 < 65536
      · refine Seg.icY (pc' := 73) d6_66 (XT.ii_lt_t q1) (by decide) (by decide) ?_
        refine Seg.iconst (v := 1) d6_73 (by decide) (pc' := 74) rfl ?_
        refine Seg.iadd (v := (2 : Int32)) d6_74 (by decide) (pc' := 75) rfl ?_
        refine Seg.istoreN (L' := #[.val (.ref a), .val (.int (3 : Int32)), .val (.ref b_64), .val (.int (2 : Int32)), .val (.int (1 : Int32))]) d6_75 rfl (pc' := 76) rfl ?_
        refine Seg.iinc (v := 1) (z := (2 : Int32)) (L' := #[.val (.ref a), .val (.int (3 : Int32)), .val (.ref b_64), .val (.int (2 : Int32)), .val (.int (2 : Int32))]) d6_76 (by decide) rfl (by decide) rfl (pc' := 79) rfl ?_
        refine Seg.iloadN d6_79 rfl (pc' := 80) rfl ?_
        refine Seg.iloadN d6_80 rfl (pc' := 81) rfl ?_
        refine Seg.icN d6_81 (by decide) (pc' := 84) rfl ?_
        refine Seg.aloadN d6_84 rfl rfl (pc' := 85) rfl ?_
        refine Seg.iload d6_85 rfl (pc' := 87) rfl ?_
        refine Seg.aloadN d6_87 rfl rfl (pc' := 88) rfl ?_
        refine Seg.iloadN d6_88 rfl (pc' := 89) rfl ?_
        refine Seg.iloadN d6_89 rfl (pc' := 90) rfl ?_
        have E_84 : Ext h0 h_83 := ext_wr E_75 W_81 (Nat.le_trans (ext_rfl _).1 (Nat.le_of_eq e_b_64))
        have F_85 := K.ext E_84
        refine Seg.callS (y' := (⟨"com/example/erne/erne/SummaryCompareNamesPinLaw", "cp", "([CII)I"⟩ : MethodName)) (wd G 90 rfl) (wd G 91 rfl) (wd G 2 rfl) (wd G 92 rfl) ⟨by decide, by decide⟩ (Pays.of_ct (W := 2) (ct_cp G a ka ds 3 2 h_83 F_85 hd (by decide) (by decide)) all0 (wd G 92 rfl) (wd G 2 rfl) (by decide) (by decide) rfl rfl) (argsL := [(.ref a), (.int (3 : Int32)), (.int (2 : Int32))]) (rest := [(.int (2 : Int32)), (.ref b_64)]) rfl (lenOf pd_18 rfl) rfl (Nat.le_of_eq rfl) rfl d6_90 (pc' := 93) rfl (k' := 1) (n' := 4) rfl rfl (by decide) (by decide) ?_
        intro v_86 h_89 sz_87 q_88
        obtain ⟨rfl, rfl⟩ := q_88
        refine Seg.iastore (i := 2) A_82 ⟨by decide, by decide⟩ rfl (Nat.le_of_ble_eq_true rfl) (List.mem_of_getElem? (i := 0) rfl) d6_93 (pc' := 94) rfl ?_
        intro h_92 W_90 A_91
        replace A_91 : Arv Z h_92 b_64 k_b_64 .int (4 : Int32) [(.int (cpA (ds.take 3) 0)), (.int (cpA (ds.take 3) 1)), (.int (cpA (ds.take 3) 2)), (.int (0 : Int32))] (.int 0) := A_91
        refine Seg.iloadN d6_94 rfl (pc' := 95) rfl ?_
        refine Seg.aloadN d6_95 rfl rfl (pc' := 96) rfl ?_
        refine Seg.iload d6_96 rfl (pc' := 98) rfl ?_
        refine Seg.iaload (v := (.int (cpA (ds.take 3) 2))) A_91 ⟨by decide, by decide⟩ rfl d6_98 (pc' := 99) rfl ?_
        refine Seg.ldcI (wd G 93 rfl) d6_99 (pc' := 101) rfl ?_
        by_cases q2 : cpA (ds.take 3) 2 < 65536
        · refine Seg.icY (pc' := 108) d6_101 (XT.ii_lt_t q2) (by decide) (by decide) ?_
          refine Seg.iconst (v := 1) d6_108 (by decide) (pc' := 109) rfl ?_
          refine Seg.iadd (v := (3 : Int32)) d6_109 (by decide) (pc' := 110) rfl ?_
          refine Seg.istoreN (L' := #[.val (.ref a), .val (.int (3 : Int32)), .val (.ref b_64), .val (.int (3 : Int32)), .val (.int (2 : Int32))]) d6_110 rfl (pc' := 111) rfl ?_
          refine Seg.iinc (v := 1) (z := (3 : Int32)) (L' := #[.val (.ref a), .val (.int (3 : Int32)), .val (.ref b_64), .val (.int (3 : Int32)), .val (.int (3 : Int32))]) d6_111 (by decide) rfl (by decide) rfl (pc' := 114) rfl ?_
          refine Seg.aloadN d6_114 rfl rfl (pc' := 115) rfl ?_
          refine Seg.iconst (v := 3) d6_115 (by decide) (pc' := 116) rfl ?_
          refine Seg.iload d6_116 rfl (pc' := 118) rfl ?_
          refine Seg.iastore (i := 3) A_91 ⟨by decide, by decide⟩ rfl (Nat.le_of_ble_eq_true rfl) (List.mem_of_getElem? (i := 0) rfl) d6_118 (pc' := 119) rfl ?_
          intro h_95 W_93 A_94
          replace A_94 : Arv Z h_95 b_64 k_b_64 .int (4 : Int32) [(.int (cpA (ds.take 3) 0)), (.int (cpA (ds.take 3) 1)), (.int (cpA (ds.take 3) 2)), (.int (3 : Int32))] (.int 0) := A_94
          refine Seg.aloadN d6_119 rfl rfl (pc' := 120) rfl ?_
          have E_96 : Ext h0 h_92 := ext_wr E_84 W_90 (Nat.le_trans (ext_rfl _).1 (Nat.le_of_eq e_b_64))
          have E_97 : Ext h0 h_95 := ext_wr E_96 W_93 (Nat.le_trans (ext_rfl _).1 (Nat.le_of_eq e_b_64))
          exact Seg.retA rfl rfl rfl d6_120 (by decide) (by decide) ⟨b_64, k_b_64, (cpA (ds.take 3) 0), (cpA (ds.take 3) 1), (cpA (ds.take 3) 2), 3, rfl, E_97, A_94, by decide, (ptsY (by rw [hC]; decide) q0).trans (congrArg (List.cons _) ((ptsY (by rw [hC]; decide) q1).trans (congrArg (List.cons _) ((ptsY (by rw [hC]; decide) q2).trans (congrArg (List.cons _) (ptsN (by rw [hC]; decide)))))))⟩
        · refine Seg.icN d6_101 (XT.ii_lt_f q2) (pc' := 104) rfl ?_
          refine Seg.iconst (v := 2) d6_104 (by decide) (pc' := 105) rfl ?_
          refine Seg.goto (pc' := 109) d6_105 (by decide) (by decide) ?_
          refine Seg.iadd (v := (4 : Int32)) d6_109 (by decide) (pc' := 110) rfl ?_
          refine Seg.istoreN (L' := #[.val (.ref a), .val (.int (3 : Int32)), .val (.ref b_64), .val (.int (4 : Int32)), .val (.int (2 : Int32))]) d6_110 rfl (pc' := 111) rfl ?_
          refine Seg.iinc (v := 1) (z := (3 : Int32)) (L' := #[.val (.ref a), .val (.int (3 : Int32)), .val (.ref b_64), .val (.int (4 : Int32)), .val (.int (3 : Int32))]) d6_111 (by decide) rfl (by decide) rfl (pc' := 114) rfl ?_
          refine Seg.aloadN d6_114 rfl rfl (pc' := 115) rfl ?_
          refine Seg.iconst (v := 3) d6_115 (by decide) (pc' := 116) rfl ?_
          refine Seg.iload d6_116 rfl (pc' := 118) rfl ?_
          refine Seg.iastore (i := 3) A_91 ⟨by decide, by decide⟩ rfl (Nat.le_of_ble_eq_true rfl) (List.mem_of_getElem? (i := 0) rfl) d6_118 (pc' := 119) rfl ?_
          intro h_100 W_98 A_99
          replace A_99 : Arv Z h_100 b_64 k_b_64 .int (4 : Int32) [(.int (cpA (ds.take 3) 0)), (.int (cpA (ds.take 3) 1)), (.int (cpA (ds.take 3) 2)), (.int (3 : Int32))] (.int 0) := A_99
          refine Seg.aloadN d6_119 rfl rfl (pc' := 120) rfl ?_
          have E_101 : Ext h0 h_92 := ext_wr E_84 W_90 (Nat.le_trans (ext_rfl _).1 (Nat.le_of_eq e_b_64))
          have E_102 : Ext h0 h_100 := ext_wr E_101 W_98 (Nat.le_trans (ext_rfl _).1 (Nat.le_of_eq e_b_64))
          exact Seg.retA rfl rfl rfl d6_120 (by decide) (by decide) ⟨b_64, k_b_64, (cpA (ds.take 3) 0), (cpA (ds.take 3) 1), (cpA (ds.take 3) 2), 3, rfl, E_102, A_99, by decide, (ptsY (by rw [hC]; decide) q0).trans (congrArg (List.cons _) ((ptsY (by rw [hC]; decide) q1).trans (congrArg (List.cons _) ((ptsZ (by rw [hC]; decide) q2).trans (congrArg (List.cons _) (ptsN (by rw [hC]; decide)))))))⟩
      · refine Seg.icN d6_66 (XT.ii_lt_f q1) (pc' := 69) rfl ?_
        refine Seg.iconst (v := 2) d6_69 (by decide) (pc' := 70) rfl ?_
        refine Seg.goto (pc' := 74) d6_70 (by decide) (by decide) ?_
        refine Seg.iadd (v := (3 : Int32)) d6_74 (by decide) (pc' := 75) rfl ?_
        refine Seg.istoreN (L' := #[.val (.ref a), .val (.int (3 : Int32)), .val (.ref b_64), .val (.int (3 : Int32)), .val (.int (1 : Int32))]) d6_75 rfl (pc' := 76) rfl ?_
        refine Seg.iinc (v := 1) (z := (2 : Int32)) (L' := #[.val (.ref a), .val (.int (3 : Int32)), .val (.ref b_64), .val (.int (3 : Int32)), .val (.int (2 : Int32))]) d6_76 (by decide) rfl (by decide) rfl (pc' := 79) rfl ?_
        refine Seg.iloadN d6_79 rfl (pc' := 80) rfl ?_
        refine Seg.iloadN d6_80 rfl (pc' := 81) rfl ?_
        refine Seg.icY (pc' := 114) d6_81 (by decide) (by decide) (by decide) ?_
        refine Seg.aloadN d6_114 rfl rfl (pc' := 115) rfl ?_
        refine Seg.iconst (v := 3) d6_115 (by decide) (pc' := 116) rfl ?_
        refine Seg.iload d6_116 rfl (pc' := 118) rfl ?_
        refine Seg.iastore (i := 3) A_82 ⟨by decide, by decide⟩ rfl (Nat.le_of_ble_eq_true rfl) (List.mem_of_getElem? (i := 0) rfl) d6_118 (pc' := 119) rfl ?_
        intro h_105 W_103 A_104
        replace A_104 : Arv Z h_105 b_64 k_b_64 .int (4 : Int32) [(.int (cpA (ds.take 3) 0)), (.int (cpA (ds.take 3) 1)), (.int (0 : Int32)), (.int (2 : Int32))] (.int 0) := A_104
        refine Seg.aloadN d6_119 rfl rfl (pc' := 120) rfl ?_
        have E_106 : Ext h0 h_83 := ext_wr E_75 W_81 (Nat.le_trans (ext_rfl _).1 (Nat.le_of_eq e_b_64))
        have E_107 : Ext h0 h_105 := ext_wr E_106 W_103 (Nat.le_trans (ext_rfl _).1 (Nat.le_of_eq e_b_64))
        exact Seg.retA rfl rfl rfl d6_120 (by decide) (by decide) ⟨b_64, k_b_64, (cpA (ds.take 3) 0), (cpA (ds.take 3) 1), (0 : Int32), 2, rfl, E_107, A_104, by decide, (ptsY (by rw [hC]; decide) q0).trans (congrArg (List.cons _) ((ptsZ (by rw [hC]; decide) q1).trans (congrArg (List.cons _) (ptsN (by rw [hC]; decide)))))⟩
    · refine Seg.icN d6_31 (XT.ii_lt_f q0) (pc' := 34) rfl ?_
      refine Seg.iconst (v := 2) d6_34 (by decide) (pc' := 35) rfl ?_
      refine Seg.goto (pc' := 39) d6_35 (by decide) (by decide) ?_
      refine Seg.iadd (v := (2 : Int32)) d6_39 (by decide) (pc' := 40) rfl ?_
      refine Seg.istoreN (L' := #[.val (.ref a), .val (.int (3 : Int32)), .val (.ref b_64), .val (.int (2 : Int32)), .val (.int (0 : Int32))]) d6_40 rfl (pc' := 41) rfl ?_
      refine Seg.iinc (v := 1) (z := (1 : Int32)) (L' := #[.val (.ref a), .val (.int (3 : Int32)), .val (.ref b_64), .val (.int (2 : Int32)), .val (.int (1 : Int32))]) d6_41 (by decide) rfl (by decide) rfl (pc' := 44) rfl ?_
      refine Seg.iloadN d6_44 rfl (pc' := 45) rfl ?_
      refine Seg.iloadN d6_45 rfl (pc' := 46) rfl ?_
      refine Seg.icN d6_46 (by decide) (pc' := 49) rfl ?_
      refine Seg.aloadN d6_49 rfl rfl (pc' := 50) rfl ?_
      refine Seg.iload d6_50 rfl (pc' := 52) rfl ?_
      refine Seg.aloadN d6_52 rfl rfl (pc' := 53) rfl ?_
      refine Seg.iloadN d6_53 rfl (pc' := 54) rfl ?_
      refine Seg.iloadN d6_54 rfl (pc' := 55) rfl ?_
      have E_108 : Ext h0 h_74 := ext_wr E_65 W_72 (Nat.le_trans (ext_rfl _).1 (Nat.le_of_eq e_b_64))
      have F_109 := K.ext E_108
      refine Seg.callS (y' := (⟨"com/example/erne/erne/SummaryCompareNamesPinLaw", "cp", "([CII)I"⟩ : MethodName)) (wd G 90 rfl) (wd G 91 rfl) (wd G 2 rfl) (wd G 92 rfl) ⟨by decide, by decide⟩ (Pays.of_ct (W := 2) (ct_cp G a ka ds 3 2 h_74 F_109 hd (by decide) (by decide)) all0 (wd G 92 rfl) (wd G 2 rfl) (by decide) (by decide) rfl rfl) (argsL := [(.ref a), (.int (3 : Int32)), (.int (2 : Int32))]) (rest := [(.int (1 : Int32)), (.ref b_64)]) rfl (lenOf pd_18 rfl) rfl (Nat.le_of_eq rfl) rfl d6_55 (pc' := 58) rfl (k' := 1) (n' := 4) rfl rfl (by decide) (by decide) ?_
      intro v_110 h_113 sz_111 q_112
      obtain ⟨rfl, rfl⟩ := q_112
      refine Seg.iastore (i := 1) A_73 ⟨by decide, by decide⟩ rfl (Nat.le_of_ble_eq_true rfl) (List.mem_of_getElem? (i := 0) rfl) d6_58 (pc' := 59) rfl ?_
      intro h_116 W_114 A_115
      replace A_115 : Arv Z h_116 b_64 k_b_64 .int (4 : Int32) [(.int (cpA (ds.take 3) 0)), (.int (cpA (ds.take 3) 2)), (.int (0 : Int32)), (.int (0 : Int32))] (.int 0) := A_115
      refine Seg.iloadN d6_59 rfl (pc' := 60) rfl ?_
      refine Seg.aloadN d6_60 rfl rfl (pc' := 61) rfl ?_
      refine Seg.iload d6_61 rfl (pc' := 63) rfl ?_
      refine Seg.iaload (v := (.int (cpA (ds.take 3) 2))) A_115 ⟨by decide, by decide⟩ rfl d6_63 (pc' := 64) rfl ?_
      refine Seg.ldcI (wd G 93 rfl) d6_64 (pc' := 66) rfl ?_
      by_cases q2 : cpA (ds.take 3) 2 < 65536
      · refine Seg.icY (pc' := 73) d6_66 (XT.ii_lt_t q2) (by decide) (by decide) ?_
        refine Seg.iconst (v := 1) d6_73 (by decide) (pc' := 74) rfl ?_
        refine Seg.iadd (v := (3 : Int32)) d6_74 (by decide) (pc' := 75) rfl ?_
        refine Seg.istoreN (L' := #[.val (.ref a), .val (.int (3 : Int32)), .val (.ref b_64), .val (.int (3 : Int32)), .val (.int (1 : Int32))]) d6_75 rfl (pc' := 76) rfl ?_
        refine Seg.iinc (v := 1) (z := (2 : Int32)) (L' := #[.val (.ref a), .val (.int (3 : Int32)), .val (.ref b_64), .val (.int (3 : Int32)), .val (.int (2 : Int32))]) d6_76 (by decide) rfl (by decide) rfl (pc' := 79) rfl ?_
        refine Seg.iloadN d6_79 rfl (pc' := 80) rfl ?_
        refine Seg.iloadN d6_80 rfl (pc' := 81) rfl ?_
        refine Seg.icY (pc' := 114) d6_81 (by decide) (by decide) (by decide) ?_
        refine Seg.aloadN d6_114 rfl rfl (pc' := 115) rfl ?_
        refine Seg.iconst (v := 3) d6_115 (by decide) (pc' := 116) rfl ?_
        refine Seg.iload d6_116 rfl (pc' := 118) rfl ?_
        refine Seg.iastore (i := 3) A_115 ⟨by decide, by decide⟩ rfl (Nat.le_of_ble_eq_true rfl) (List.mem_of_getElem? (i := 0) rfl) d6_118 (pc' := 119) rfl ?_
        intro h_119 W_117 A_118
        replace A_118 : Arv Z h_119 b_64 k_b_64 .int (4 : Int32) [(.int (cpA (ds.take 3) 0)), (.int (cpA (ds.take 3) 2)), (.int (0 : Int32)), (.int (2 : Int32))] (.int 0) := A_118
        refine Seg.aloadN d6_119 rfl rfl (pc' := 120) rfl ?_
        have E_120 : Ext h0 h_116 := ext_wr E_108 W_114 (Nat.le_trans (ext_rfl _).1 (Nat.le_of_eq e_b_64))
        have E_121 : Ext h0 h_119 := ext_wr E_120 W_117 (Nat.le_trans (ext_rfl _).1 (Nat.le_of_eq e_b_64))
        exact Seg.retA rfl rfl rfl d6_120 (by decide) (by decide) ⟨b_64, k_b_64, (cpA (ds.take 3) 0), (cpA (ds.take 3) 2), (0 : Int32), 2, rfl, E_121, A_118, by decide, (ptsZ (by rw [hC]; decide) q0).trans (congrArg (List.cons _) ((ptsY (by rw [hC]; decide) q2).trans (congrArg (List.cons _) (ptsN (by rw [hC]; decide)))))⟩
      · refine Seg.icN d6_66 (XT.ii_lt_f q2) (pc' := 69) rfl ?_
        refine Seg.iconst (v := 2) d6_69 (by decide) (pc' := 70) rfl ?_
        refine Seg.goto (pc' := 74) d6_70 (by decide) (by decide) ?_
        refine Seg.iadd (v := (4 : Int32)) d6_74 (by decide) (pc' := 75) rfl ?_
        refine Seg.istoreN (L' := #[.val (.ref a), .val (.int (3 : Int32)), .val (.ref b_64), .val (.int (4 : Int32)), .val (.int (1 : Int32))]) d6_75 rfl (pc' := 76) rfl ?_
        refine Seg.iinc (v := 1) (z := (2 : Int32)) (L' := #[.val (.ref a), .val (.int (3 : Int32)), .val (.ref b_64), .val (.int (4 : Int32)), .val (.int (2 : Int32))]) d6_76 (by decide) rfl (by decide) rfl (pc' := 79) rfl ?_
        refine Seg.iloadN d6_79 rfl (pc' := 80) rfl ?_
        refine Seg.iloadN d6_80 rfl (pc' := 81) rfl ?_
        refine Seg.icY (pc' := 114) d6_81 (by decide) (by decide) (by decide) ?_
        refine Seg.aloadN d6_114 rfl rfl (pc' := 115) rfl ?_
        refine Seg.iconst (v := 3) d6_115 (by decide) (pc' := 116) rfl ?_
        refine Seg.iload d6_116 rfl (pc' := 118) rfl ?_
        refine Seg.iastore (i := 3) A_115 ⟨by decide, by decide⟩ rfl (Nat.le_of_ble_eq_true rfl) (List.mem_of_getElem? (i := 0) rfl) d6_118 (pc' := 119) rfl ?_
        intro h_124 W_122 A_123
        replace A_123 : Arv Z h_124 b_64 k_b_64 .int (4 : Int32) [(.int (cpA (ds.take 3) 0)), (.int (cpA (ds.take 3) 2)), (.int (0 : Int32)), (.int (2 : Int32))] (.int 0) := A_123
        refine Seg.aloadN d6_119 rfl rfl (pc' := 120) rfl ?_
        have E_125 : Ext h0 h_116 := ext_wr E_108 W_114 (Nat.le_trans (ext_rfl _).1 (Nat.le_of_eq e_b_64))
        have E_126 : Ext h0 h_124 := ext_wr E_125 W_122 (Nat.le_trans (ext_rfl _).1 (Nat.le_of_eq e_b_64))
        exact Seg.retA rfl rfl rfl d6_120 (by decide) (by decide) ⟨b_64, k_b_64, (cpA (ds.take 3) 0), (cpA (ds.take 3) 2), (0 : Int32), 2, rfl, E_126, A_123, by decide, (ptsZ (by rw [hC]; decide) q0).trans (congrArg (List.cons _) ((ptsZ (by rw [hC]; decide) q2).trans (congrArg (List.cons _) (ptsN (by rw [hC]; decide)))))⟩
theorem d7_108 : decode method_7_code 108 = .ok (.iload_n 2, 1) := by decide +kernel
theorem d7_109 : decode method_7_code 109 = .ok (.iload_n 3, 1) := by decide +kernel
theorem d7_110 : decode method_7_code 110 = .ok (.if_icmp .ge 7, 3) := by decide +kernel
theorem d7_113 : decode method_7_code 113 = .ok (.iconst (-1), 1) := by decide +kernel
theorem d7_114 : decode method_7_code 114 = .ok (.goto 13, 3) := by decide +kernel
theorem d7_127 : decode method_7_code 127 = .ok (.ireturn, 1) := by decide +kernel
theorem d7_117 : decode method_7_code 117 = .ok (.iload_n 2, 1) := by decide +kernel
theorem d7_118 : decode method_7_code 118 = .ok (.iload_n 3, 1) := by decide +kernel
theorem d7_119 : decode method_7_code 119 = .ok (.if_icmp .le 7, 3) := by decide +kernel
theorem d7_122 : decode method_7_code 122 = .ok (.iconst 1, 1) := by decide +kernel
theorem d7_123 : decode method_7_code 123 = .ok (.goto 4, 3) := by decide +kernel
theorem d7_126 : decode method_7_code 126 = .ok (.iconst 0, 1) := by decide +kernel
set_option maxRecDepth 65536 in
set_option maxHeartbeats 4000000 in
theorem rf_108 {l : Launch} {Z : State} {a0 : Array Value} (G : Env1 Z a0) (a : Addr) (b : Addr) (ka : ClassId) (kb : ClassId) (p0 : Int32) (p1 : Int32) (p2 : Int32) (q0 : Int32) (q1 : Int32) (q2 : Int32) (kp : Nat) (kq : Nat) (h0 : Heap) (K : Arv Z h0 a ka .int 4 [.int p0, .int p1, .int p2, .int (Int32.ofNat kp)] (.int 0)) (K' : Arv Z h0 b kb .int 4 [.int q0, .int q1, .int q2, .int (Int32.ofNat kq)] (.int 0)) (hp : kp ≤ 3) (hq : kq ≤ 3) :
    Seg l Z a0 EL1 (⟨"com/example/erne/erne/SummaryCompareNamesPinLaw", "reference", "([I[I)I"⟩ : MethodName) method_7_code 4 (some .int) ({ frames := 0, cells := 0, slots := 0, locals := 0 } : Room) (fun v h => v = some (.int (rf3 kp kq)) ∧ h0 = h) h0 0 0 [] 108 #[.val (.ref a), .val (.ref b), .val (.int (Int32.ofNat kp)), .val (.int (Int32.ofNat kq))] [] := by
  refine Seg.iloadN d7_108 rfl (pc' := 109) rfl ?_
  refine Seg.iloadN d7_109 rfl (pc' := 110) rfl ?_
  by_cases h1 : kp < kq
  · refine Seg.icN d7_110 (XT.ii_ge_f (n32lt h1 (by omega))) (pc' := 113) rfl ?_
    refine Seg.iconst (v := -1) d7_113 (by decide) (pc' := 114) rfl ?_
    refine Seg.goto (pc' := 127) d7_114 (by decide) (by decide) ?_
    exact Seg.retI rfl d7_127 (by decide) (by decide) ⟨by rw [rf3, if_pos h1], rfl⟩
  · refine Seg.icY (pc' := 117) d7_110 (XT.ii_ge_t (n32nlt (by omega) (by omega))) (by decide) (by decide) ?_
    refine Seg.iloadN d7_117 rfl (pc' := 118) rfl ?_
    refine Seg.iloadN d7_118 rfl (pc' := 119) rfl ?_
    by_cases h2 : kq < kp
    · refine Seg.icN d7_119 (XT.ii_le_f (n32lt h2 (by omega))) (pc' := 122) rfl ?_
      refine Seg.iconst (v := 1) d7_122 (by decide) (pc' := 123) rfl ?_
      refine Seg.goto (pc' := 127) d7_123 (by decide) (by decide) ?_
      exact Seg.retI rfl d7_127 (by decide) (by decide) ⟨by rw [rf3, if_neg h1, if_pos h2], rfl⟩
    · refine Seg.icY (pc' := 126) d7_119 (XT.ii_le_t (n32nlt (by omega) (by omega))) (by decide) (by decide) ?_
      refine Seg.iconst (v := 0) d7_126 (by decide) (pc' := 127) rfl ?_
      exact Seg.retI rfl d7_127 (by decide) (by decide) ⟨by rw [rf3, if_neg h1, if_neg h2], rfl⟩
theorem d7_74 : decode method_7_code 74 = .ok (.iload_n 2, 1) := by decide +kernel
theorem d7_75 : decode method_7_code 75 = .ok (.iconst 2, 1) := by decide +kernel
theorem d7_76 : decode method_7_code 76 = .ok (.if_icmp .le 32, 3) := by decide +kernel
theorem d7_79 : decode method_7_code 79 = .ok (.iload_n 3, 1) := by decide +kernel
theorem d7_80 : decode method_7_code 80 = .ok (.iconst 2, 1) := by decide +kernel
theorem d7_81 : decode method_7_code 81 = .ok (.if_icmp .le 27, 3) := by decide +kernel
theorem d7_84 : decode method_7_code 84 = .ok (.aload_n 0, 1) := by decide +kernel
theorem d7_85 : decode method_7_code 85 = .ok (.iconst 2, 1) := by decide +kernel
theorem d7_86 : decode method_7_code 86 = .ok (.iaload, 1) := by decide +kernel
theorem d7_87 : decode method_7_code 87 = .ok (.aload_n 1, 1) := by decide +kernel
theorem d7_88 : decode method_7_code 88 = .ok (.iconst 2, 1) := by decide +kernel
theorem d7_89 : decode method_7_code 89 = .ok (.iaload, 1) := by decide +kernel
theorem d7_90 : decode method_7_code 90 = .ok (.if_icmp .eq 18, 3) := by decide +kernel
theorem d7_93 : decode method_7_code 93 = .ok (.aload_n 0, 1) := by decide +kernel
theorem d7_94 : decode method_7_code 94 = .ok (.iconst 2, 1) := by decide +kernel
theorem d7_95 : decode method_7_code 95 = .ok (.iaload, 1) := by decide +kernel
theorem d7_96 : decode method_7_code 96 = .ok (.aload_n 1, 1) := by decide +kernel
theorem d7_97 : decode method_7_code 97 = .ok (.iconst 2, 1) := by decide +kernel
theorem d7_98 : decode method_7_code 98 = .ok (.iaload, 1) := by decide +kernel
theorem d7_99 : decode method_7_code 99 = .ok (.if_icmp .ge 7, 3) := by decide +kernel
theorem d7_102 : decode method_7_code 102 = .ok (.iconst (-1), 1) := by decide +kernel
theorem d7_103 : decode method_7_code 103 = .ok (.goto 4, 3) := by decide +kernel
theorem d7_107 : decode method_7_code 107 = .ok (.ireturn, 1) := by decide +kernel
theorem d7_106 : decode method_7_code 106 = .ok (.iconst 1, 1) := by decide +kernel
set_option maxRecDepth 65536 in
set_option maxHeartbeats 4000000 in
theorem rf_74 {l : Launch} {Z : State} {a0 : Array Value} (G : Env1 Z a0) (a : Addr) (b : Addr) (ka : ClassId) (kb : ClassId) (p0 : Int32) (p1 : Int32) (p2 : Int32) (q0 : Int32) (q1 : Int32) (q2 : Int32) (kp : Nat) (kq : Nat) (h0 : Heap) (K : Arv Z h0 a ka .int 4 [.int p0, .int p1, .int p2, .int (Int32.ofNat kp)] (.int 0)) (K' : Arv Z h0 b kb .int 4 [.int q0, .int q1, .int q2, .int (Int32.ofNat kq)] (.int 0)) (hp : kp ≤ 3) (hq : kq ≤ 3) :
    Seg l Z a0 EL1 (⟨"com/example/erne/erne/SummaryCompareNamesPinLaw", "reference", "([I[I)I"⟩ : MethodName) method_7_code 4 (some .int) ({ frames := 0, cells := 0, slots := 0, locals := 0 } : Room) (fun v h => v = some (.int (rfS 2 p2 q2 kp kq (rf3 kp kq))) ∧ h0 = h) h0 0 0 [] 74 #[.val (.ref a), .val (.ref b), .val (.int (Int32.ofNat kp)), .val (.int (Int32.ofNat kq))] [] := by
  refine Seg.iloadN d7_74 rfl (pc' := 75) rfl ?_
  refine Seg.iconst (v := 2) d7_75 (by decide) (pc' := 76) rfl ?_
  by_cases h1 : 2 < kp
  · refine Seg.icN d7_76 (XT.ii_le_f (n32lt (i := 2) h1 (by omega))) (pc' := 79) rfl ?_
    refine Seg.iloadN d7_79 rfl (pc' := 80) rfl ?_
    refine Seg.iconst (v := 2) d7_80 (by decide) (pc' := 81) rfl ?_
    by_cases h2 : 2 < kq
    · refine Seg.icN d7_81 (XT.ii_le_f (n32lt (i := 2) h2 (by omega))) (pc' := 84) rfl ?_
      refine Seg.aloadN d7_84 rfl rfl (pc' := 85) rfl ?_
      refine Seg.iconst (v := 2) d7_85 (by decide) (pc' := 86) rfl ?_
      refine Seg.iaload (v := (.int p2)) K ⟨by decide, by decide⟩ rfl d7_86 (pc' := 87) rfl ?_
      refine Seg.aloadN d7_87 rfl rfl (pc' := 88) rfl ?_
      refine Seg.iconst (v := 2) d7_88 (by decide) (pc' := 89) rfl ?_
      refine Seg.iaload (v := (.int q2)) K' ⟨by decide, by decide⟩ rfl d7_89 (pc' := 90) rfl ?_
      by_cases h3 : p2 = q2
      · refine Seg.icY (pc' := 108) d7_90 (XT.ii_eq_t h3) (by decide) (by decide) ?_
        exact Seg.post (fun v h q => ⟨by rw [rfS, if_neg (fun r => r.2.2 h3)]; exact q.1, q.2⟩) (rf_108 G a b ka kb p0 p1 p2 q0 q1 q2 kp kq h0 K K' hp hq)
      · refine Seg.icN d7_90 (XT.ii_eq_f h3) (pc' := 93) rfl ?_
        refine Seg.aloadN d7_93 rfl rfl (pc' := 94) rfl ?_
        refine Seg.iconst (v := 2) d7_94 (by decide) (pc' := 95) rfl ?_
        refine Seg.iaload (v := (.int p2)) K ⟨by decide, by decide⟩ rfl d7_95 (pc' := 96) rfl ?_
        refine Seg.aloadN d7_96 rfl rfl (pc' := 97) rfl ?_
        refine Seg.iconst (v := 2) d7_97 (by decide) (pc' := 98) rfl ?_
        refine Seg.iaload (v := (.int q2)) K' ⟨by decide, by decide⟩ rfl d7_98 (pc' := 99) rfl ?_
        by_cases h4 : p2 < q2
        · refine Seg.icN d7_99 (XT.ii_ge_f h4) (pc' := 102) rfl ?_
          refine Seg.iconst (v := -1) d7_102 (by decide) (pc' := 103) rfl ?_
          refine Seg.goto (pc' := 107) d7_103 (by decide) (by decide) ?_
          exact Seg.retI rfl d7_107 (by decide) (by decide) ⟨by rw [rfS, if_pos ⟨h1, h2, h3⟩, if_pos h4], rfl⟩
        · refine Seg.icY (pc' := 106) d7_99 (XT.ii_ge_t h4) (by decide) (by decide) ?_
          refine Seg.iconst (v := 1) d7_106 (by decide) (pc' := 107) rfl ?_
          exact Seg.retI rfl d7_107 (by decide) (by decide) ⟨by rw [rfS, if_pos ⟨h1, h2, h3⟩, if_neg h4], rfl⟩
    · refine Seg.icY (pc' := 108) d7_81 (XT.ii_le_t (n32nlt (n := kq) (i := 2) (by omega) (by omega))) (by decide) (by decide) ?_
      exact Seg.post (fun v h q => ⟨by rw [rfS, if_neg (fun r => h2 r.2.1)]; exact q.1, q.2⟩) (rf_108 G a b ka kb p0 p1 p2 q0 q1 q2 kp kq h0 K K' hp hq)
  · refine Seg.icY (pc' := 108) d7_76 (XT.ii_le_t (n32nlt (n := kp) (i := 2) (by omega) (by omega))) (by decide) (by decide) ?_
    exact Seg.post (fun v h q => ⟨by rw [rfS, if_neg (fun r => h1 r.1)]; exact q.1, q.2⟩) (rf_108 G a b ka kb p0 p1 p2 q0 q1 q2 kp kq h0 K K' hp hq)
theorem d7_40 : decode method_7_code 40 = .ok (.iload_n 2, 1) := by decide +kernel
theorem d7_41 : decode method_7_code 41 = .ok (.iconst 1, 1) := by decide +kernel
theorem d7_42 : decode method_7_code 42 = .ok (.if_icmp .le 32, 3) := by decide +kernel
theorem d7_45 : decode method_7_code 45 = .ok (.iload_n 3, 1) := by decide +kernel
theorem d7_46 : decode method_7_code 46 = .ok (.iconst 1, 1) := by decide +kernel
theorem d7_47 : decode method_7_code 47 = .ok (.if_icmp .le 27, 3) := by decide +kernel
theorem d7_50 : decode method_7_code 50 = .ok (.aload_n 0, 1) := by decide +kernel
theorem d7_51 : decode method_7_code 51 = .ok (.iconst 1, 1) := by decide +kernel
theorem d7_52 : decode method_7_code 52 = .ok (.iaload, 1) := by decide +kernel
theorem d7_53 : decode method_7_code 53 = .ok (.aload_n 1, 1) := by decide +kernel
theorem d7_54 : decode method_7_code 54 = .ok (.iconst 1, 1) := by decide +kernel
theorem d7_55 : decode method_7_code 55 = .ok (.iaload, 1) := by decide +kernel
theorem d7_56 : decode method_7_code 56 = .ok (.if_icmp .eq 18, 3) := by decide +kernel
theorem d7_59 : decode method_7_code 59 = .ok (.aload_n 0, 1) := by decide +kernel
theorem d7_60 : decode method_7_code 60 = .ok (.iconst 1, 1) := by decide +kernel
theorem d7_61 : decode method_7_code 61 = .ok (.iaload, 1) := by decide +kernel
theorem d7_62 : decode method_7_code 62 = .ok (.aload_n 1, 1) := by decide +kernel
theorem d7_63 : decode method_7_code 63 = .ok (.iconst 1, 1) := by decide +kernel
theorem d7_64 : decode method_7_code 64 = .ok (.iaload, 1) := by decide +kernel
theorem d7_65 : decode method_7_code 65 = .ok (.if_icmp .ge 7, 3) := by decide +kernel
theorem d7_68 : decode method_7_code 68 = .ok (.iconst (-1), 1) := by decide +kernel
theorem d7_69 : decode method_7_code 69 = .ok (.goto 4, 3) := by decide +kernel
theorem d7_73 : decode method_7_code 73 = .ok (.ireturn, 1) := by decide +kernel
theorem d7_72 : decode method_7_code 72 = .ok (.iconst 1, 1) := by decide +kernel
set_option maxRecDepth 65536 in
set_option maxHeartbeats 4000000 in
theorem rf_40 {l : Launch} {Z : State} {a0 : Array Value} (G : Env1 Z a0) (a : Addr) (b : Addr) (ka : ClassId) (kb : ClassId) (p0 : Int32) (p1 : Int32) (p2 : Int32) (q0 : Int32) (q1 : Int32) (q2 : Int32) (kp : Nat) (kq : Nat) (h0 : Heap) (K : Arv Z h0 a ka .int 4 [.int p0, .int p1, .int p2, .int (Int32.ofNat kp)] (.int 0)) (K' : Arv Z h0 b kb .int 4 [.int q0, .int q1, .int q2, .int (Int32.ofNat kq)] (.int 0)) (hp : kp ≤ 3) (hq : kq ≤ 3) :
    Seg l Z a0 EL1 (⟨"com/example/erne/erne/SummaryCompareNamesPinLaw", "reference", "([I[I)I"⟩ : MethodName) method_7_code 4 (some .int) ({ frames := 0, cells := 0, slots := 0, locals := 0 } : Room) (fun v h => v = some (.int (rfS 1 p1 q1 kp kq (rfS 2 p2 q2 kp kq (rf3 kp kq)))) ∧ h0 = h) h0 0 0 [] 40 #[.val (.ref a), .val (.ref b), .val (.int (Int32.ofNat kp)), .val (.int (Int32.ofNat kq))] [] := by
  refine Seg.iloadN d7_40 rfl (pc' := 41) rfl ?_
  refine Seg.iconst (v := 1) d7_41 (by decide) (pc' := 42) rfl ?_
  by_cases h1 : 1 < kp
  · refine Seg.icN d7_42 (XT.ii_le_f (n32lt (i := 1) h1 (by omega))) (pc' := 45) rfl ?_
    refine Seg.iloadN d7_45 rfl (pc' := 46) rfl ?_
    refine Seg.iconst (v := 1) d7_46 (by decide) (pc' := 47) rfl ?_
    by_cases h2 : 1 < kq
    · refine Seg.icN d7_47 (XT.ii_le_f (n32lt (i := 1) h2 (by omega))) (pc' := 50) rfl ?_
      refine Seg.aloadN d7_50 rfl rfl (pc' := 51) rfl ?_
      refine Seg.iconst (v := 1) d7_51 (by decide) (pc' := 52) rfl ?_
      refine Seg.iaload (v := (.int p1)) K ⟨by decide, by decide⟩ rfl d7_52 (pc' := 53) rfl ?_
      refine Seg.aloadN d7_53 rfl rfl (pc' := 54) rfl ?_
      refine Seg.iconst (v := 1) d7_54 (by decide) (pc' := 55) rfl ?_
      refine Seg.iaload (v := (.int q1)) K' ⟨by decide, by decide⟩ rfl d7_55 (pc' := 56) rfl ?_
      by_cases h3 : p1 = q1
      · refine Seg.icY (pc' := 74) d7_56 (XT.ii_eq_t h3) (by decide) (by decide) ?_
        exact Seg.post (fun v h q => ⟨by rw [rfS, if_neg (fun r => r.2.2 h3)]; exact q.1, q.2⟩) (rf_74 G a b ka kb p0 p1 p2 q0 q1 q2 kp kq h0 K K' hp hq)
      · refine Seg.icN d7_56 (XT.ii_eq_f h3) (pc' := 59) rfl ?_
        refine Seg.aloadN d7_59 rfl rfl (pc' := 60) rfl ?_
        refine Seg.iconst (v := 1) d7_60 (by decide) (pc' := 61) rfl ?_
        refine Seg.iaload (v := (.int p1)) K ⟨by decide, by decide⟩ rfl d7_61 (pc' := 62) rfl ?_
        refine Seg.aloadN d7_62 rfl rfl (pc' := 63) rfl ?_
        refine Seg.iconst (v := 1) d7_63 (by decide) (pc' := 64) rfl ?_
        refine Seg.iaload (v := (.int q1)) K' ⟨by decide, by decide⟩ rfl d7_64 (pc' := 65) rfl ?_
        by_cases h4 : p1 < q1
        · refine Seg.icN d7_65 (XT.ii_ge_f h4) (pc' := 68) rfl ?_
          refine Seg.iconst (v := -1) d7_68 (by decide) (pc' := 69) rfl ?_
          refine Seg.goto (pc' := 73) d7_69 (by decide) (by decide) ?_
          exact Seg.retI rfl d7_73 (by decide) (by decide) ⟨by rw [rfS, if_pos ⟨h1, h2, h3⟩, if_pos h4], rfl⟩
        · refine Seg.icY (pc' := 72) d7_65 (XT.ii_ge_t h4) (by decide) (by decide) ?_
          refine Seg.iconst (v := 1) d7_72 (by decide) (pc' := 73) rfl ?_
          exact Seg.retI rfl d7_73 (by decide) (by decide) ⟨by rw [rfS, if_pos ⟨h1, h2, h3⟩, if_neg h4], rfl⟩
    · refine Seg.icY (pc' := 74) d7_47 (XT.ii_le_t (n32nlt (n := kq) (i := 1) (by omega) (by omega))) (by decide) (by decide) ?_
      exact Seg.post (fun v h q => ⟨by rw [rfS, if_neg (fun r => h2 r.2.1)]; exact q.1, q.2⟩) (rf_74 G a b ka kb p0 p1 p2 q0 q1 q2 kp kq h0 K K' hp hq)
  · refine Seg.icY (pc' := 74) d7_42 (XT.ii_le_t (n32nlt (n := kp) (i := 1) (by omega) (by omega))) (by decide) (by decide) ?_
    exact Seg.post (fun v h q => ⟨by rw [rfS, if_neg (fun r => h1 r.1)]; exact q.1, q.2⟩) (rf_74 G a b ka kb p0 p1 p2 q0 q1 q2 kp kq h0 K K' hp hq)
theorem d7_8 : decode method_7_code 8 = .ok (.iload_n 2, 1) := by decide +kernel
theorem d7_9 : decode method_7_code 9 = .ok (.ifCond .le 31, 3) := by decide +kernel
theorem d7_12 : decode method_7_code 12 = .ok (.iload_n 3, 1) := by decide +kernel
theorem d7_13 : decode method_7_code 13 = .ok (.ifCond .le 27, 3) := by decide +kernel
theorem d7_16 : decode method_7_code 16 = .ok (.aload_n 0, 1) := by decide +kernel
theorem d7_17 : decode method_7_code 17 = .ok (.iconst 0, 1) := by decide +kernel
theorem d7_18 : decode method_7_code 18 = .ok (.iaload, 1) := by decide +kernel
theorem d7_19 : decode method_7_code 19 = .ok (.aload_n 1, 1) := by decide +kernel
theorem d7_20 : decode method_7_code 20 = .ok (.iconst 0, 1) := by decide +kernel
theorem d7_21 : decode method_7_code 21 = .ok (.iaload, 1) := by decide +kernel
theorem d7_22 : decode method_7_code 22 = .ok (.if_icmp .eq 18, 3) := by decide +kernel
theorem d7_25 : decode method_7_code 25 = .ok (.aload_n 0, 1) := by decide +kernel
theorem d7_26 : decode method_7_code 26 = .ok (.iconst 0, 1) := by decide +kernel
theorem d7_27 : decode method_7_code 27 = .ok (.iaload, 1) := by decide +kernel
theorem d7_28 : decode method_7_code 28 = .ok (.aload_n 1, 1) := by decide +kernel
theorem d7_29 : decode method_7_code 29 = .ok (.iconst 0, 1) := by decide +kernel
theorem d7_30 : decode method_7_code 30 = .ok (.iaload, 1) := by decide +kernel
theorem d7_31 : decode method_7_code 31 = .ok (.if_icmp .ge 7, 3) := by decide +kernel
theorem d7_34 : decode method_7_code 34 = .ok (.iconst (-1), 1) := by decide +kernel
theorem d7_35 : decode method_7_code 35 = .ok (.goto 4, 3) := by decide +kernel
theorem d7_39 : decode method_7_code 39 = .ok (.ireturn, 1) := by decide +kernel
theorem d7_38 : decode method_7_code 38 = .ok (.iconst 1, 1) := by decide +kernel
set_option maxRecDepth 65536 in
set_option maxHeartbeats 4000000 in
theorem rf_8 {l : Launch} {Z : State} {a0 : Array Value} (G : Env1 Z a0) (a : Addr) (b : Addr) (ka : ClassId) (kb : ClassId) (p0 : Int32) (p1 : Int32) (p2 : Int32) (q0 : Int32) (q1 : Int32) (q2 : Int32) (kp : Nat) (kq : Nat) (h0 : Heap) (K : Arv Z h0 a ka .int 4 [.int p0, .int p1, .int p2, .int (Int32.ofNat kp)] (.int 0)) (K' : Arv Z h0 b kb .int 4 [.int q0, .int q1, .int q2, .int (Int32.ofNat kq)] (.int 0)) (hp : kp ≤ 3) (hq : kq ≤ 3) :
    Seg l Z a0 EL1 (⟨"com/example/erne/erne/SummaryCompareNamesPinLaw", "reference", "([I[I)I"⟩ : MethodName) method_7_code 4 (some .int) ({ frames := 0, cells := 0, slots := 0, locals := 0 } : Room) (fun v h => v = some (.int (rfS 0 p0 q0 kp kq (rfS 1 p1 q1 kp kq (rfS 2 p2 q2 kp kq (rf3 kp kq))))) ∧ h0 = h) h0 0 0 [] 8 #[.val (.ref a), .val (.ref b), .val (.int (Int32.ofNat kp)), .val (.int (Int32.ofNat kq))] [] := by
  refine Seg.iloadN d7_8 rfl (pc' := 9) rfl ?_
  by_cases h1 : 0 < kp
  · refine Seg.ifN d7_9 (XT.i0_le_f (n32lt (i := 0) h1 (by omega))) (pc' := 12) rfl ?_
    refine Seg.iloadN d7_12 rfl (pc' := 13) rfl ?_
    by_cases h2 : 0 < kq
    · refine Seg.ifN d7_13 (XT.i0_le_f (n32lt (i := 0) h2 (by omega))) (pc' := 16) rfl ?_
      refine Seg.aloadN d7_16 rfl rfl (pc' := 17) rfl ?_
      refine Seg.iconst (v := 0) d7_17 (by decide) (pc' := 18) rfl ?_
      refine Seg.iaload (v := (.int p0)) K ⟨by decide, by decide⟩ rfl d7_18 (pc' := 19) rfl ?_
      refine Seg.aloadN d7_19 rfl rfl (pc' := 20) rfl ?_
      refine Seg.iconst (v := 0) d7_20 (by decide) (pc' := 21) rfl ?_
      refine Seg.iaload (v := (.int q0)) K' ⟨by decide, by decide⟩ rfl d7_21 (pc' := 22) rfl ?_
      by_cases h3 : p0 = q0
      · refine Seg.icY (pc' := 40) d7_22 (XT.ii_eq_t h3) (by decide) (by decide) ?_
        exact Seg.post (fun v h q => ⟨by rw [rfS, if_neg (fun r => r.2.2 h3)]; exact q.1, q.2⟩) (rf_40 G a b ka kb p0 p1 p2 q0 q1 q2 kp kq h0 K K' hp hq)
      · refine Seg.icN d7_22 (XT.ii_eq_f h3) (pc' := 25) rfl ?_
        refine Seg.aloadN d7_25 rfl rfl (pc' := 26) rfl ?_
        refine Seg.iconst (v := 0) d7_26 (by decide) (pc' := 27) rfl ?_
        refine Seg.iaload (v := (.int p0)) K ⟨by decide, by decide⟩ rfl d7_27 (pc' := 28) rfl ?_
        refine Seg.aloadN d7_28 rfl rfl (pc' := 29) rfl ?_
        refine Seg.iconst (v := 0) d7_29 (by decide) (pc' := 30) rfl ?_
        refine Seg.iaload (v := (.int q0)) K' ⟨by decide, by decide⟩ rfl d7_30 (pc' := 31) rfl ?_
        by_cases h4 : p0 < q0
        · refine Seg.icN d7_31 (XT.ii_ge_f h4) (pc' := 34) rfl ?_
          refine Seg.iconst (v := -1) d7_34 (by decide) (pc' := 35) rfl ?_
          refine Seg.goto (pc' := 39) d7_35 (by decide) (by decide) ?_
          exact Seg.retI rfl d7_39 (by decide) (by decide) ⟨by rw [rfS, if_pos ⟨h1, h2, h3⟩, if_pos h4], rfl⟩
        · refine Seg.icY (pc' := 38) d7_31 (XT.ii_ge_t h4) (by decide) (by decide) ?_
          refine Seg.iconst (v := 1) d7_38 (by decide) (pc' := 39) rfl ?_
          exact Seg.retI rfl d7_39 (by decide) (by decide) ⟨by rw [rfS, if_pos ⟨h1, h2, h3⟩, if_neg h4], rfl⟩
    · refine Seg.ifY (pc' := 40) d7_13 (XT.i0_le_t (n32nlt (n := kq) (i := 0) (by omega) (by omega))) (by decide) (by decide) ?_
      exact Seg.post (fun v h q => ⟨by rw [rfS, if_neg (fun r => h2 r.2.1)]; exact q.1, q.2⟩) (rf_40 G a b ka kb p0 p1 p2 q0 q1 q2 kp kq h0 K K' hp hq)
  · refine Seg.ifY (pc' := 40) d7_9 (XT.i0_le_t (n32nlt (n := kp) (i := 0) (by omega) (by omega))) (by decide) (by decide) ?_
    exact Seg.post (fun v h q => ⟨by rw [rfS, if_neg (fun r => h1 r.1)]; exact q.1, q.2⟩) (rf_40 G a b ka kb p0 p1 p2 q0 q1 q2 kp kq h0 K K' hp hq)
theorem d7_0 : decode method_7_code 0 = .ok (.aload_n 0, 1) := by decide +kernel
theorem d7_1 : decode method_7_code 1 = .ok (.iconst 3, 1) := by decide +kernel
theorem d7_2 : decode method_7_code 2 = .ok (.iaload, 1) := by decide +kernel
theorem d7_3 : decode method_7_code 3 = .ok (.istore_n 2, 1) := by decide +kernel
theorem d7_4 : decode method_7_code 4 = .ok (.aload_n 1, 1) := by decide +kernel
theorem d7_5 : decode method_7_code 5 = .ok (.iconst 3, 1) := by decide +kernel
theorem d7_6 : decode method_7_code 6 = .ok (.iaload, 1) := by decide +kernel
theorem d7_7 : decode method_7_code 7 = .ok (.istore_n 3, 1) := by decide +kernel
theorem ef_ct_ref (a : Addr) (b : Addr) (ka : ClassId) (kb : ClassId) (p0 : Int32) (p1 : Int32) (p2 : Int32) (q0 : Int32) (q1 : Int32) (q2 : Int32) (kp : Nat) (kq : Nat) (m : MethodId) : entryFrame m #[(.ref a), (.ref b)] 4 = mkF m 0 #[.val (.ref a), .val (.ref b), .unset, .unset] [] := by first | (simp [entryFrame, mkF, argsToLocals, Value.category]; done) | rfl
set_option maxRecDepth 65536 in
set_option maxHeartbeats 4000000 in
theorem ct_ref {l : Launch} {Z : State} {a0 : Array Value} (G : Env1 Z a0) (a : Addr) (b : Addr) (ka : ClassId) (kb : ClassId) (p0 : Int32) (p1 : Int32) (p2 : Int32) (q0 : Int32) (q1 : Int32) (q2 : Int32) (kp : Nat) (kq : Nat) (h0 : Heap) (K : Arv Z h0 a ka .int 4 [.int p0, .int p1, .int p2, .int (Int32.ofNat kp)] (.int 0)) (K' : Arv Z h0 b kb .int 4 [.int q0, .int q1, .int q2, .int (Int32.ofNat kq)] (.int 0)) (hp : kp ≤ 3) (hq : kq ≤ 3) :
    Ct l Z EL1 [] [] (⟨"com/example/erne/erne/SummaryCompareNamesPinLaw", "reference", "([I[I)I"⟩ : MethodName) method_7_code 4 (some .int) ({ frames := 0, cells := 0, slots := 0, locals := 0 } : Room) #[(.ref a), (.ref b)] h0 (fun v h => v = some (.int (cmpL ([p0, p1, p2].take kp) ([q0, q1, q2].take kq))) ∧ h0 = h) := by
  refine Ct.of_seg (a0 := a0) (plainFor_of_name pn_com_example_erne_erne_SummaryCompareNamesPinLaw) G.2.1 (ef_ct_ref a b ka kb p0 p1 p2 q0 q1 q2 kp kq) ?_
  refine Seg.aloadN d7_0 rfl rfl (pc' := 1) rfl ?_
  refine Seg.iconst (v := 3) d7_1 (by decide) (pc' := 2) rfl ?_
  refine Seg.iaload (v := (.int (Int32.ofNat kp))) K ⟨by decide, by decide⟩ rfl d7_2 (pc' := 3) rfl ?_
  refine Seg.istoreN (L' := #[.val (.ref a), .val (.ref b), .val (.int (Int32.ofNat kp)), .unset]) d7_3 rfl (pc' := 4) rfl ?_
  refine Seg.aloadN d7_4 rfl rfl (pc' := 5) rfl ?_
  refine Seg.iconst (v := 3) d7_5 (by decide) (pc' := 6) rfl ?_
  refine Seg.iaload (v := (.int (Int32.ofNat kq))) K' ⟨by decide, by decide⟩ rfl d7_6 (pc' := 7) rfl ?_
  refine Seg.istoreN (L' := #[.val (.ref a), .val (.ref b), .val (.int (Int32.ofNat kp)), .val (.int (Int32.ofNat kq))]) d7_7 rfl (pc' := 8) rfl ?_
  exact Seg.post (fun v h q => ⟨by rw [← rf_cmp hp hq]; exact q.1, q.2⟩) (rf_8 G a b ka kb p0 p1 p2 q0 q1 q2 kp kq h0 K K' hp hq)
theorem d12_0 : decode method_8_code 0 = .ok (.iload_n 0, 1) := by decide +kernel
theorem d12_1 : decode method_8_code 1 = .ok (.ifCond .ge 7, 3) := by decide +kernel
theorem d12_4 : decode method_8_code 4 = .ok (.iconst (-1), 1) := by decide +kernel
theorem d12_5 : decode method_8_code 5 = .ok (.goto 12, 3) := by decide +kernel
theorem d12_17 : decode method_8_code 17 = .ok (.ireturn, 1) := by decide +kernel
theorem d12_8 : decode method_8_code 8 = .ok (.iload_n 0, 1) := by decide +kernel
theorem d12_9 : decode method_8_code 9 = .ok (.ifCond .le 7, 3) := by decide +kernel
theorem d12_16 : decode method_8_code 16 = .ok (.iconst 0, 1) := by decide +kernel
theorem d12_12 : decode method_8_code 12 = .ok (.iconst 1, 1) := by decide +kernel
theorem d12_13 : decode method_8_code 13 = .ok (.goto 4, 3) := by decide +kernel
theorem ef_ct_sign (u : Int32) (m : MethodId) : entryFrame m #[(.int u)] 1 = mkF m 0 #[.val (.int u)] [] := by first | (simp [entryFrame, mkF, argsToLocals, Value.category]; done) | rfl
set_option maxRecDepth 65536 in
set_option maxHeartbeats 4000000 in
theorem ct_sign {l : Launch} {Z : State} {a0 : Array Value} (G : Env1 Z a0) (u : Int32) (h0 : Heap) (hu : u = -1 ∨ u = 0 ∨ u = 1) :
    Ct l Z EL1 [] [] (⟨"com/example/erne/erne/SummaryCompareNamesPinLaw", "sign", "(I)I"⟩ : MethodName) method_8_code 1 (some .int) ({ frames := 0, cells := 0, slots := 0, locals := 0 } : Room) #[(.int u)] h0 (fun v h => v = some (.int u) ∧ h0 = h) := by
  refine Ct.of_seg (a0 := a0) (plainFor_of_name pn_com_example_erne_erne_SummaryCompareNamesPinLaw) G.2.1 (ef_ct_sign u) ?_
  rcases hu with rfl | rfl | rfl
  · refine Seg.iloadN d12_0 rfl (pc' := 1) rfl ?_
    refine Seg.ifN d12_1 (by decide) (pc' := 4) rfl ?_
    refine Seg.iconst (v := -1) d12_4 (by decide) (pc' := 5) rfl ?_
    refine Seg.goto (pc' := 17) d12_5 (by decide) (by decide) ?_
    exact Seg.retI rfl d12_17 (by decide) (by decide) ⟨rfl, rfl⟩
  · refine Seg.iloadN d12_0 rfl (pc' := 1) rfl ?_
    refine Seg.ifY (pc' := 8) d12_1 (by decide) (by decide) (by decide) ?_
    refine Seg.iloadN d12_8 rfl (pc' := 9) rfl ?_
    refine Seg.ifY (pc' := 16) d12_9 (by decide) (by decide) (by decide) ?_
    refine Seg.iconst (v := 0) d12_16 (by decide) (pc' := 17) rfl ?_
    exact Seg.retI rfl d12_17 (by decide) (by decide) ⟨rfl, rfl⟩
  · refine Seg.iloadN d12_0 rfl (pc' := 1) rfl ?_
    refine Seg.ifY (pc' := 8) d12_1 (by decide) (by decide) (by decide) ?_
    refine Seg.iloadN d12_8 rfl (pc' := 9) rfl ?_
    refine Seg.ifN d12_9 (by decide) (pc' := 12) rfl ?_
    refine Seg.iconst (v := 1) d12_12 (by decide) (pc' := 13) rfl ?_
    refine Seg.goto (pc' := 17) d12_13 (by decide) (by decide) ?_
    exact Seg.retI rfl d12_17 (by decide) (by decide) ⟨rfl, rfl⟩
theorem pd_19 : parseMethodDescriptor "(ICCC)Ljava/lang/String;" = some ⟨[.int, .char, .char, .char], some (.object "java/lang/String")⟩ := by decide +kernel
theorem pd_20 : parseMethodDescriptor "([CI)[I" = some ⟨[(.array .char), .int], some (.array .int)⟩ := by decide +kernel
theorem pd_21 : parseMethodDescriptor "([I[I)I" = some ⟨[(.array .int), (.array .int)], some .int⟩ := by decide +kernel
theorem pd_22 : parseMethodDescriptor "(Ljava/lang/String;Ljava/lang/String;)I" = some ⟨[(.object "java/lang/String"), (.object "java/lang/String")], some .int⟩ := by decide +kernel
set_option maxRecDepth 65536 in
set_option maxHeartbeats 4000000 in
theorem sg96 {l : Launch} {Z : State} {a0 : Array Value} (G : Env1 Z a0) (p1 : Int32) (p2 : Int32) (p3 : Int32) (p4 : Int32) (p5 : Int32) (p6 : Int32) (n : Nat) (m' : Nat) (x0 : Int32) (x1 : Int32) (x2 : Int32) (y0 : Int32) (y1 : Int32) (y2 : Int32) (h : Heap) (hn : n < 4) (hm : m' < 4) (zx0 : ¬ x0 < 0 ∧ ¬ (65535 : Int32) < x0) (zx1 : ¬ x1 < 0 ∧ ¬ (65535 : Int32) < x1) (zx2 : ¬ x2 < 0 ∧ ¬ (65535 : Int32) < x2) (zy0 : ¬ y0 < 0 ∧ ¬ (65535 : Int32) < y0) (zy1 : ¬ y1 < 0 ∧ ¬ (65535 : Int32) < y1) (zy2 : ¬ y2 < 0 ∧ ¬ (65535 : Int32) < y2) :
    Seg l Z a0 EL1 x code maxLocals ret room_1 (fun v h => v = some (.int 1)) h 0 0 [] 96 #[.val (.int p1), .val (.int p2), .val (.int p3), .val (.int p4), .val (.int p5), .val (.int p6), .val (.int (Int32.ofNat n)), .val (.int (Int32.ofNat m')), .val (.int x0), .val (.int x1), .val (.int x2), .val (.int y0), .val (.int y1), .unset, .unset, .unset, .unset, .unset, .unset, .unset] [(.int y2)] := by
  refine Seg.istore (L' := #[.val (.int p1), .val (.int p2), .val (.int p3), .val (.int p4), .val (.int p5), .val (.int p6), .val (.int (Int32.ofNat n)), .val (.int (Int32.ofNat m')), .val (.int x0), .val (.int x1), .val (.int x2), .val (.int y0), .val (.int y1), .val (.int y2), .unset, .unset, .unset, .unset, .unset, .unset]) at_96 rfl (pc' := 98) rfl ?_
  refine Seg.iload at_98 rfl (pc' := 100) rfl ?_
  refine Seg.iload at_100 rfl (pc' := 102) rfl ?_
  refine Seg.iload at_102 rfl (pc' := 104) rfl ?_
  refine Seg.iload at_104 rfl (pc' := 106) rfl ?_
  refine Seg.callS (y' := (⟨"com/example/erne/erne/SummaryCompareNamesPinLaw", "text", "(ICCC)Ljava/lang/String;"⟩ : MethodName)) (wd G 7 rfl) (wd G 8 rfl) (wd G 2 rfl) (wd G 9 rfl) ⟨by decide, by decide⟩ (Pays.of_ct (W := 0) (ct_text G n x0 x1 x2 h hn zx0 zx1 zx2) all0 (wd G 9 rfl) (wd G 2 rfl) (by decide) (by decide) rfl rfl) (argsL := [(.int (Int32.ofNat n)), (.int x0), (.int x1), (.int x2)]) (rest := []) rfl (lenOf pd_19 rfl) rfl (Nat.le_of_eq rfl) rfl at_106 (pc' := 109) rfl (k' := 6) (n' := 16) rfl rfl (by decide) (by decide) ?_
  intro v_1 h_4 sz_2 q_3
  obtain ⟨s1, rfl, E1, F1⟩ := q_3
  refine Seg.astore (L' := #[.val (.int p1), .val (.int p2), .val (.int p3), .val (.int p4), .val (.int p5), .val (.int p6), .val (.int (Int32.ofNat n)), .val (.int (Int32.ofNat m')), .val (.int x0), .val (.int x1), .val (.int x2), .val (.int y0), .val (.int y1), .val (.int y2), .val (.ref s1), .unset, .unset, .unset, .unset, .unset]) at_109 rfl rfl (pc' := 111) rfl ?_
  refine Seg.iload at_111 rfl (pc' := 113) rfl ?_
  refine Seg.iload at_113 rfl (pc' := 115) rfl ?_
  refine Seg.iload at_115 rfl (pc' := 117) rfl ?_
  refine Seg.iload at_117 rfl (pc' := 119) rfl ?_
  refine Seg.callS (y' := (⟨"com/example/erne/erne/SummaryCompareNamesPinLaw", "text", "(ICCC)Ljava/lang/String;"⟩ : MethodName)) (wd G 7 rfl) (wd G 8 rfl) (wd G 2 rfl) (wd G 9 rfl) ⟨by decide, by decide⟩ (Pays.of_ct (W := 0) (ct_text G m' y0 y1 y2 h_4 hm zy0 zy1 zy2) all0 (wd G 9 rfl) (wd G 2 rfl) (by decide) (by decide) rfl rfl) (argsL := [(.int (Int32.ofNat m')), (.int y0), (.int y1), (.int y2)]) (rest := []) rfl (lenOf pd_19 rfl) rfl (Nat.le_of_eq rfl) rfl at_119 (pc' := 122) rfl (k' := 12) (n' := 32) rfl rfl (by decide) (by decide) ?_
  intro v_5 h_8 sz_6 q_7
  obtain ⟨s2, rfl, E2, F2⟩ := q_7
  refine Seg.astore (L' := #[.val (.int p1), .val (.int p2), .val (.int p3), .val (.int p4), .val (.int p5), .val (.int p6), .val (.int (Int32.ofNat n)), .val (.int (Int32.ofNat m')), .val (.int x0), .val (.int x1), .val (.int x2), .val (.int y0), .val (.int y1), .val (.int y2), .val (.ref s1), .val (.ref s2), .unset, .unset, .unset, .unset]) at_122 rfl rfl (pc' := 124) rfl ?_
  refine Seg.iconst (v := 3) at_124 (by decide) (pc' := 125) rfl ?_
  refine Seg.newP (ty := .char) (dv := (.int 0)) rfl rfl (wd G 13 rfl) at_125 (pc' := 127) rfl (by decide) (cap := 3) (by decide) (by decide) (k' := 13) (n' := 35) rfl rfl (by decide) (by decide) ?_
  intro b_9 h_11 k_b_9 E_10 e_b_9 l_b_9 A_b_9
  replace A_b_9 : Arv Z h_11 b_9 k_b_9 .char (3 : Int32) [(.int (0 : Int32)), (.int (0 : Int32)), (.int (0 : Int32))] (.int 0) := A_b_9.pad (pad_rep [] (.int 0) 3)
  refine Seg.dup at_127 rfl (pc' := 128) rfl ?_
  refine Seg.iconst (v := 0) at_128 (by decide) (pc' := 129) rfl ?_
  refine Seg.iload at_129 rfl (pc' := 131) rfl ?_
  refine Seg.castore (v' := x0) (i := 0) A_b_9 ⟨by decide, by decide⟩ rfl (Nat.le_of_ble_eq_true rfl) (nar16 zx0) (List.mem_of_getElem? (i := 0) rfl) at_131 (pc' := 132) rfl ?_
  intro h_14 W_12 A_13
  replace A_13 : Arv Z h_14 b_9 k_b_9 .char (3 : Int32) [(.int x0), (.int (0 : Int32)), (.int (0 : Int32))] (.int 0) := A_13
  refine Seg.dup at_132 rfl (pc' := 133) rfl ?_
  refine Seg.iconst (v := 1) at_133 (by decide) (pc' := 134) rfl ?_
  refine Seg.iload at_134 rfl (pc' := 136) rfl ?_
  refine Seg.castore (v' := x1) (i := 1) A_13 ⟨by decide, by decide⟩ rfl (Nat.le_of_ble_eq_true rfl) (nar16 zx1) (List.mem_of_getElem? (i := 0) rfl) at_136 (pc' := 137) rfl ?_
  intro h_17 W_15 A_16
  replace A_16 : Arv Z h_17 b_9 k_b_9 .char (3 : Int32) [(.int x0), (.int x1), (.int (0 : Int32))] (.int 0) := A_16
  refine Seg.dup at_137 rfl (pc' := 138) rfl ?_
  refine Seg.iconst (v := 2) at_138 (by decide) (pc' := 139) rfl ?_
  refine Seg.iload at_139 rfl (pc' := 141) rfl ?_
  refine Seg.castore (v' := x2) (i := 2) A_16 ⟨by decide, by decide⟩ rfl (Nat.le_of_ble_eq_true rfl) (nar16 zx2) (List.mem_of_getElem? (i := 0) rfl) at_141 (pc' := 142) rfl ?_
  intro h_20 W_18 A_19
  replace A_19 : Arv Z h_20 b_9 k_b_9 .char (3 : Int32) [(.int x0), (.int x1), (.int x2)] (.int 0) := A_19
  refine Seg.iload at_142 rfl (pc' := 144) rfl ?_
  refine Seg.callS (y' := (⟨"com/example/erne/erne/SummaryCompareNamesPinLaw", "points", "([CI)[I"⟩ : MethodName)) (wd G 32 rfl) (wd G 33 rfl) (wd G 2 rfl) (wd G 34 rfl) ⟨by decide, by decide⟩ (Pays.of_ct (W := 0) (ct_pts G b_9 k_b_9 [x0, x1, x2] n h_20 A_19 rfl hn) all0 (wd G 34 rfl) (wd G 2 rfl) (by decide) (by decide) rfl rfl) (argsL := [(.ref b_9), (.int (Int32.ofNat n))]) (rest := []) rfl (lenOf pd_20 rfl) rfl (Nat.le_of_eq rfl) rfl at_144 (pc' := 147) rfl (k' := 14) (n' := 39) rfl rfl (by decide) (by decide) ?_
  intro v_21 h_24 sz_22 q_23
  obtain ⟨r0, kr0, o0, b0, c0, k0, rfl, E3, A0, g0, e0⟩ := q_23
  refine Seg.astore (L' := #[.val (.int p1), .val (.int p2), .val (.int p3), .val (.int p4), .val (.int p5), .val (.int p6), .val (.int (Int32.ofNat n)), .val (.int (Int32.ofNat m')), .val (.int x0), .val (.int x1), .val (.int x2), .val (.int y0), .val (.int y1), .val (.int y2), .val (.ref s1), .val (.ref s2), .val (.ref r0), .unset, .unset, .unset]) at_147 rfl rfl (pc' := 149) rfl ?_
  refine Seg.iconst (v := 3) at_149 (by decide) (pc' := 150) rfl ?_
  refine Seg.newP (ty := .char) (dv := (.int 0)) rfl rfl (wd G 13 rfl) at_150 (pc' := 152) rfl (by decide) (cap := 3) (by decide) (by decide) (k' := 15) (n' := 42) rfl rfl (by decide) (by decide) ?_
  intro b_25 h_27 k_b_25 E_26 e_b_25 l_b_25 A_b_25
  replace A_b_25 : Arv Z h_27 b_25 k_b_25 .char (3 : Int32) [(.int (0 : Int32)), (.int (0 : Int32)), (.int (0 : Int32))] (.int 0) := A_b_25.pad (pad_rep [] (.int 0) 3)
  refine Seg.dup at_152 rfl (pc' := 153) rfl ?_
  refine Seg.iconst (v := 0) at_153 (by decide) (pc' := 154) rfl ?_
  refine Seg.iload at_154 rfl (pc' := 156) rfl ?_
  refine Seg.castore (v' := y0) (i := 0) A_b_25 ⟨by decide, by decide⟩ rfl (Nat.le_of_ble_eq_true rfl) (nar16 zy0) (List.mem_of_getElem? (i := 0) rfl) at_156 (pc' := 157) rfl ?_
  intro h_30 W_28 A_29
  replace A_29 : Arv Z h_30 b_25 k_b_25 .char (3 : Int32) [(.int y0), (.int (0 : Int32)), (.int (0 : Int32))] (.int 0) := A_29
  refine Seg.dup at_157 rfl (pc' := 158) rfl ?_
  refine Seg.iconst (v := 1) at_158 (by decide) (pc' := 159) rfl ?_
  refine Seg.iload at_159 rfl (pc' := 161) rfl ?_
  refine Seg.castore (v' := y1) (i := 1) A_29 ⟨by decide, by decide⟩ rfl (Nat.le_of_ble_eq_true rfl) (nar16 zy1) (List.mem_of_getElem? (i := 0) rfl) at_161 (pc' := 162) rfl ?_
  intro h_33 W_31 A_32
  replace A_32 : Arv Z h_33 b_25 k_b_25 .char (3 : Int32) [(.int y0), (.int y1), (.int (0 : Int32))] (.int 0) := A_32
  refine Seg.dup at_162 rfl (pc' := 163) rfl ?_
  refine Seg.iconst (v := 2) at_163 (by decide) (pc' := 164) rfl ?_
  refine Seg.iload at_164 rfl (pc' := 166) rfl ?_
  refine Seg.castore (v' := y2) (i := 2) A_32 ⟨by decide, by decide⟩ rfl (Nat.le_of_ble_eq_true rfl) (nar16 zy2) (List.mem_of_getElem? (i := 0) rfl) at_166 (pc' := 167) rfl ?_
  intro h_36 W_34 A_35
  replace A_35 : Arv Z h_36 b_25 k_b_25 .char (3 : Int32) [(.int y0), (.int y1), (.int y2)] (.int 0) := A_35
  refine Seg.iload at_167 rfl (pc' := 169) rfl ?_
  refine Seg.callS (y' := (⟨"com/example/erne/erne/SummaryCompareNamesPinLaw", "points", "([CI)[I"⟩ : MethodName)) (wd G 32 rfl) (wd G 33 rfl) (wd G 2 rfl) (wd G 34 rfl) ⟨by decide, by decide⟩ (Pays.of_ct (W := 0) (ct_pts G b_25 k_b_25 [y0, y1, y2] m' h_36 A_35 rfl hm) all0 (wd G 34 rfl) (wd G 2 rfl) (by decide) (by decide) rfl rfl) (argsL := [(.ref b_25), (.int (Int32.ofNat m'))]) (rest := []) rfl (lenOf pd_20 rfl) rfl (Nat.le_of_eq rfl) rfl at_169 (pc' := 172) rfl (k' := 16) (n' := 46) rfl rfl (by decide) (by decide) ?_
  intro v_37 h_40 sz_38 q_39
  obtain ⟨r1, kr1, o1, b1, c1, k1, rfl, E4, A1, g1, e1⟩ := q_39
  refine Seg.astore (L' := #[.val (.int p1), .val (.int p2), .val (.int p3), .val (.int p4), .val (.int p5), .val (.int p6), .val (.int (Int32.ofNat n)), .val (.int (Int32.ofNat m')), .val (.int x0), .val (.int x1), .val (.int x2), .val (.int y0), .val (.int y1), .val (.int y2), .val (.ref s1), .val (.ref s2), .val (.ref r0), .val (.ref r1), .unset, .unset]) at_172 rfl rfl (pc' := 174) rfl ?_
  refine Seg.aload at_174 rfl rfl (pc' := 176) rfl ?_
  refine Seg.aload at_176 rfl rfl (pc' := 178) rfl ?_
  have E_41 : Ext h_24 h_30 := ext_wr E_26 W_28 (Nat.le_trans (ext_rfl _).1 (Nat.le_of_eq e_b_25))
  have E_42 : Ext h_24 h_33 := ext_wr E_41 W_31 (Nat.le_trans (ext_rfl _).1 (Nat.le_of_eq e_b_25))
  have E_43 : Ext h_24 h_36 := ext_wr E_42 W_34 (Nat.le_trans (ext_rfl _).1 (Nat.le_of_eq e_b_25))
  have E_44 : Ext h_24 h_40 := ext_tr E_43 E4
  have F_45 := A0.ext E_44
  refine Seg.callS (y' := (⟨"com/example/erne/erne/SummaryCompareNamesPinLaw", "reference", "([I[I)I"⟩ : MethodName)) (wd G 36 rfl) (wd G 37 rfl) (wd G 2 rfl) (wd G 38 rfl) ⟨by decide, by decide⟩ (Pays.of_ct (W := 0) (ct_ref G r0 r1 kr0 kr1 o0 b0 c0 o1 b1 c1 k0 k1 h_40 F_45 A1 g0 g1) all0 (wd G 38 rfl) (wd G 2 rfl) (by decide) (by decide) rfl rfl) (argsL := [(.ref r0), (.ref r1)]) (rest := []) rfl (lenOf pd_21 rfl) rfl (Nat.le_of_eq rfl) rfl at_178 (pc' := 181) rfl (k' := 16) (n' := 46) rfl rfl (by decide) (by decide) ?_
  intro v_46 h_49 sz_47 q_48
  obtain ⟨rfl, rfl⟩ := q_48
  refine Seg.istore (L' := #[.val (.int p1), .val (.int p2), .val (.int p3), .val (.int p4), .val (.int p5), .val (.int p6), .val (.int (Int32.ofNat n)), .val (.int (Int32.ofNat m')), .val (.int x0), .val (.int x1), .val (.int x2), .val (.int y0), .val (.int y1), .val (.int y2), .val (.ref s1), .val (.ref s2), .val (.ref r0), .val (.ref r1), .val (.int (cmpL ([o0, b0, c0].take k0) ([o1, b1, c1].take k1))), .unset]) at_181 rfl (pc' := 183) rfl ?_
  refine Seg.aload at_183 rfl rfl (pc' := 185) rfl ?_
  refine Seg.aload at_185 rfl rfl (pc' := 187) rfl ?_
  have E_50 : Ext h_4 h_11 := ext_tr E2 E_10
  have E_51 : Ext h_4 h_14 := ext_wr E_50 W_12 (Nat.le_trans E2.1 (Nat.le_of_eq e_b_9))
  have E_52 : Ext h_4 h_17 := ext_wr E_51 W_15 (Nat.le_trans E2.1 (Nat.le_of_eq e_b_9))
  have E_53 : Ext h_4 h_20 := ext_wr E_52 W_18 (Nat.le_trans E2.1 (Nat.le_of_eq e_b_9))
  have E_54 : Ext h_4 h_24 := ext_tr E_53 E3
  have E_55 : Ext h_4 h_27 := ext_tr E_54 E_26
  have E_56 : Ext h_4 h_30 := ext_wr E_55 W_28 (Nat.le_trans E_54.1 (Nat.le_of_eq e_b_25))
  have E_57 : Ext h_4 h_33 := ext_wr E_56 W_31 (Nat.le_trans E_54.1 (Nat.le_of_eq e_b_25))
  have E_58 : Ext h_4 h_36 := ext_wr E_57 W_34 (Nat.le_trans E_54.1 (Nat.le_of_eq e_b_25))
  have E_59 : Ext h_4 h_40 := ext_tr E_58 E4
  have F_60 := F1.ext E_59
  have E_61 : Ext h_8 h_14 := ext_wr E_10 W_12 (Nat.le_trans (ext_rfl _).1 (Nat.le_of_eq e_b_9))
  have E_62 : Ext h_8 h_17 := ext_wr E_61 W_15 (Nat.le_trans (ext_rfl _).1 (Nat.le_of_eq e_b_9))
  have E_63 : Ext h_8 h_20 := ext_wr E_62 W_18 (Nat.le_trans (ext_rfl _).1 (Nat.le_of_eq e_b_9))
  have E_64 : Ext h_8 h_24 := ext_tr E_63 E3
  have E_65 : Ext h_8 h_27 := ext_tr E_64 E_26
  have E_66 : Ext h_8 h_30 := ext_wr E_65 W_28 (Nat.le_trans E_64.1 (Nat.le_of_eq e_b_25))
  have E_67 : Ext h_8 h_33 := ext_wr E_66 W_31 (Nat.le_trans E_64.1 (Nat.le_of_eq e_b_25))
  have E_68 : Ext h_8 h_36 := ext_wr E_67 W_34 (Nat.le_trans E_64.1 (Nat.le_of_eq e_b_25))
  have E_69 : Ext h_8 h_40 := ext_tr E_68 E4
  have F_70 := F2.ext E_69
  refine Seg.callS (y' := (⟨"com/example/erne/erne/Summary", "compareNames", "(Ljava/lang/String;Ljava/lang/String;)I"⟩ : MethodName)) (wd G 39 rfl) (wd G 40 rfl) (wd G 41 rfl) (wd G 42 rfl) ⟨by decide, by decide⟩ (Pays.of_ct (W := 0) (ct_cmp G s1 s2 ([x0, x1, x2].take n) ([y0, y1, y2].take m') h_40 F_60 F_70 (by rw [List.length_take]; exact Nat.min_le_right _ _) (by rw [List.length_take]; exact Nat.min_le_right _ _)) all0 (wd G 42 rfl) (wd G 41 rfl) (by decide) (by decide) rfl rfl) (argsL := [(.ref s1), (.ref s2)]) (rest := []) rfl (lenOf pd_22 rfl) rfl (Nat.le_of_eq rfl) rfl at_187 (pc' := 190) rfl (k' := 16) (n' := 46) rfl rfl (by decide) (by decide) ?_
  intro v_71 h_74 sz_72 q_73
  obtain ⟨rfl, rfl⟩ := q_73
  refine Seg.istore (L' := #[.val (.int p1), .val (.int p2), .val (.int p3), .val (.int p4), .val (.int p5), .val (.int p6), .val (.int (Int32.ofNat n)), .val (.int (Int32.ofNat m')), .val (.int x0), .val (.int x1), .val (.int x2), .val (.int y0), .val (.int y1), .val (.int y2), .val (.ref s1), .val (.ref s2), .val (.ref r0), .val (.ref r1), .val (.int (cmpL ([o0, b0, c0].take k0) ([o1, b1, c1].take k1))), .val (.int (cmpL (ptsF 3 ([x0, x1, x2].take n) 0) (ptsF 3 ([y0, y1, y2].take m') 0)))]) at_190 rfl (pc' := 192) rfl ?_
  refine Seg.iload at_192 rfl (pc' := 194) rfl ?_
  refine Seg.callS (y' := (⟨"com/example/erne/erne/SummaryCompareNamesPinLaw", "sign", "(I)I"⟩ : MethodName)) (wd G 58 rfl) (wd G 59 rfl) (wd G 2 rfl) (wd G 60 rfl) ⟨by decide, by decide⟩ (Pays.of_ct (W := 0) (ct_sign G (cmpL (ptsF 3 ([x0, x1, x2].take n) 0) (ptsF 3 ([y0, y1, y2].take m') 0)) h_40 (cmp_rng _ _)) all0 (wd G 60 rfl) (wd G 2 rfl) (by decide) (by decide) rfl rfl) (argsL := [(.int (cmpL (ptsF 3 ([x0, x1, x2].take n) 0) (ptsF 3 ([y0, y1, y2].take m') 0)))]) (rest := []) rfl (lenOf pd_1 rfl) rfl (Nat.le_of_eq rfl) rfl at_194 (pc' := 197) rfl (k' := 16) (n' := 46) rfl rfl (by decide) (by decide) ?_
  intro v_75 h_78 sz_76 q_77
  obtain ⟨rfl, rfl⟩ := q_77
  refine Seg.iload at_197 rfl (pc' := 199) rfl ?_
  refine Seg.icN at_199 (XT.ii_ne_f (by rw [e0, e1])) (pc' := 202) rfl ?_
  refine Seg.iconst (v := 1) at_202 (by decide) (pc' := 203) rfl ?_
  refine Seg.goto (pc' := 207) at_203 (by decide) (by decide) ?_
  exact Seg.retN (t := .boolean) (w := (1 : Int32)) rfl (by decide) (by decide) at_207 (by decide) (by decide) rfl
theorem pd_23 : parseMethodDescriptor "(I)C" = some ⟨[.int], some .char⟩ := by decide +kernel
set_option maxRecDepth 65536 in
set_option maxHeartbeats 4000000 in
theorem sg74 {l : Launch} {Z : State} {a0 : Array Value} (G : Env1 Z a0) (p1 : Int32) (p2 : Int32) (p3 : Int32) (p4 : Int32) (p5 : Int32) (p6 : Int32) (n : Nat) (m' : Nat) (x0 : Int32) (x1 : Int32) (x2 : Int32) (y0 : Int32) (y1 : Int32) (h : Heap) (hn : n < 4) (hm : m' < 4) (zx0 : ¬ x0 < 0 ∧ ¬ (65535 : Int32) < x0) (zx1 : ¬ x1 < 0 ∧ ¬ (65535 : Int32) < x1) (zx2 : ¬ x2 < 0 ∧ ¬ (65535 : Int32) < x2) (zy0 : ¬ y0 < 0 ∧ ¬ (65535 : Int32) < y0) (zy1 : ¬ y1 < 0 ∧ ¬ (65535 : Int32) < y1) :
    Seg l Z a0 EL1 x code maxLocals ret room_1 (fun v h => v = some (.int 1)) h 0 0 [] 74 #[.val (.int p1), .val (.int p2), .val (.int p3), .val (.int p4), .val (.int p5), .val (.int p6), .val (.int (Int32.ofNat n)), .val (.int (Int32.ofNat m')), .val (.int x0), .val (.int x1), .val (.int x2), .val (.int y0), .unset, .unset, .unset, .unset, .unset, .unset, .unset, .unset] [(.int y1)] := by
  refine Seg.istore (L' := #[.val (.int p1), .val (.int p2), .val (.int p3), .val (.int p4), .val (.int p5), .val (.int p6), .val (.int (Int32.ofNat n)), .val (.int (Int32.ofNat m')), .val (.int x0), .val (.int x1), .val (.int x2), .val (.int y0), .val (.int y1), .unset, .unset, .unset, .unset, .unset, .unset, .unset]) at_74 rfl (pc' := 76) rfl ?_
  refine Seg.iload at_76 rfl (pc' := 78) rfl ?_
  refine Seg.bipush (v := 24) at_78 (by decide) (pc' := 80) rfl ?_
  refine Seg.iushr (v := ((p6).toUInt32 >>> ((24 : Int32) &&& 31).toUInt32).toInt32) at_80 rfl (pc' := 81) rfl ?_
  refine Seg.iconst (v := 1) at_81 (by decide) (pc' := 82) rfl ?_
  refine Seg.iand (v := (((p6).toUInt32 >>> ((24 : Int32) &&& 31).toUInt32).toInt32 &&& (1 : Int32))) at_82 rfl (pc' := 83) rfl ?_
  by_cases h1 : (((p6).toUInt32 >>> ((24 : Int32) &&& 31).toUInt32).toInt32 &&& (1 : Int32)) = 0
  · refine Seg.ifY (pc' := 91) at_83 (XT.i0_eq_t h1) (by decide) (by decide) ?_
    refine Seg.iload at_91 rfl (pc' := 93) rfl ?_
    refine Seg.callS (y' := (⟨"com/example/erne/erne/SummaryCompareNamesPinLaw", "draw", "(I)C"⟩ : MethodName)) (wd G 0 rfl) (wd G 1 rfl) (wd G 2 rfl) (wd G 3 rfl) ⟨by decide, by decide⟩ (Pays.of_ct (W := 0) (ct_draw G p6 h) all0 (wd G 3 rfl) (wd G 2 rfl) (by decide) (by decide) rfl rfl) (argsL := [(.int p6)]) (rest := []) rfl (lenOf pd_23 rfl) rfl (Nat.le_of_eq rfl) rfl at_93 (pc' := 96) rfl (k' := 0) (n' := 0) rfl rfl (by decide) (by decide) ?_
    intro v_1 h_4 sz_2 q_3
    obtain ⟨yk, rfl, rfl, zk⟩ := q_3
    exact sg96 G p1 p2 p3 p4 p5 p6 n m' x0 x1 x2 y0 y1 yk h hn hm zx0 zx1 zx2 zy0 zy1 zk
  · refine Seg.ifN at_83 (XT.i0_eq_f h1) (pc' := 86) rfl ?_
    refine Seg.iload at_86 rfl (pc' := 88) rfl ?_
    refine Seg.goto (pc' := 96) at_88 (by decide) (by decide) ?_
    exact sg96 G p1 p2 p3 p4 p5 p6 n m' x0 x1 x2 y0 y1 x2 h hn hm zx0 zx1 zx2 zy0 zy1 zx2
set_option maxRecDepth 65536 in
set_option maxHeartbeats 4000000 in
theorem sg52 {l : Launch} {Z : State} {a0 : Array Value} (G : Env1 Z a0) (p1 : Int32) (p2 : Int32) (p3 : Int32) (p4 : Int32) (p5 : Int32) (p6 : Int32) (n : Nat) (m' : Nat) (x0 : Int32) (x1 : Int32) (x2 : Int32) (y0 : Int32) (h : Heap) (hn : n < 4) (hm : m' < 4) (zx0 : ¬ x0 < 0 ∧ ¬ (65535 : Int32) < x0) (zx1 : ¬ x1 < 0 ∧ ¬ (65535 : Int32) < x1) (zx2 : ¬ x2 < 0 ∧ ¬ (65535 : Int32) < x2) (zy0 : ¬ y0 < 0 ∧ ¬ (65535 : Int32) < y0) :
    Seg l Z a0 EL1 x code maxLocals ret room_1 (fun v h => v = some (.int 1)) h 0 0 [] 52 #[.val (.int p1), .val (.int p2), .val (.int p3), .val (.int p4), .val (.int p5), .val (.int p6), .val (.int (Int32.ofNat n)), .val (.int (Int32.ofNat m')), .val (.int x0), .val (.int x1), .val (.int x2), .unset, .unset, .unset, .unset, .unset, .unset, .unset, .unset, .unset] [(.int y0)] := by
  refine Seg.istore (L' := #[.val (.int p1), .val (.int p2), .val (.int p3), .val (.int p4), .val (.int p5), .val (.int p6), .val (.int (Int32.ofNat n)), .val (.int (Int32.ofNat m')), .val (.int x0), .val (.int x1), .val (.int x2), .val (.int y0), .unset, .unset, .unset, .unset, .unset, .unset, .unset, .unset]) at_52 rfl (pc' := 54) rfl ?_
  refine Seg.iload at_54 rfl (pc' := 56) rfl ?_
  refine Seg.bipush (v := 24) at_56 (by decide) (pc' := 58) rfl ?_
  refine Seg.iushr (v := ((p5).toUInt32 >>> ((24 : Int32) &&& 31).toUInt32).toInt32) at_58 rfl (pc' := 59) rfl ?_
  refine Seg.iconst (v := 1) at_59 (by decide) (pc' := 60) rfl ?_
  refine Seg.iand (v := (((p5).toUInt32 >>> ((24 : Int32) &&& 31).toUInt32).toInt32 &&& (1 : Int32))) at_60 rfl (pc' := 61) rfl ?_
  by_cases h1 : (((p5).toUInt32 >>> ((24 : Int32) &&& 31).toUInt32).toInt32 &&& (1 : Int32)) = 0
  · refine Seg.ifY (pc' := 69) at_61 (XT.i0_eq_t h1) (by decide) (by decide) ?_
    refine Seg.iload at_69 rfl (pc' := 71) rfl ?_
    refine Seg.callS (y' := (⟨"com/example/erne/erne/SummaryCompareNamesPinLaw", "draw", "(I)C"⟩ : MethodName)) (wd G 0 rfl) (wd G 1 rfl) (wd G 2 rfl) (wd G 3 rfl) ⟨by decide, by decide⟩ (Pays.of_ct (W := 0) (ct_draw G p5 h) all0 (wd G 3 rfl) (wd G 2 rfl) (by decide) (by decide) rfl rfl) (argsL := [(.int p5)]) (rest := []) rfl (lenOf pd_23 rfl) rfl (Nat.le_of_eq rfl) rfl at_71 (pc' := 74) rfl (k' := 0) (n' := 0) rfl rfl (by decide) (by decide) ?_
    intro v_1 h_4 sz_2 q_3
    obtain ⟨yk, rfl, rfl, zk⟩ := q_3
    exact sg74 G p1 p2 p3 p4 p5 p6 n m' x0 x1 x2 y0 yk h hn hm zx0 zx1 zx2 zy0 zk
  · refine Seg.ifN at_61 (XT.i0_eq_f h1) (pc' := 64) rfl ?_
    refine Seg.iload at_64 rfl (pc' := 66) rfl ?_
    refine Seg.goto (pc' := 74) at_66 (by decide) (by decide) ?_
    exact sg74 G p1 p2 p3 p4 p5 p6 n m' x0 x1 x2 y0 x1 h hn hm zx0 zx1 zx2 zy0 zx1
set_option maxRecDepth 65536 in
set_option maxHeartbeats 4000000 in
theorem sg34 {l : Launch} {Z : State} {a0 : Array Value} (G : Env1 Z a0) (p1 : Int32) (p2 : Int32) (p3 : Int32) (p4 : Int32) (p5 : Int32) (p6 : Int32) (n : Nat) (m' : Nat) (x0 : Int32) (x1 : Int32) (x2 : Int32) (h : Heap) (hn : n < 4) (hm : m' < 4) (zx0 : ¬ x0 < 0 ∧ ¬ (65535 : Int32) < x0) (zx1 : ¬ x1 < 0 ∧ ¬ (65535 : Int32) < x1) (zx2 : ¬ x2 < 0 ∧ ¬ (65535 : Int32) < x2) :
    Seg l Z a0 EL1 x code maxLocals ret room_1 (fun v h => v = some (.int 1)) h 0 0 [] 34 #[.val (.int p1), .val (.int p2), .val (.int p3), .val (.int p4), .val (.int p5), .val (.int p6), .val (.int (Int32.ofNat n)), .val (.int (Int32.ofNat m')), .val (.int x0), .val (.int x1), .val (.int x2), .unset, .unset, .unset, .unset, .unset, .unset, .unset, .unset, .unset] [] := by
  refine Seg.iloadN at_34 rfl (pc' := 35) rfl ?_
  refine Seg.bipush (v := 24) at_35 (by decide) (pc' := 37) rfl ?_
  refine Seg.iushr (v := ((p4).toUInt32 >>> ((24 : Int32) &&& 31).toUInt32).toInt32) at_37 rfl (pc' := 38) rfl ?_
  refine Seg.iconst (v := 1) at_38 (by decide) (pc' := 39) rfl ?_
  refine Seg.iand (v := (((p4).toUInt32 >>> ((24 : Int32) &&& 31).toUInt32).toInt32 &&& (1 : Int32))) at_39 rfl (pc' := 40) rfl ?_
  by_cases h1 : (((p4).toUInt32 >>> ((24 : Int32) &&& 31).toUInt32).toInt32 &&& (1 : Int32)) = 0
  · refine Seg.ifY (pc' := 48) at_40 (XT.i0_eq_t h1) (by decide) (by decide) ?_
    refine Seg.iloadN at_48 rfl (pc' := 49) rfl ?_
    refine Seg.callS (y' := (⟨"com/example/erne/erne/SummaryCompareNamesPinLaw", "draw", "(I)C"⟩ : MethodName)) (wd G 0 rfl) (wd G 1 rfl) (wd G 2 rfl) (wd G 3 rfl) ⟨by decide, by decide⟩ (Pays.of_ct (W := 0) (ct_draw G p4 h) all0 (wd G 3 rfl) (wd G 2 rfl) (by decide) (by decide) rfl rfl) (argsL := [(.int p4)]) (rest := []) rfl (lenOf pd_23 rfl) rfl (Nat.le_of_eq rfl) rfl at_49 (pc' := 52) rfl (k' := 0) (n' := 0) rfl rfl (by decide) (by decide) ?_
    intro v_1 h_4 sz_2 q_3
    obtain ⟨yk, rfl, rfl, zk⟩ := q_3
    exact sg52 G p1 p2 p3 p4 p5 p6 n m' x0 x1 x2 yk h hn hm zx0 zx1 zx2 zk
  · refine Seg.ifN at_40 (XT.i0_eq_f h1) (pc' := 43) rfl ?_
    refine Seg.iload at_43 rfl (pc' := 45) rfl ?_
    refine Seg.goto (pc' := 52) at_45 (by decide) (by decide) ?_
    exact sg52 G p1 p2 p3 p4 p5 p6 n m' x0 x1 x2 x0 h hn hm zx0 zx1 zx2 zx0
set_option maxRecDepth 65536 in
set_option maxHeartbeats 4000000 in
theorem sg0 {l : Launch} {Z : State} {a0 : Array Value} (G : Env1 Z a0) (p1 : Int32) (p2 : Int32) (p3 : Int32) (p4 : Int32) (p5 : Int32) (p6 : Int32) (h0 : Heap) :
    Seg l Z a0 EL1 x code maxLocals ret room_1 (fun v h => v = some (.int 1)) h0 0 0 [] 0 #[.val (.int p1), .val (.int p2), .val (.int p3), .val (.int p4), .val (.int p5), .val (.int p6), .unset, .unset, .unset, .unset, .unset, .unset, .unset, .unset, .unset, .unset, .unset, .unset, .unset, .unset] [] := by
  refine Seg.iloadN at_0 rfl (pc' := 1) rfl ?_
  refine Seg.bipush (v := 20) at_1 (by decide) (pc' := 3) rfl ?_
  refine Seg.iushr (v := ((p1).toUInt32 >>> ((20 : Int32) &&& 31).toUInt32).toInt32) at_3 rfl (pc' := 4) rfl ?_
  refine Seg.iconst (v := 3) at_4 (by decide) (pc' := 5) rfl ?_
  obtain ⟨n, h1, e1⟩ := and3n ((p1).toUInt32 >>> ((20 : Int32) &&& 31).toUInt32).toInt32
  refine Seg.iand (v := (Int32.ofNat n)) at_5 e1 (pc' := 6) rfl ?_
  refine Seg.istore (L' := #[.val (.int p1), .val (.int p2), .val (.int p3), .val (.int p4), .val (.int p5), .val (.int p6), .val (.int (Int32.ofNat n)), .unset, .unset, .unset, .unset, .unset, .unset, .unset, .unset, .unset, .unset, .unset, .unset, .unset]) at_6 rfl (pc' := 8) rfl ?_
  refine Seg.iloadN at_8 rfl (pc' := 9) rfl ?_
  refine Seg.bipush (v := 20) at_9 (by decide) (pc' := 11) rfl ?_
  refine Seg.iushr (v := ((p4).toUInt32 >>> ((20 : Int32) &&& 31).toUInt32).toInt32) at_11 rfl (pc' := 12) rfl ?_
  refine Seg.iconst (v := 3) at_12 (by decide) (pc' := 13) rfl ?_
  obtain ⟨m', h2, e2⟩ := and3n ((p4).toUInt32 >>> ((20 : Int32) &&& 31).toUInt32).toInt32
  refine Seg.iand (v := (Int32.ofNat m')) at_13 e2 (pc' := 14) rfl ?_
  refine Seg.istore (L' := #[.val (.int p1), .val (.int p2), .val (.int p3), .val (.int p4), .val (.int p5), .val (.int p6), .val (.int (Int32.ofNat n)), .val (.int (Int32.ofNat m')), .unset, .unset, .unset, .unset, .unset, .unset, .unset, .unset, .unset, .unset, .unset, .unset]) at_14 rfl (pc' := 16) rfl ?_
  refine Seg.iloadN at_16 rfl (pc' := 17) rfl ?_
  refine Seg.callS (y' := (⟨"com/example/erne/erne/SummaryCompareNamesPinLaw", "draw", "(I)C"⟩ : MethodName)) (wd G 0 rfl) (wd G 1 rfl) (wd G 2 rfl) (wd G 3 rfl) ⟨by decide, by decide⟩ (Pays.of_ct (W := 0) (ct_draw G p1 h0) all0 (wd G 3 rfl) (wd G 2 rfl) (by decide) (by decide) rfl rfl) (argsL := [(.int p1)]) (rest := []) rfl (lenOf pd_23 rfl) rfl (Nat.le_of_eq rfl) rfl at_17 (pc' := 20) rfl (k' := 0) (n' := 0) rfl rfl (by decide) (by decide) ?_
  intro v_1 h_4 sz_2 q_3
  obtain ⟨x0, rfl, rfl, zx0⟩ := q_3
  refine Seg.istore (L' := #[.val (.int p1), .val (.int p2), .val (.int p3), .val (.int p4), .val (.int p5), .val (.int p6), .val (.int (Int32.ofNat n)), .val (.int (Int32.ofNat m')), .val (.int x0), .unset, .unset, .unset, .unset, .unset, .unset, .unset, .unset, .unset, .unset, .unset]) at_20 rfl (pc' := 22) rfl ?_
  refine Seg.iloadN at_22 rfl (pc' := 23) rfl ?_
  refine Seg.callS (y' := (⟨"com/example/erne/erne/SummaryCompareNamesPinLaw", "draw", "(I)C"⟩ : MethodName)) (wd G 0 rfl) (wd G 1 rfl) (wd G 2 rfl) (wd G 3 rfl) ⟨by decide, by decide⟩ (Pays.of_ct (W := 0) (ct_draw G p2 h0) all0 (wd G 3 rfl) (wd G 2 rfl) (by decide) (by decide) rfl rfl) (argsL := [(.int p2)]) (rest := []) rfl (lenOf pd_23 rfl) rfl (Nat.le_of_eq rfl) rfl at_23 (pc' := 26) rfl (k' := 0) (n' := 0) rfl rfl (by decide) (by decide) ?_
  intro v_5 h_8 sz_6 q_7
  obtain ⟨x1, rfl, rfl, zx1⟩ := q_7
  refine Seg.istore (L' := #[.val (.int p1), .val (.int p2), .val (.int p3), .val (.int p4), .val (.int p5), .val (.int p6), .val (.int (Int32.ofNat n)), .val (.int (Int32.ofNat m')), .val (.int x0), .val (.int x1), .unset, .unset, .unset, .unset, .unset, .unset, .unset, .unset, .unset, .unset]) at_26 rfl (pc' := 28) rfl ?_
  refine Seg.iloadN at_28 rfl (pc' := 29) rfl ?_
  refine Seg.callS (y' := (⟨"com/example/erne/erne/SummaryCompareNamesPinLaw", "draw", "(I)C"⟩ : MethodName)) (wd G 0 rfl) (wd G 1 rfl) (wd G 2 rfl) (wd G 3 rfl) ⟨by decide, by decide⟩ (Pays.of_ct (W := 0) (ct_draw G p3 h0) all0 (wd G 3 rfl) (wd G 2 rfl) (by decide) (by decide) rfl rfl) (argsL := [(.int p3)]) (rest := []) rfl (lenOf pd_23 rfl) rfl (Nat.le_of_eq rfl) rfl at_29 (pc' := 32) rfl (k' := 0) (n' := 0) rfl rfl (by decide) (by decide) ?_
  intro v_9 h_12 sz_10 q_11
  obtain ⟨x2, rfl, rfl, zx2⟩ := q_11
  refine Seg.istore (L' := #[.val (.int p1), .val (.int p2), .val (.int p3), .val (.int p4), .val (.int p5), .val (.int p6), .val (.int (Int32.ofNat n)), .val (.int (Int32.ofNat m')), .val (.int x0), .val (.int x1), .val (.int x2), .unset, .unset, .unset, .unset, .unset, .unset, .unset, .unset, .unset]) at_32 rfl (pc' := 34) rfl ?_
  exact sg34 G p1 p2 p3 p4 p5 p6 n m' x0 x1 x2 h0 h1 h2 zx0 zx1 zx2
theorem eqint {args : Array Value} {first s : State} {o : Option Outcome} {idx : List Nat} {t : Term} {n : Int32} (h : (Jvm.Cond.eq t (.int n)).value args first o s idx = some true) : t.eval args first o idx s = some (.int n) := by
  obtain ⟨x, y, h1, h2, h3, -⟩ := cmp_v (Or.inl h)
  cases h2
  cases x <;> simp [Cond.value, h1, Term.eval] at h ⊢
  · exact h
theorem ef_law (i1 : Int32) (i2 : Int32) (i3 : Int32) (i4 : Int32) (i5 : Int32) (i6 : Int32) (m : MethodId) : entryFrame m #[(.int i1), (.int i2), (.int i3), (.int i4), (.int i5), (.int i6)] maxLocals = mkF m 0 #[.val (.int i1), .val (.int i2), .val (.int i3), .val (.int i4), .val (.int i5), .val (.int i6), .unset, .unset, .unset, .unset, .unset, .unset, .unset, .unset, .unset, .unset, .unset, .unset, .unset, .unset] [] := by first | (simp [entryFrame, mkF, argsToLocals, Value.category, maxLocals]; done) | rfl
set_option maxRecDepth 65536 in
set_option maxHeartbeats 40000000 in
theorem comes_1 {Post : Tables → Env → Array Value → State → Outcome → State → Prop} (hpost : ∀ tb e args s v u, (limb_1_1.after args s (.returned v) u = true ∧ limb_1_2.after args s (.returned v) u = true ∧ True) → Jvm.Pilot.@@N@@.Jvm.D.FramedW s (.returned v) u (Jvm.fieldLocs frame_1_writes args s ++ Jvm.arrayLocs frame_1_arrays args s ++ Jvm.staticLocs frame_1_statics s) 40 1216 → Post tb e args s (.returned v) u) :
    Jvm.Pilot.@@N@@.Jvm.D.ArmFor flags0 classFile x code maxLocals ret World_1 tables_1 room_1 Calls_1 rest_1 Pre_1 Post := by
  intro l hfl _ _ p e ha hc hk s m args below hf hA hF happ hP
  obtain ⟨hcalls, hrest, hpre⟩ := hP
  obtain ⟨-, -, -, hnamed, -, -, -, hat⟩ := (Spec.applies_iff hf).mp happ
  obtain ⟨hg, hn⟩ := and_e (Cond.before_iff.mp (show (Jvm.Cond.and given_1 narrow_1).before args s = true from hpre))
  obtain ⟨hc0, g1⟩ := and_e hg
  obtain ⟨a1, g2⟩ := and_e g1
  obtain ⟨a2, g3⟩ := and_e g2
  obtain ⟨a3, g4⟩ := and_e g3
  obtain ⟨a4, g5⟩ := and_e g4
  obtain ⟨a5, g6⟩ := and_e g5
  obtain ⟨w0, w1, w2, w3, w4, w5, rfl⟩ : ∃ w0 w1 w2 w3 w4 w5 : Value, args = #[w0, w1, w2, w3, w4, w5] := by
    have hs : args.size = 6 := by simpa [Cond.value, given_1] using hc0
    obtain ⟨L⟩ := args
    match L, hs with
    | [w0, w1, w2, w3, w4, w5], _ => exact ⟨w0, w1, w2, w3, w4, w5, rfl⟩
  have hw := fun d (hd : d ∈ tables_1) => atoms_spec (ws := Jvm.Cond.code x code maxLocals ret :: tables_1) hat d (List.mem_cons_of_mem _ hd)
  obtain ⟨hsets, hown0⟩ := atoms_of _ (rest_1_c_eq ▸ (show rest_1_c.before _ s = true from hrest))
  have hfit : Fit s := fun {y c} hc i hi => by
    obtain ⟨ha, rfl⟩ := Array.getElem?_eq_some_iff.mp hc
    have q := List.all_eq_true.mp ((Array.all_eq_true_iff_forall_mem.mp hF) _ (Array.getElem_mem ha)) i (List.mem_range.mpr hi)
    simpa [Array.getElem?_eq_getElem hi] using q
  obtain ⟨i1, u0⟩ := is_v a1
  obtain rfl : w0 = (.int i1) := Option.some.inj u0
  obtain ⟨i2, u1⟩ := is_v a2
  obtain rfl : w1 = (.int i2) := Option.some.inj u1
  obtain ⟨i3, u2⟩ := is_v a3
  obtain rfl : w2 = (.int i3) := Option.some.inj u2
  obtain ⟨i4, u3⟩ := is_v a4
  obtain rfl : w3 = (.int i4) := Option.some.inj u3
  obtain ⟨i5, u4⟩ := is_v a5
  obtain rfl : w4 = (.int i5) := Option.some.inj u4
  obtain ⟨i6, u5⟩ := is_v g6
  obtain rfl : w5 = (.int i6) := Option.some.inj u5
  obtain ⟨zc, ec⟩ := is_v (Cond.before_iff.mp (hsets _ (List.mem_of_getElem? (i := 1) rfl)))
  have Sc : Sta s s.heap "java/lang/String" "COMPACT_STRINGS" "Z" (.int zc) := Sta.start ec (Or.inl (hsets _ (List.mem_of_getElem? (i := 0) rfl)))
  have hcw := hsets _ (List.mem_of_getElem? (i := 2) rfl)
  have hzc : ¬ (zc = (0 : Int32)) := gotF (Cond.eq_ints ec (Term.int_eval (0))) (not_v (Cond.before_iff.mp hcw))
  have hEW : EW s #[(.int i1), (.int i2), (.int i3), (.int i4), (.int i5), (.int i6)] EL1 := (EW.cons (hw _ (List.mem_of_getElem? (i := 24) rfl)) (by decide) EW.nil)
  obtain ⟨fm, ef0, hfm⟩ := isR_v (Cond.before_iff.mp (hsets _ (List.mem_of_getElem? (i := 8) rfl)))
  have Sfm : Sta s s.heap "jdk/internal/util/Preconditions" "SIOOBE_FORMATTER" "Ljava/util/function/BiFunction;" fm := Sta.start ef0 (Or.inl (hsets _ (List.mem_of_getElem? (i := 7) rfl)))
  have Sad : Sta s s.heap "java/lang/StringUTF16" "$assertionsDisabled" "Z" (.int 1) := Sta.start (eqint (Cond.before_iff.mp (hsets _ (List.mem_of_getElem? (i := 12) rfl)))) (Or.inl (hsets _ (List.mem_of_getElem? (i := 11) rfl)))
  have Shi : Sta s s.heap "java/lang/StringUTF16" "HI_BYTE_SHIFT" "I" (.int 0) := Sta.start (eqint (Cond.before_iff.mp (hsets _ (List.mem_of_getElem? (i := 15) rfl)))) (Or.inl (hsets _ (List.mem_of_getElem? (i := 14) rfl)))
  have Slo : Sta s s.heap "java/lang/StringUTF16" "LO_BYTE_SHIFT" "I" (.int 8) := Sta.start (eqint (Cond.before_iff.mp (hsets _ (List.mem_of_getElem? (i := 18) rfl)))) (Or.inl (hsets _ (List.mem_of_getElem? (i := 17) rfl)))
  have G : Env1 s #[(.int i1), (.int i2), (.int i3), (.int i4), (.int i5), (.int i6)] := ⟨hw, hEW, ⟨zc, Sc, hzc⟩, ⟨fm, Sfm, hfm⟩, Sad, Shi, Slo⟩
  have hH : CHv s EL1 s.vm s.heap := CHv.start hEW (fun p hp => hcalls.1 p hp) hcw (hw _ (List.mem_of_getElem? (i := 25) rfl)) (hw _ (List.mem_of_getElem? (i := 11) rfl))
  have ct : Ct l s EL1 [] tables_1 x code maxLocals ret room_1 #[(.int i1), (.int i2), (.int i3), (.int i4), (.int i5), (.int i6)] s.heap (fun v h => v = some (.int 1)) := Ct.of_seg (a0 := #[(.int i1), (.int i2), (.int i3), (.int i4), (.int i5), (.int i6)]) (plainFor_of_name pn_com_example_erne_erne_SummaryCompareNamesPinLaw) G.2.1 (ef_law i1 i2 i3 i4 i5 i6) (sg0 G i1 i2 i3 i4 i5 i6 s.heap)
  obtain ⟨n, o, h1, h2, h3, v, L, rfl, ⟨N, -, rfl⟩, hC, hq⟩ := ct p e ha hc hk s m _ below hf ((Spec.applies_iff_loose hf).mp happ).1 ⟨rfl, State.Warmed39.refl s, rfl, hH, (fun x q => nomatch q), ext_rfl _⟩ trivial
  refine ⟨n, _, h1, h2, h3, hpost _ _ _ _ _ _ ⟨Cond.after_iff.mpr rfl, Cond.after_iff.mpr (eq_i res_at (Term.int_eval (1)) rfl), trivial⟩ ?_⟩
  exact ⟨hq.1, hq.2.1, hq.2.2.1, (hq.2.2.2.sift fun y hy => Or.inr (N y hy)).mono (by decide) (by decide)⟩
theorem main_1_1 : Claimed_1_1 := comes_1 fun _ _ _ _ _ _ h hF => ⟨h.1, hF⟩
theorem main_1_2 : Claimed_1_2 := comes_1 fun _ _ _ _ _ _ h hF => ⟨h.2.1, hF⟩
end Jvm.Pilot.@@N@@
namespace Jvm.Pilot.@@N@@
open Jvm Jvm.ClassFile Sem Op Lib Jvm.Free Jvm.Stand Jvm.Pilot.@@N@@.Jvm.D
/-! MADE BY PROGRAM (witnessworld.py) out of the Statement's table words and the real class files: 25 classes; the members and pool entries that the words name. The judged class is class 1, her method 1. -/
namespace start1
open Jvm.ClassFile
def u (s : String) : CpInfo := .utf8 (stringToUtf16 s)
/-- a pool by its gaps: so many unusable entries, then the entry; so many at the end -/
def gap : Nat → List CpInfo → List CpInfo
  | 0, r => r
  | n + 1, r => .unusable :: gap n r
def poolList (es : List (Nat × CpInfo)) (last : Nat) : List CpInfo := es.foldr (fun e r => gap e.1 (e.2 :: r)) (gap last [])
def pool (es : List (Nat × CpInfo)) (last : Nat) : Array CpInfo := ⟨poolList es last⟩
def fileOf (pool : Array CpInfo) (this : Nat) (attrs : Array Attribute := #[]) (ms : Array MethodInfo := #[]) (fl : Nat := 33) (sup : Nat := 0) (ifs : Array Nat := #[]) (fds : Array FieldInfo := #[]) : ClassFile where
  minorVersion := 0
  majorVersion := 65
  constantPool := pool
  accessFlags := fl
  thisClass := this
  superClass := sup
  interfaces := ifs
  fields := fds
  methods := ms
  attributes := attrs
def plain (name : String) (sup : Option ClassId) : Class where
  name := name
  kind := .ordinary
  loader := none
  accessFlags := 33
  super := sup
  interfaces := #[]
  cf := none
  fields := #[]
  methods := #[]
  instanceTypes := #[]
  staticTypes := #[]
  resolved := #[]
  callSites := []
  init := .initialized
  statics := none
  mirror := none

def pool0 : Array CpInfo := pool [(5, u "<init>"), (0, u "()V"), (1, .class_ 10), (1, u "java/lang/Object")] 113

def k0c0 : Code := { maxStack := 0, maxLocals := 1, code := object_method_1_code, exceptionTable := #[], attributes := #[] }
def k0m0 : Method := { name := "<init>", desc := "()V", sig := { parameters := [], returnType := none }, accessFlags := 1, code := some k0c0 }
/-- java/lang/Object -/
def k0 : Class := { plain "java/lang/Object" none with
  accessFlags := 33
  interfaces := #[]
  cf := some (fileOf pool0 8 #[] #[{ accessFlags := 1, nameIndex := 5, descriptorIndex := 6, attributes := #[] }] 33 0 #[] #[])
  fields := #[]
  methods := #[k0m0]
  instanceTypes := #[]
  staticTypes := #[]
  resolved := Array.replicate 124 none
  statics := none }

def pool1 : Array CpInfo := pool [(2, .class_ 4), (1, u "java/lang/Object"), (0, u "<init>"), (0, u "()V"), (0, .methodref 8 9), (0, .class_ 10), (0, .nameAndType 11 12), (0, u "com/example/erne/erne/SummaryCompareNamesPinLaw"), (0, u "draw"), (0, u "(I)C"), (0, .methodref 8 14), (0, .nameAndType 15 16), (0, u "text"), (0, u "(ICCC)Ljava/lang/String;"), (0, .methodref 8 18), (0, .nameAndType 19 20), (0, u "points"), (0, u "([CI)[I"), (0, .methodref 8 22), (0, .nameAndType 23 24), (0, u "reference"), (0, u "([I[I)I"), (0, .methodref 26 27), (0, .class_ 28), (0, .nameAndType 29 30), (0, u "com/example/erne/erne/Summary"), (0, u "compareNames"), (0, u "(Ljava/lang/String;Ljava/lang/String;)I"), (0, .methodref 8 32), (0, .nameAndType 33 34), (0, u "sign"), (0, u "(I)I"), (0, .integer 55296), (0, .integer 56320), (0, .integer 65535), (0, .class_ 39), (0, u "java/lang/String"), (0, .methodref 38 41), (0, .nameAndType 5 42), (0, u "([C)V"), (0, .integer 56319), (0, .integer 57343), (0, .integer 65536), (0, .methodref 8 47), (0, .nameAndType 48 49), (0, u "cp"), (0, u "([CII)I"), (2, u "law"), (0, u "(IIIIII)Z")] 7

def k1m0 : Method := { name := "<init>", desc := "()V", sig := { parameters := [], returnType := none }, accessFlags := 2, code := none }
def k1c1 : Code := { maxStack := 4, maxLocals := 20, code := code, exceptionTable := #[], attributes := #[] }
def k1m1 : Method := { name := "law", desc := "(IIIIII)Z", sig := { parameters := [.int, .int, .int, .int, .int, .int], returnType := some .boolean }, accessFlags := 9, code := some k1c1 }
def k1c2 : Code := { maxStack := 3, maxLocals := 3, code := method_3_code, exceptionTable := #[], attributes := #[] }
def k1m2 : Method := { name := "draw", desc := "(I)C", sig := { parameters := [.int], returnType := some .char }, accessFlags := 10, code := some k1c2 }
def k1c3 : Code := { maxStack := 6, maxLocals := 4, code := method_4_code, exceptionTable := #[], attributes := #[] }
def k1m3 : Method := { name := "text", desc := "(ICCC)Ljava/lang/String;", sig := { parameters := [.int, .char, .char, .char], returnType := some (.object "java/lang/String") }, accessFlags := 10, code := some k1c3 }
def k1c4 : Code := { maxStack := 3, maxLocals := 5, code := method_5_code, exceptionTable := #[], attributes := #[] }
def k1m4 : Method := { name := "cp", desc := "([CII)I", sig := { parameters := [(.array .char), .int, .int], returnType := some .int }, accessFlags := 10, code := some k1c4 }
def k1c5 : Code := { maxStack := 5, maxLocals := 5, code := method_6_code, exceptionTable := #[], attributes := #[] }
def k1m5 : Method := { name := "points", desc := "([CI)[I", sig := { parameters := [(.array .char), .int], returnType := some (.array .int) }, accessFlags := 10, code := some k1c5 }
def k1c6 : Code := { maxStack := 3, maxLocals := 4, code := method_7_code, exceptionTable := #[], attributes := #[] }
def k1m6 : Method := { name := "reference", desc := "([I[I)I", sig := { parameters := [(.array .int), (.array .int)], returnType := some .int }, accessFlags := 10, code := some k1c6 }
def k1c7 : Code := { maxStack := 1, maxLocals := 1, code := method_8_code, exceptionTable := #[], attributes := #[] }
def k1m7 : Method := { name := "sign", desc := "(I)I", sig := { parameters := [.int], returnType := some .int }, accessFlags := 10, code := some k1c7 }
/-- com/example/erne/erne/SummaryCompareNamesPinLaw -/
def k1 : Class := { plain "com/example/erne/erne/SummaryCompareNamesPinLaw" (some 0) with
  accessFlags := 49
  interfaces := #[]
  cf := some (fileOf pool1 8 #[] #[{ accessFlags := 2, nameIndex := 5, descriptorIndex := 6, attributes := #[] }, { accessFlags := 9, nameIndex := 52, descriptorIndex := 53, attributes := #[] }, { accessFlags := 10, nameIndex := 11, descriptorIndex := 12, attributes := #[] }, { accessFlags := 10, nameIndex := 15, descriptorIndex := 16, attributes := #[] }, { accessFlags := 10, nameIndex := 48, descriptorIndex := 49, attributes := #[] }, { accessFlags := 10, nameIndex := 19, descriptorIndex := 20, attributes := #[] }, { accessFlags := 10, nameIndex := 23, descriptorIndex := 24, attributes := #[] }, { accessFlags := 10, nameIndex := 33, descriptorIndex := 34, attributes := #[] }] 49 2 #[] #[])
  fields := #[]
  methods := #[k1m0, k1m1, k1m2, k1m3, k1m4, k1m5, k1m6, k1m7]
  instanceTypes := #[]
  staticTypes := #[]
  resolved := Array.replicate 61 none
  statics := none }

def pool2 : Array CpInfo := pool [(1, .class_ 2), (0, u "java/io/Serializable"), (0, .class_ 4), (0, u "java/lang/Object")] 2

/-- java/io/Serializable -/
def k2 : Class := { plain "java/io/Serializable" (some 0) with
  accessFlags := 1537
  interfaces := #[]
  cf := some (fileOf pool2 1 #[] #[] 1537 3 #[] #[])
  fields := #[]
  methods := #[]
  instanceTypes := #[]
  staticTypes := #[]
  resolved := Array.replicate 7 none
  statics := none }

def pool3 : Array CpInfo := pool [(1, .class_ 2), (0, u "java/lang/Comparable"), (0, .class_ 4), (0, u "java/lang/Object")] 7

/-- java/lang/Comparable -/
def k3 : Class := { plain "java/lang/Comparable" (some 0) with
  accessFlags := 1537
  interfaces := #[]
  cf := some (fileOf pool3 1 #[] #[] 1537 3 #[] #[])
  fields := #[]
  methods := #[]
  instanceTypes := #[]
  staticTypes := #[]
  resolved := Array.replicate 12 none
  statics := none }

def pool4 : Array CpInfo := pool [(2, .class_ 4), (1, u "java/lang/CharSequence"), (42, .class_ 48), (0, u "java/lang/CharSequence$1CodePointIterator"), (10, .class_ 60), (0, u "java/lang/CharSequence$1CharIterator"), (5, .class_ 67), (0, u "java/lang/Object")] 63

/-- java/lang/CharSequence -/
def k4 : Class := { plain "java/lang/CharSequence" (some 0) with
  accessFlags := 1537
  interfaces := #[]
  cf := some (fileOf pool4 2 #[.nestMembers #[47, 59]] #[] 1537 66 #[] #[])
  fields := #[]
  methods := #[]
  instanceTypes := #[]
  staticTypes := #[]
  resolved := Array.replicate 131 none
  statics := none }

def pool5 : Array CpInfo := pool [(1, .class_ 2), (0, u "java/lang/constant/Constable"), (0, .class_ 4), (0, u "java/lang/Object")] 6

/-- java/lang/constant/Constable -/
def k5 : Class := { plain "java/lang/constant/Constable" (some 0) with
  accessFlags := 1537
  interfaces := #[]
  cf := some (fileOf pool5 1 #[] #[] 1537 3 #[] #[])
  fields := #[]
  methods := #[]
  instanceTypes := #[]
  staticTypes := #[]
  resolved := Array.replicate 11 none
  statics := none }

def pool6 : Array CpInfo := pool [(1, .class_ 2), (0, u "java/lang/constant/ConstantDesc"), (0, .class_ 4), (0, u "java/lang/Object")] 32

/-- java/lang/constant/ConstantDesc -/
def k6 : Class := { plain "java/lang/constant/ConstantDesc" (some 0) with
  accessFlags := 1537
  interfaces := #[]
  cf := some (fileOf pool6 1 #[] #[] 1537 3 #[] #[])
  fields := #[]
  methods := #[]
  instanceTypes := #[]
  staticTypes := #[]
  resolved := Array.replicate 37 none
  statics := none }

def pool7 : Array CpInfo := pool [(1, .methodref 2 3), (0, .class_ 4), (0, .nameAndType 5 6), (0, u "java/lang/Object"), (0, u "<init>"), (0, u "()V"), (0, .string 8), (0, u ""), (0, .fieldref 10 11), (0, .class_ 12), (0, .nameAndType 13 14), (0, u "java/lang/String"), (0, u "value"), (0, u "[B"), (0, .fieldref 10 16), (0, .nameAndType 17 18), (0, u "coder"), (0, u "B"), (2, u "hash"), (0, u "I"), (2, u "hashIsZero"), (0, u "Z"), (0, .methodref 10 28), (0, .nameAndType 5 29), (0, u "([CIILjava/lang/Void;)V"), (8, .fieldref 10 39), (0, .nameAndType 40 26), (0, u "COMPACT_STRINGS"), (1, .class_ 44), (1, u "java/lang/StringUTF16"), (0, u "compress"), (1, .methodref 42 48), (0, .nameAndType 49 50), (0, u "coderFromArrayLen"), (0, u "([BI)B"), (46, u "([BII)I"), (44, u "()Z"), (34, .methodref 42 178), (0, .nameAndType 45 179), (0, u "([CII)[B"), (154, u "()I"), (0, .methodref 10 336), (0, .nameAndType 17 337), (0, u "()B"), (53, u "(II)V"), (100, .methodref 10 493), (0, .nameAndType 494 142), (0, u "isLatin1"), (4, .methodref 10 500), (0, .nameAndType 501 391), (0, u "checkIndex"), (0, .methodref 42 503), (0, .nameAndType 504 97), (0, u "codePointAt"), (2, u "length"), (67, .class_ 576), (0, u "java/lang/CharSequence"), (22, u "CASE_INSENSITIVE_ORDER"), (0, u "Ljava/util/Comparator;"), (164, u "(I)I"), (244, u "([C)V"), (42, .fieldref 1054 1055), (0, .class_ 1056), (0, .nameAndType 1057 1058), (0, u "jdk/internal/util/Preconditions"), (0, u "SIOOBE_FORMATTER"), (0, u "Ljava/util/function/BiFunction;"), (0, .methodref 1054 1060), (0, .nameAndType 501 1061), (0, u "(IILjava/util/function/BiFunction;)I"), (39, u "serialPersistentFields"), (0, u "[Ljava/io/ObjectStreamField;"), (0, .class_ 1104), (0, u "java/lang/String$CaseInsensitiveComparator"), (1, .class_ 1107), (0, u "java/io/Serializable"), (0, .class_ 1109), (0, u "java/lang/Comparable"), (0, .class_ 1111), (0, u "java/lang/constant/Constable"), (0, .class_ 1113), (0, u "java/lang/constant/ConstantDesc"), (2, u "serialVersionUID"), (0, u "J"), (3, u "REPL"), (0, u "C"), (2, u "LATIN1"), (1, u "UTF16")] 323

def k7m0 : Method := { name := "<init>", desc := "()V", sig := { parameters := [], returnType := none }, accessFlags := 1, code := none }
def k7c1 : Code := { maxStack := 5, maxLocals := 2, code := jdk_42_method_3_code, exceptionTable := #[], attributes := #[] }
def k7m1 : Method := { name := "<init>", desc := "([C)V", sig := { parameters := [(.array .char)], returnType := none }, accessFlags := 1, code := some k7c1 }
def k7c2 : Code := { maxStack := 2, maxLocals := 1, code := jdk_42_method_54_code, exceptionTable := #[], attributes := #[] }
def k7m2 : Method := { name := "length", desc := "()I", sig := { parameters := [], returnType := some .int }, accessFlags := 1, code := some k7c2 }
def k7c3 : Code := { maxStack := 3, maxLocals := 3, code := jdk_42_method_57_code, exceptionTable := #[], attributes := #[] }
def k7m3 : Method := { name := "codePointAt", desc := "(I)I", sig := { parameters := [.int], returnType := some .int }, accessFlags := 1, code := some k7c3 }
def k7c4 : Code := { maxStack := 4, maxLocals := 6, code := jdk_42_method_149_code, exceptionTable := #[], attributes := #[] }
def k7m4 : Method := { name := "<init>", desc := "([CIILjava/lang/Void;)V", sig := { parameters := [(.array .char), .int, .int, (.object "java/lang/Void")], returnType := none }, accessFlags := 2, code := some k7c4 }
def k7c5 : Code := { maxStack := 1, maxLocals := 1, code := jdk_42_method_152_code, exceptionTable := #[], attributes := #[] }
def k7m5 : Method := { name := "coder", desc := "()B", sig := { parameters := [], returnType := some .byte }, accessFlags := 0, code := some k7c5 }
def k7c6 : Code := { maxStack := 1, maxLocals := 1, code := jdk_42_method_154_code, exceptionTable := #[], attributes := #[] }
def k7m6 : Method := { name := "isLatin1", desc := "()Z", sig := { parameters := [], returnType := some .boolean }, accessFlags := 0, code := some k7c6 }
def k7c7 : Code := { maxStack := 3, maxLocals := 2, code := jdk_42_method_155_code, exceptionTable := #[], attributes := #[] }
def k7m7 : Method := { name := "checkIndex", desc := "(II)V", sig := { parameters := [.int, .int], returnType := none }, accessFlags := 8, code := some k7c7 }
/-- java/lang/String -/
def k7 : Class := { plain "java/lang/String" (some 0) with
  accessFlags := 49
  interfaces := #[2, 3, 4, 5, 6]
  cf := some (fileOf pool7 10 #[.nestMembers #[1103]] #[{ accessFlags := 1, nameIndex := 5, descriptorIndex := 6, attributes := #[] }, { accessFlags := 1, nameIndex := 5, descriptorIndex := 1010, attributes := #[] }, { accessFlags := 1, nameIndex := 507, descriptorIndex := 334, attributes := #[] }, { accessFlags := 1, nameIndex := 504, descriptorIndex := 765, attributes := #[] }, { accessFlags := 2, nameIndex := 5, descriptorIndex := 29, attributes := #[] }, { accessFlags := 0, nameIndex := 17, descriptorIndex := 337, attributes := #[] }, { accessFlags := 0, nameIndex := 494, descriptorIndex := 142, attributes := #[] }, { accessFlags := 8, nameIndex := 501, descriptorIndex := 391, attributes := #[] }] 49 2 #[1106, 1108, 575, 1110, 1112] #[{ accessFlags := 18, nameIndex := 13, descriptorIndex := 14, attributes := #[] }, { accessFlags := 18, nameIndex := 17, descriptorIndex := 18, attributes := #[] }, { accessFlags := 2, nameIndex := 21, descriptorIndex := 22, attributes := #[] }, { accessFlags := 2, nameIndex := 25, descriptorIndex := 26, attributes := #[] }, { accessFlags := 26, nameIndex := 1116, descriptorIndex := 1117, attributes := #[] }, { accessFlags := 24, nameIndex := 40, descriptorIndex := 26, attributes := #[] }, { accessFlags := 26, nameIndex := 1101, descriptorIndex := 1102, attributes := #[] }, { accessFlags := 26, nameIndex := 1121, descriptorIndex := 1122, attributes := #[] }, { accessFlags := 25, nameIndex := 599, descriptorIndex := 600, attributes := #[] }, { accessFlags := 24, nameIndex := 1125, descriptorIndex := 18, attributes := #[] }, { accessFlags := 24, nameIndex := 1127, descriptorIndex := 18, attributes := #[] }])
  fields := #[{ name := "value", type := (.array .byte), accessFlags := 18, slot := 0, constantValue := 0 }, { name := "coder", type := .byte, accessFlags := 18, slot := 1, constantValue := 0 }, { name := "hash", type := .int, accessFlags := 2, slot := 2, constantValue := 0 }, { name := "hashIsZero", type := .boolean, accessFlags := 2, slot := 3, constantValue := 0 }, { name := "serialVersionUID", type := .long, accessFlags := 26, slot := 0, constantValue := 0 }, { name := "COMPACT_STRINGS", type := .boolean, accessFlags := 24, slot := 1, constantValue := 0 }, { name := "serialPersistentFields", type := (.array (.object "java/io/ObjectStreamField")), accessFlags := 26, slot := 2, constantValue := 0 }, { name := "REPL", type := .char, accessFlags := 26, slot := 3, constantValue := 0 }, { name := "CASE_INSENSITIVE_ORDER", type := (.object "java/util/Comparator"), accessFlags := 25, slot := 4, constantValue := 0 }, { name := "LATIN1", type := .byte, accessFlags := 24, slot := 5, constantValue := 0 }, { name := "UTF16", type := .byte, accessFlags := 24, slot := 6, constantValue := 0 }]
  methods := #[k7m0, k7m1, k7m2, k7m3, k7m4, k7m5, k7m6, k7m7]
  instanceTypes := #[(.array .byte), .byte, .int, .boolean]
  staticTypes := #[.long, .boolean, (.array (.object "java/io/ObjectStreamField")), .char, (.object "java/util/Comparator"), .byte, .byte]
  resolved := Array.replicate 1451 none
  statics := some 0 }

def pool8 : Array CpInfo := pool [(1, .class_ 2), (0, u "java/lang/AutoCloseable"), (0, .class_ 4), (0, u "java/lang/Object")] 7

/-- java/lang/AutoCloseable -/
def k8 : Class := { plain "java/lang/AutoCloseable" (some 0) with
  accessFlags := 1537
  interfaces := #[]
  cf := some (fileOf pool8 1 #[] #[] 1537 3 #[] #[])
  fields := #[]
  methods := #[]
  instanceTypes := #[]
  staticTypes := #[]
  resolved := Array.replicate 12 none
  statics := none }

def pool9 : Array CpInfo := pool [(1, .class_ 2), (0, u "java/io/Closeable"), (0, .class_ 4), (0, u "java/lang/Object"), (0, .class_ 6), (0, u "java/lang/AutoCloseable")] 7

/-- java/io/Closeable -/
def k9 : Class := { plain "java/io/Closeable" (some 0) with
  accessFlags := 1537
  interfaces := #[8]
  cf := some (fileOf pool9 1 #[] #[] 1537 3 #[5] #[])
  fields := #[]
  methods := #[]
  instanceTypes := #[]
  staticTypes := #[]
  resolved := Array.replicate 14 none
  statics := none }

def pool10 : Array CpInfo := pool [(1, .class_ 2), (0, u "com/example/erne/erne/Summary"), (1, .class_ 6), (1, u "java/lang/Object"), (4, u "channel"), (0, u "Ljava/nio/channels/FileChannel;"), (2, u "file"), (0, u "Ljava/nio/file/Path;"), (9, u "()I"), (22, .class_ 50), (0, u "java/lang/Integer"), (10, u "name"), (0, u "Ljava/lang/String;"), (2, u "maxDistance"), (0, u "I"), (2, u "rowsWithWords"), (2, u "wordPairs"), (0, u "J"), (2, u "relationshipsAt"), (0, u "[J"), (4, .class_ 83), (0, u "java/lang/String"), (2, u "nodeNames"), (0, u "[Ljava/lang/String;"), (2, u "nodeWeights"), (0, u "[D"), (6, u "words"), (2, u "nodeOfWord"), (0, u "[I"), (8, u "firstRecords"), (7, u "tables"), (0, u "Ljava/util/List;"), (7, .class_ 129), (0, u "com/example/erne/erne/Summary$Node"), (3, .class_ 134), (0, u "com/example/erne/erne/Summary$TableNames"), (9, u "NAME"), (0, u "Ljava/util/regex/Pattern;"), (139, .methodref 82 286), (0, .nameAndType 287 26), (0, u "length"), (30, u "(I)I"), (20, u "compare"), (42, .methodref 82 383), (0, .nameAndType 384 318), (0, u "codePointAt"), (0, .methodref 49 386), (0, .nameAndType 339 387), (0, u "(II)I"), (0, .methodref 389 390), (0, .class_ 391), (0, .nameAndType 392 318), (0, u "java/lang/Character"), (0, u "charCount"), (3, .class_ 397), (0, u "com/example/erne/erne/Summary$Relationship"), (44, .class_ 443), (0, u "java/io/Closeable"), (0, u "LARGEST_DISTANCE"), (2, u "FORMAT"), (1, u "MAGIC"), (0, u "FIRST_RECORD"), (1, u "RECORD"), (1, u "DISTANCE_BITS"), (0, u "DISTANCE_MASK"), (1, u "RECORDS_READ"), (1, u "SUFFIX"), (0, u "CUT_SHORT"), (32, u "compareNames"), (0, u "(Ljava/lang/String;Ljava/lang/String;)I"), (5, .class_ 501), (0, u "com/example/erne/erne/Summary$Writer"), (0, .class_ 503), (0, u "com/example/erne/erne/Summary$Tables"), (0, .class_ 505), (0, u "com/example/erne/erne/Summary$Nodes")] 52

def k10c0 : Code := { maxStack := 3, maxLocals := 5, code := prog_20_method_22_code, exceptionTable := #[], attributes := #[] }
def k10m0 : Method := { name := "compareNames", desc := "(Ljava/lang/String;Ljava/lang/String;)I", sig := { parameters := [(.object "java/lang/String"), (.object "java/lang/String")], returnType := some .int }, accessFlags := 8, code := some k10c0 }
/-- com/example/erne/erne/Summary -/
def k10 : Class := { plain "com/example/erne/erne/Summary" (some 0) with
  accessFlags := 49
  interfaces := #[9]
  cf := some (fileOf pool10 1 #[.nestMembers #[500, 502, 504, 396, 133, 128]] #[{ accessFlags := 8, nameIndex := 493, descriptorIndex := 494, attributes := #[] }] 49 4 #[442] #[{ accessFlags := 25, nameIndex := 444, descriptorIndex := 66, attributes := #[] }, { accessFlags := 24, nameIndex := 447, descriptorIndex := 66, attributes := #[] }, { accessFlags := 26, nameIndex := 449, descriptorIndex := 66, attributes := #[] }, { accessFlags := 26, nameIndex := 450, descriptorIndex := 66, attributes := #[] }, { accessFlags := 26, nameIndex := 452, descriptorIndex := 66, attributes := #[] }, { accessFlags := 26, nameIndex := 454, descriptorIndex := 66, attributes := #[] }, { accessFlags := 26, nameIndex := 455, descriptorIndex := 66, attributes := #[] }, { accessFlags := 26, nameIndex := 457, descriptorIndex := 66, attributes := #[] }, { accessFlags := 26, nameIndex := 459, descriptorIndex := 62, attributes := #[] }, { accessFlags := 26, nameIndex := 460, descriptorIndex := 62, attributes := #[] }, { accessFlags := 26, nameIndex := 144, descriptorIndex := 145, attributes := #[] }, { accessFlags := 18, nameIndex := 11, descriptorIndex := 12, attributes := #[] }, { accessFlags := 18, nameIndex := 15, descriptorIndex := 16, attributes := #[] }, { accessFlags := 18, nameIndex := 61, descriptorIndex := 62, attributes := #[] }, { accessFlags := 18, nameIndex := 65, descriptorIndex := 66, attributes := #[] }, { accessFlags := 18, nameIndex := 69, descriptorIndex := 66, attributes := #[] }, { accessFlags := 18, nameIndex := 72, descriptorIndex := 73, attributes := #[] }, { accessFlags := 18, nameIndex := 76, descriptorIndex := 77, attributes := #[] }, { accessFlags := 18, nameIndex := 86, descriptorIndex := 87, attributes := #[] }, { accessFlags := 18, nameIndex := 90, descriptorIndex := 91, attributes := #[] }, { accessFlags := 18, nameIndex := 111, descriptorIndex := 77, attributes := #[] }, { accessFlags := 18, nameIndex := 98, descriptorIndex := 87, attributes := #[] }, { accessFlags := 18, nameIndex := 101, descriptorIndex := 102, attributes := #[] }, { accessFlags := 18, nameIndex := 119, descriptorIndex := 120, attributes := #[] }])
  fields := #[{ name := "LARGEST_DISTANCE", type := .int, accessFlags := 25, slot := 0, constantValue := 0 }, { name := "FORMAT", type := .int, accessFlags := 24, slot := 1, constantValue := 0 }, { name := "MAGIC", type := .int, accessFlags := 26, slot := 2, constantValue := 0 }, { name := "FIRST_RECORD", type := .int, accessFlags := 26, slot := 3, constantValue := 0 }, { name := "RECORD", type := .int, accessFlags := 26, slot := 4, constantValue := 0 }, { name := "DISTANCE_BITS", type := .int, accessFlags := 26, slot := 5, constantValue := 0 }, { name := "DISTANCE_MASK", type := .int, accessFlags := 26, slot := 6, constantValue := 0 }, { name := "RECORDS_READ", type := .int, accessFlags := 26, slot := 7, constantValue := 0 }, { name := "SUFFIX", type := (.object "java/lang/String"), accessFlags := 26, slot := 8, constantValue := 0 }, { name := "CUT_SHORT", type := (.object "java/lang/String"), accessFlags := 26, slot := 9, constantValue := 0 }, { name := "NAME", type := (.object "java/util/regex/Pattern"), accessFlags := 26, slot := 10, constantValue := 0 }, { name := "channel", type := (.object "java/nio/channels/FileChannel"), accessFlags := 18, slot := 0, constantValue := 0 }, { name := "file", type := (.object "java/nio/file/Path"), accessFlags := 18, slot := 1, constantValue := 0 }, { name := "name", type := (.object "java/lang/String"), accessFlags := 18, slot := 2, constantValue := 0 }, { name := "maxDistance", type := .int, accessFlags := 18, slot := 3, constantValue := 0 }, { name := "rowsWithWords", type := .int, accessFlags := 18, slot := 4, constantValue := 0 }, { name := "wordPairs", type := .long, accessFlags := 18, slot := 5, constantValue := 0 }, { name := "relationshipsAt", type := (.array .long), accessFlags := 18, slot := 6, constantValue := 0 }, { name := "nodeNames", type := (.array (.object "java/lang/String")), accessFlags := 18, slot := 7, constantValue := 0 }, { name := "nodeWeights", type := (.array .double), accessFlags := 18, slot := 8, constantValue := 0 }, { name := "firstRecords", type := (.array .long), accessFlags := 18, slot := 9, constantValue := 0 }, { name := "words", type := (.array (.object "java/lang/String")), accessFlags := 18, slot := 10, constantValue := 0 }, { name := "nodeOfWord", type := (.array .int), accessFlags := 18, slot := 11, constantValue := 0 }, { name := "tables", type := (.object "java/util/List"), accessFlags := 18, slot := 12, constantValue := 0 }]
  methods := #[k10m0]
  instanceTypes := #[(.object "java/nio/channels/FileChannel"), (.object "java/nio/file/Path"), (.object "java/lang/String"), .int, .int, .long, (.array .long), (.array (.object "java/lang/String")), (.array .double), (.array .long), (.array (.object "java/lang/String")), (.array .int), (.object "java/util/List")]
  staticTypes := #[.int, .int, .int, .int, .int, .int, .int, .int, (.object "java/lang/String"), (.object "java/lang/String"), (.object "java/util/regex/Pattern")]
  resolved := Array.replicate 558 none
  statics := none }

def pool11 : Array CpInfo := pool [(2, .class_ 4), (1, u "java/lang/Object"), (0, u "<init>"), (0, u "()V"), (1, .class_ 10), (1, u "java/lang/Number"), (2, .class_ 14), (0, u "java/io/Serializable"), (0, u "serialVersionUID"), (0, u "J")] 20

def k11m0 : Method := { name := "<init>", desc := "()V", sig := { parameters := [], returnType := none }, accessFlags := 1, code := none }
/-- java/lang/Number -/
def k11 : Class := { plain "java/lang/Number" (some 0) with
  accessFlags := 1057
  interfaces := #[2]
  cf := some (fileOf pool11 8 #[] #[{ accessFlags := 1, nameIndex := 5, descriptorIndex := 6, attributes := #[] }] 1057 2 #[13] #[{ accessFlags := 26, nameIndex := 15, descriptorIndex := 16, attributes := #[] }])
  fields := #[{ name := "serialVersionUID", type := .long, accessFlags := 26, slot := 0, constantValue := 0 }]
  methods := #[k11m0]
  instanceTypes := #[]
  staticTypes := #[.long]
  resolved := Array.replicate 37 none
  statics := none }

def pool12 : Array CpInfo := pool [(1, .class_ 2), (0, u "java/lang/Integer"), (16, u "digits"), (0, u "[C"), (39, u "(II)I"), (24, u "DigitOnes"), (0, u "[B"), (2, u "DigitTens"), (99, .class_ 190), (0, u "java/lang/Integer$IntegerCache"), (3, u "I"), (8, .class_ 204), (0, u "java/lang/Number"), (2, u "value"), (53, u "compare"), (40, u "TYPE"), (0, u "Ljava/lang/Class;"), (0, .class_ 305), (0, u "java/lang/Comparable"), (0, .class_ 307), (0, u "java/lang/constant/Constable"), (0, .class_ 309), (0, u "java/lang/constant/ConstantDesc"), (0, u "MIN_VALUE"), (1, u "MAX_VALUE"), (3, u "SIZE"), (1, u "BYTES"), (1, u "serialVersionUID"), (0, u "J")] 131

def k12c0 : Code := { maxStack := 2, maxLocals := 2, code := jdk_33_method_40_code, exceptionTable := #[], attributes := #[] }
def k12m0 : Method := { name := "compare", desc := "(II)I", sig := { parameters := [.int, .int], returnType := some .int }, accessFlags := 9, code := some k12c0 }
/-- java/lang/Integer -/
def k12 : Class := { plain "java/lang/Integer" (some 11) with
  accessFlags := 49
  interfaces := #[3, 5, 6]
  cf := some (fileOf pool12 1 #[.nestMembers #[189]] #[{ accessFlags := 9, nameIndex := 261, descriptorIndex := 60, attributes := #[] }] 49 203 #[304, 306, 308] #[{ accessFlags := 25, nameIndex := 310, descriptorIndex := 194, attributes := #[] }, { accessFlags := 25, nameIndex := 312, descriptorIndex := 194, attributes := #[] }, { accessFlags := 25, nameIndex := 302, descriptorIndex := 303, attributes := #[] }, { accessFlags := 24, nameIndex := 19, descriptorIndex := 20, attributes := #[] }, { accessFlags := 24, nameIndex := 89, descriptorIndex := 86, attributes := #[] }, { accessFlags := 24, nameIndex := 85, descriptorIndex := 86, attributes := #[] }, { accessFlags := 18, nameIndex := 207, descriptorIndex := 194, attributes := #[] }, { accessFlags := 25, nameIndex := 316, descriptorIndex := 194, attributes := #[] }, { accessFlags := 25, nameIndex := 318, descriptorIndex := 194, attributes := #[] }, { accessFlags := 26, nameIndex := 320, descriptorIndex := 321, attributes := #[] }])
  fields := #[{ name := "MIN_VALUE", type := .int, accessFlags := 25, slot := 0, constantValue := 0 }, { name := "MAX_VALUE", type := .int, accessFlags := 25, slot := 1, constantValue := 0 }, { name := "TYPE", type := (.object "java/lang/Class"), accessFlags := 25, slot := 2, constantValue := 0 }, { name := "digits", type := (.array .char), accessFlags := 24, slot := 3, constantValue := 0 }, { name := "DigitTens", type := (.array .byte), accessFlags := 24, slot := 4, constantValue := 0 }, { name := "DigitOnes", type := (.array .byte), accessFlags := 24, slot := 5, constantValue := 0 }, { name := "value", type := .int, accessFlags := 18, slot := 0, constantValue := 0 }, { name := "SIZE", type := .int, accessFlags := 25, slot := 6, constantValue := 0 }, { name := "BYTES", type := .int, accessFlags := 25, slot := 7, constantValue := 0 }, { name := "serialVersionUID", type := .long, accessFlags := 26, slot := 8, constantValue := 0 }]
  methods := #[k12m0]
  instanceTypes := #[.int]
  staticTypes := #[.int, .int, (.object "java/lang/Class"), (.array .char), (.array .byte), (.array .byte), .int, .int, .long]
  resolved := Array.replicate 453 none
  statics := none }

def pool13 : Array CpInfo := pool [(6, .class_ 8), (1, u "java/lang/Object"), (0, u "<init>"), (0, u "()V"), (0, .methodref 12 13), (0, .class_ 14), (0, .nameAndType 15 16), (0, u "java/lang/StringUTF16"), (0, u "newBytesLength"), (0, u "(I)I"), (3, .integer 1073741823), (23, .fieldref 12 45), (0, .nameAndType 46 47), (0, u "$assertionsDisabled"), (0, u "Z"), (11, .fieldref 12 60), (0, .nameAndType 61 62), (0, u "HI_BYTE_SHIFT"), (0, u "I"), (0, .fieldref 12 64), (0, .nameAndType 65 62), (0, u "LO_BYTE_SHIFT"), (5, .methodref 12 72), (0, .nameAndType 73 74), (0, u "getChar"), (0, u "([BI)C"), (0, .methodref 76 77), (0, .class_ 78), (0, .nameAndType 79 80), (0, u "java/lang/Character"), (0, u "isHighSurrogate"), (0, u "(C)Z"), (0, .methodref 76 82), (0, .nameAndType 83 80), (0, u "isLowSurrogate"), (0, .methodref 76 85), (0, .nameAndType 86 87), (0, u "toCodePoint"), (0, u "(CC)I"), (0, .methodref 12 89), (0, .nameAndType 90 91), (0, u "codePointAt"), (0, u "([BIIZ)I"), (15, .methodref 12 108), (0, .nameAndType 109 110), (0, u "newBytesFor"), (0, u "(I)[B"), (0, .methodref 12 112), (0, .nameAndType 113 114), (0, u "putChar"), (0, u "([BII)V"), (0, .methodref 12 116), (0, .nameAndType 117 118), (0, u "compress"), (0, u "([CI[BII)I"), (0, .methodref 12 120), (0, .nameAndType 121 122), (0, u "toBytes"), (0, u "([CII)[B"), (127, u "([BII)I"), (10, u "coderFromArrayLen"), (0, u "([BI)B"), (106, .class_ 371), (1, u "java/lang/StringUTF16$LinesSpliterator"), (58, u "MAX_LENGTH"), (196, .class_ 628), (0, u "java/lang/StringUTF16$CodePointsSpliterator"), (0, .class_ 630), (0, u "java/lang/StringUTF16$CharsSpliterator")] 4

def k13m0 : Method := { name := "<init>", desc := "()V", sig := { parameters := [], returnType := none }, accessFlags := 0, code := none }
def k13c1 : Code := { maxStack := 1, maxLocals := 1, code := jdk_52_method_2_code, exceptionTable := #[], attributes := #[] }
def k13m1 : Method := { name := "newBytesFor", desc := "(I)[B", sig := { parameters := [.int], returnType := some (.array .byte) }, accessFlags := 9, code := some k13c1 }
def k13c2 : Code := { maxStack := 4, maxLocals := 1, code := jdk_52_method_3_code, exceptionTable := #[], attributes := #[] }
def k13m2 : Method := { name := "newBytesLength", desc := "(I)I", sig := { parameters := [.int], returnType := some .int }, accessFlags := 9, code := some k13c2 }
def k13c3 : Code := { maxStack := 4, maxLocals := 3, code := jdk_52_method_4_code, exceptionTable := #[], attributes := #[] }
def k13m3 : Method := { name := "putChar", desc := "([BII)V", sig := { parameters := [(.array .byte), .int, .int], returnType := none }, accessFlags := 8, code := some k13c3 }
def k13c4 : Code := { maxStack := 3, maxLocals := 2, code := jdk_52_method_5_code, exceptionTable := #[], attributes := #[] }
def k13m4 : Method := { name := "getChar", desc := "([BI)C", sig := { parameters := [(.array .byte), .int], returnType := some .char }, accessFlags := 8, code := some k13c4 }
def k13c5 : Code := { maxStack := 2, maxLocals := 6, code := jdk_52_method_7_code, exceptionTable := #[], attributes := #[] }
def k13m5 : Method := { name := "codePointAt", desc := "([BIIZ)I", sig := { parameters := [(.array .byte), .int, .int, .boolean], returnType := some .int }, accessFlags := 10, code := some k13c5 }
def k13c6 : Code := { maxStack := 4, maxLocals := 3, code := jdk_52_method_8_code, exceptionTable := #[], attributes := #[] }
def k13m6 : Method := { name := "codePointAt", desc := "([BII)I", sig := { parameters := [(.array .byte), .int, .int], returnType := some .int }, accessFlags := 9, code := some k13c6 }
def k13c7 : Code := { maxStack := 4, maxLocals := 5, code := jdk_52_method_14_code, exceptionTable := #[], attributes := #[] }
def k13m7 : Method := { name := "toBytes", desc := "([CII)[B", sig := { parameters := [(.array .char), .int, .int], returnType := some (.array .byte) }, accessFlags := 9, code := some k13c7 }
def k13c8 : Code := { maxStack := 2, maxLocals := 2, code := jdk_52_method_15_code, exceptionTable := #[], attributes := #[] }
def k13m8 : Method := { name := "coderFromArrayLen", desc := "([BI)B", sig := { parameters := [(.array .byte), .int], returnType := some .byte }, accessFlags := 8, code := some k13c8 }
def k13c9 : Code := { maxStack := 5, maxLocals := 6, code := jdk_52_method_16_code, exceptionTable := #[], attributes := #[] }
def k13m9 : Method := { name := "compress", desc := "([CII)[B", sig := { parameters := [(.array .char), .int, .int], returnType := some (.array .byte) }, accessFlags := 9, code := some k13c9 }
def k13c10 : Code := { maxStack := 3, maxLocals := 7, code := jdk_52_method_21_code, exceptionTable := #[], attributes := #[] }
def k13m10 : Method := { name := "compress", desc := "([CI[BII)I", sig := { parameters := [(.array .char), .int, (.array .byte), .int, .int], returnType := some .int }, accessFlags := 9, code := some k13c10 }
/-- java/lang/StringUTF16 -/
def k13 : Class := { plain "java/lang/StringUTF16" (some 0) with
  accessFlags := 48
  interfaces := #[]
  cf := some (fileOf pool13 12 #[.nestMembers #[627, 629, 369]] #[{ accessFlags := 0, nameIndex := 9, descriptorIndex := 10, attributes := #[] }, { accessFlags := 9, nameIndex := 109, descriptorIndex := 110, attributes := #[] }, { accessFlags := 9, nameIndex := 15, descriptorIndex := 16, attributes := #[] }, { accessFlags := 8, nameIndex := 113, descriptorIndex := 114, attributes := #[] }, { accessFlags := 8, nameIndex := 73, descriptorIndex := 74, attributes := #[] }, { accessFlags := 10, nameIndex := 90, descriptorIndex := 91, attributes := #[] }, { accessFlags := 9, nameIndex := 90, descriptorIndex := 250, attributes := #[] }, { accessFlags := 9, nameIndex := 121, descriptorIndex := 122, attributes := #[] }, { accessFlags := 8, nameIndex := 261, descriptorIndex := 262, attributes := #[] }, { accessFlags := 9, nameIndex := 117, descriptorIndex := 122, attributes := #[] }, { accessFlags := 9, nameIndex := 117, descriptorIndex := 118, attributes := #[] }] 48 6 #[] #[{ accessFlags := 26, nameIndex := 61, descriptorIndex := 62, attributes := #[] }, { accessFlags := 26, nameIndex := 65, descriptorIndex := 62, attributes := #[] }, { accessFlags := 24, nameIndex := 430, descriptorIndex := 62, attributes := #[] }, { accessFlags := 4120, nameIndex := 46, descriptorIndex := 47, attributes := #[] }])
  fields := #[{ name := "HI_BYTE_SHIFT", type := .int, accessFlags := 26, slot := 0, constantValue := 0 }, { name := "LO_BYTE_SHIFT", type := .int, accessFlags := 26, slot := 1, constantValue := 0 }, { name := "MAX_LENGTH", type := .int, accessFlags := 24, slot := 2, constantValue := 0 }, { name := "$assertionsDisabled", type := .boolean, accessFlags := 4120, slot := 3, constantValue := 0 }]
  methods := #[k13m0, k13m1, k13m2, k13m3, k13m4, k13m5, k13m6, k13m7, k13m8, k13m9, k13m10]
  instanceTypes := #[]
  staticTypes := #[.int, .int, .int, .boolean]
  resolved := Array.replicate 635 none
  statics := some 1 }

def pool14 : Array CpInfo := pool [(2, .class_ 4), (1, u "java/lang/Object"), (0, u "<init>"), (0, u "()V"), (17, .class_ 26), (1, u "jdk/internal/util/Preconditions"), (6, u "checkIndex"), (21, .class_ 56), (0, u "jdk/internal/util/Preconditions$4"), (57, .class_ 115), (0, u "jdk/internal/util/Preconditions$1"), (7, u "SIOOBE_FORMATTER"), (0, u "Ljava/util/function/BiFunction;"), (0, .class_ 126), (0, u "jdk/internal/util/Preconditions$2"), (3, u "AIOOBE_FORMATTER"), (0, .class_ 132), (0, u "jdk/internal/util/Preconditions$3"), (3, u "IOOBE_FORMATTER"), (41, u "(IILjava/util/function/BiFunction;)I")] 15

def k14m0 : Method := { name := "<init>", desc := "()V", sig := { parameters := [], returnType := none }, accessFlags := 1, code := none }
def k14c1 : Code := { maxStack := 3, maxLocals := 3, code := jdk_41_method_11_code, exceptionTable := #[], attributes := #[] }
def k14m1 : Method := { name := "checkIndex", desc := "(IILjava/util/function/BiFunction;)I", sig := { parameters := [.int, .int, (.object "java/util/function/BiFunction")], returnType := some .int }, accessFlags := 9, code := some k14c1 }
/-- jdk/internal/util/Preconditions -/
def k14 : Class := { plain "jdk/internal/util/Preconditions" (some 0) with
  accessFlags := 33
  interfaces := #[]
  cf := some (fileOf pool14 24 #[.nestMembers #[55, 131, 125, 114]] #[{ accessFlags := 1, nameIndex := 5, descriptorIndex := 6, attributes := #[] }, { accessFlags := 9, nameIndex := 33, descriptorIndex := 178, attributes := #[] }] 33 2 #[] #[{ accessFlags := 25, nameIndex := 123, descriptorIndex := 124, attributes := #[] }, { accessFlags := 25, nameIndex := 130, descriptorIndex := 124, attributes := #[] }, { accessFlags := 25, nameIndex := 136, descriptorIndex := 124, attributes := #[] }])
  fields := #[{ name := "SIOOBE_FORMATTER", type := (.object "java/util/function/BiFunction"), accessFlags := 25, slot := 0, constantValue := 0 }, { name := "AIOOBE_FORMATTER", type := (.object "java/util/function/BiFunction"), accessFlags := 25, slot := 1, constantValue := 0 }, { name := "IOOBE_FORMATTER", type := (.object "java/util/function/BiFunction"), accessFlags := 25, slot := 2, constantValue := 0 }]
  methods := #[k14m0, k14m1]
  instanceTypes := #[]
  staticTypes := #[(.object "java/util/function/BiFunction"), (.object "java/util/function/BiFunction"), (.object "java/util/function/BiFunction")]
  resolved := Array.replicate 194 none
  statics := some 2 }

def pool15 : Array CpInfo := pool [(1, .class_ 2), (0, u "java/lang/Character"), (18, u "value"), (0, u "C"), (19, .class_ 44), (1, u "java/lang/Object"), (3, .class_ 50), (1, u "java/lang/Character$CharacterCache"), (22, .integer 65536), (1, .integer 55296), (0, .integer 56320), (0, .integer 57344), (2, u "isHighSurrogate"), (0, u "(C)Z"), (2, u "isLowSurrogate"), (0, .integer 4238353408), (12, u "toCodePoint"), (0, u "(CC)I"), (74, u "(I)I"), (109, u "$assertionsDisabled"), (0, u "Z"), (21, .class_ 309), (1, u "java/lang/Character$UnicodeBlock"), (73, u "TYPE"), (0, u "Ljava/lang/Class;"), (0, .class_ 386), (0, u "java/io/Serializable"), (0, .class_ 388), (0, u "java/lang/Comparable"), (0, .class_ 390), (0, u "java/lang/constant/Constable"), (0, u "MIN_RADIX"), (0, u "I"), (2, u "MAX_RADIX"), (1, u "MIN_VALUE"), (1, u "MAX_VALUE"), (3, u "UNASSIGNED"), (0, u "B"), (0, u "UPPERCASE_LETTER"), (1, u "LOWERCASE_LETTER"), (0, u "TITLECASE_LETTER"), (1, u "MODIFIER_LETTER"), (1, u "OTHER_LETTER"), (1, u "NON_SPACING_MARK"), (1, u "ENCLOSING_MARK"), (1, u "COMBINING_SPACING_MARK"), (1, u "DECIMAL_DIGIT_NUMBER"), (1, u "LETTER_NUMBER"), (1, u "OTHER_NUMBER"), (1, u "SPACE_SEPARATOR"), (1, u "LINE_SEPARATOR"), (1, u "PARAGRAPH_SEPARATOR"), (1, u "CONTROL"), (1, u "FORMAT"), (1, u "PRIVATE_USE"), (1, u "SURROGATE"), (1, u "DASH_PUNCTUATION"), (1, u "START_PUNCTUATION"), (1, u "END_PUNCTUATION"), (1, u "CONNECTOR_PUNCTUATION"), (1, u "OTHER_PUNCTUATION"), (1, u "MATH_SYMBOL"), (1, u "CURRENCY_SYMBOL"), (1, u "MODIFIER_SYMBOL"), (1, u "OTHER_SYMBOL"), (1, u "INITIAL_QUOTE_PUNCTUATION"), (1, u "FINAL_QUOTE_PUNCTUATION"), (1, u "ERROR"), (1, u "DIRECTIONALITY_UNDEFINED"), (0, u "DIRECTIONALITY_LEFT_TO_RIGHT"), (0, u "DIRECTIONALITY_RIGHT_TO_LEFT"), (0, u "DIRECTIONALITY_RIGHT_TO_LEFT_ARABIC"), (0, u "DIRECTIONALITY_EUROPEAN_NUMBER"), (0, u "DIRECTIONALITY_EUROPEAN_NUMBER_SEPARATOR"), (0, u "DIRECTIONALITY_EUROPEAN_NUMBER_TERMINATOR"), (0, u "DIRECTIONALITY_ARABIC_NUMBER"), (0, u "DIRECTIONALITY_COMMON_NUMBER_SEPARATOR"), (0, u "DIRECTIONALITY_NONSPACING_MARK"), (0, u "DIRECTIONALITY_BOUNDARY_NEUTRAL"), (0, u "DIRECTIONALITY_PARAGRAPH_SEPARATOR"), (0, u "DIRECTIONALITY_SEGMENT_SEPARATOR"), (0, u "DIRECTIONALITY_WHITESPACE"), (0, u "DIRECTIONALITY_OTHER_NEUTRALS"), (0, u "DIRECTIONALITY_LEFT_TO_RIGHT_EMBEDDING"), (0, u "DIRECTIONALITY_LEFT_TO_RIGHT_OVERRIDE"), (0, u "DIRECTIONALITY_RIGHT_TO_LEFT_EMBEDDING"), (0, u "DIRECTIONALITY_RIGHT_TO_LEFT_OVERRIDE"), (1, u "DIRECTIONALITY_POP_DIRECTIONAL_FORMAT"), (0, u "DIRECTIONALITY_LEFT_TO_RIGHT_ISOLATE"), (0, u "DIRECTIONALITY_RIGHT_TO_LEFT_ISOLATE"), (0, u "DIRECTIONALITY_FIRST_STRONG_ISOLATE"), (0, u "DIRECTIONALITY_POP_DIRECTIONAL_ISOLATE"), (0, u "MIN_HIGH_SURROGATE"), (0, u "MAX_HIGH_SURROGATE"), (1, u "MIN_LOW_SURROGATE"), (0, u "MAX_LOW_SURROGATE"), (1, u "MIN_SURROGATE"), (0, u "MAX_SURROGATE"), (0, u "MIN_SUPPLEMENTARY_CODE_POINT"), (0, u "MIN_CODE_POINT"), (0, u "MAX_CODE_POINT"), (1, u "serialVersionUID"), (0, u "J"), (2, u "SIZE"), (0, u "BYTES"), (29, u "charCount"), (58, .class_ 596), (0, u "java/lang/Character$UnicodeScript"), (0, .class_ 598), (0, u "java/lang/Character$Subset")] 5

def k15c0 : Code := { maxStack := 2, maxLocals := 1, code := jdk_89_method_14_code, exceptionTable := #[], attributes := #[] }
def k15m0 : Method := { name := "isHighSurrogate", desc := "(C)Z", sig := { parameters := [.char], returnType := some .boolean }, accessFlags := 9, code := some k15c0 }
def k15c1 : Code := { maxStack := 2, maxLocals := 1, code := jdk_89_method_15_code, exceptionTable := #[], attributes := #[] }
def k15m1 : Method := { name := "isLowSurrogate", desc := "(C)Z", sig := { parameters := [.char], returnType := some .boolean }, accessFlags := 9, code := some k15c1 }
def k15c2 : Code := { maxStack := 2, maxLocals := 1, code := jdk_89_method_18_code, exceptionTable := #[], attributes := #[] }
def k15m2 : Method := { name := "charCount", desc := "(I)I", sig := { parameters := [.int], returnType := some .int }, accessFlags := 9, code := some k15c2 }
def k15c3 : Code := { maxStack := 2, maxLocals := 2, code := jdk_89_method_19_code, exceptionTable := #[], attributes := #[] }
def k15m3 : Method := { name := "toCodePoint", desc := "(CC)I", sig := { parameters := [.char, .char], returnType := some .int }, accessFlags := 9, code := some k15c3 }
/-- java/lang/Character -/
def k15 : Class := { plain "java/lang/Character" (some 0) with
  accessFlags := 49
  interfaces := #[2, 3, 5]
  cf := some (fileOf pool15 1 #[.nestMembers #[48, 595, 307, 597]] #[{ accessFlags := 9, nameIndex := 80, descriptorIndex := 81, attributes := #[] }, { accessFlags := 9, nameIndex := 84, descriptorIndex := 81, attributes := #[] }, { accessFlags := 9, nameIndex := 536, descriptorIndex := 174, attributes := #[] }, { accessFlags := 9, nameIndex := 98, descriptorIndex := 99, attributes := #[] }] 49 42 #[385, 387, 389] #[{ accessFlags := 25, nameIndex := 391, descriptorIndex := 392, attributes := #[] }, { accessFlags := 25, nameIndex := 395, descriptorIndex := 392, attributes := #[] }, { accessFlags := 25, nameIndex := 397, descriptorIndex := 22, attributes := #[] }, { accessFlags := 25, nameIndex := 399, descriptorIndex := 22, attributes := #[] }, { accessFlags := 25, nameIndex := 383, descriptorIndex := 384, attributes := #[] }, { accessFlags := 25, nameIndex := 403, descriptorIndex := 404, attributes := #[] }, { accessFlags := 25, nameIndex := 405, descriptorIndex := 404, attributes := #[] }, { accessFlags := 25, nameIndex := 407, descriptorIndex := 404, attributes := #[] }, { accessFlags := 25, nameIndex := 408, descriptorIndex := 404, attributes := #[] }, { accessFlags := 25, nameIndex := 410, descriptorIndex := 404, attributes := #[] }, { accessFlags := 25, nameIndex := 412, descriptorIndex := 404, attributes := #[] }, { accessFlags := 25, nameIndex := 414, descriptorIndex := 404, attributes := #[] }, { accessFlags := 25, nameIndex := 416, descriptorIndex := 404, attributes := #[] }, { accessFlags := 25, nameIndex := 418, descriptorIndex := 404, attributes := #[] }, { accessFlags := 25, nameIndex := 420, descriptorIndex := 404, attributes := #[] }, { accessFlags := 25, nameIndex := 422, descriptorIndex := 404, attributes := #[] }, { accessFlags := 25, nameIndex := 424, descriptorIndex := 404, attributes := #[] }, { accessFlags := 25, nameIndex := 426, descriptorIndex := 404, attributes := #[] }, { accessFlags := 25, nameIndex := 428, descriptorIndex := 404, attributes := #[] }, { accessFlags := 25, nameIndex := 430, descriptorIndex := 404, attributes := #[] }, { accessFlags := 25, nameIndex := 432, descriptorIndex := 404, attributes := #[] }, { accessFlags := 25, nameIndex := 434, descriptorIndex := 404, attributes := #[] }, { accessFlags := 25, nameIndex := 436, descriptorIndex := 404, attributes := #[] }, { accessFlags := 25, nameIndex := 438, descriptorIndex := 404, attributes := #[] }, { accessFlags := 25, nameIndex := 440, descriptorIndex := 404, attributes := #[] }, { accessFlags := 25, nameIndex := 442, descriptorIndex := 404, attributes := #[] }, { accessFlags := 25, nameIndex := 444, descriptorIndex := 404, attributes := #[] }, { accessFlags := 25, nameIndex := 446, descriptorIndex := 404, attributes := #[] }, { accessFlags := 25, nameIndex := 448, descriptorIndex := 404, attributes := #[] }, { accessFlags := 25, nameIndex := 450, descriptorIndex := 404, attributes := #[] }, { accessFlags := 25, nameIndex := 452, descriptorIndex := 404, attributes := #[] }, { accessFlags := 25, nameIndex := 454, descriptorIndex := 404, attributes := #[] }, { accessFlags := 25, nameIndex := 456, descriptorIndex := 404, attributes := #[] }, { accessFlags := 25, nameIndex := 458, descriptorIndex := 404, attributes := #[] }, { accessFlags := 25, nameIndex := 460, descriptorIndex := 404, attributes := #[] }, { accessFlags := 24, nameIndex := 462, descriptorIndex := 392, attributes := #[] }, { accessFlags := 25, nameIndex := 464, descriptorIndex := 404, attributes := #[] }, { accessFlags := 25, nameIndex := 465, descriptorIndex := 404, attributes := #[] }, { accessFlags := 25, nameIndex := 466, descriptorIndex := 404, attributes := #[] }, { accessFlags := 25, nameIndex := 467, descriptorIndex := 404, attributes := #[] }, { accessFlags := 25, nameIndex := 468, descriptorIndex := 404, attributes := #[] }, { accessFlags := 25, nameIndex := 469, descriptorIndex := 404, attributes := #[] }, { accessFlags := 25, nameIndex := 470, descriptorIndex := 404, attributes := #[] }, { accessFlags := 25, nameIndex := 471, descriptorIndex := 404, attributes := #[] }, { accessFlags := 25, nameIndex := 472, descriptorIndex := 404, attributes := #[] }, { accessFlags := 25, nameIndex := 473, descriptorIndex := 404, attributes := #[] }, { accessFlags := 25, nameIndex := 474, descriptorIndex := 404, attributes := #[] }, { accessFlags := 25, nameIndex := 475, descriptorIndex := 404, attributes := #[] }, { accessFlags := 25, nameIndex := 476, descriptorIndex := 404, attributes := #[] }, { accessFlags := 25, nameIndex := 477, descriptorIndex := 404, attributes := #[] }, { accessFlags := 25, nameIndex := 478, descriptorIndex := 404, attributes := #[] }, { accessFlags := 25, nameIndex := 479, descriptorIndex := 404, attributes := #[] }, { accessFlags := 25, nameIndex := 480, descriptorIndex := 404, attributes := #[] }, { accessFlags := 25, nameIndex := 481, descriptorIndex := 404, attributes := #[] }, { accessFlags := 25, nameIndex := 482, descriptorIndex := 404, attributes := #[] }, { accessFlags := 25, nameIndex := 484, descriptorIndex := 404, attributes := #[] }, { accessFlags := 25, nameIndex := 485, descriptorIndex := 404, attributes := #[] }, { accessFlags := 25, nameIndex := 486, descriptorIndex := 404, attributes := #[] }, { accessFlags := 25, nameIndex := 487, descriptorIndex := 404, attributes := #[] }, { accessFlags := 25, nameIndex := 488, descriptorIndex := 404, attributes := #[] }, { accessFlags := 25, nameIndex := 489, descriptorIndex := 22, attributes := #[] }, { accessFlags := 25, nameIndex := 490, descriptorIndex := 22, attributes := #[] }, { accessFlags := 25, nameIndex := 492, descriptorIndex := 22, attributes := #[] }, { accessFlags := 25, nameIndex := 493, descriptorIndex := 22, attributes := #[] }, { accessFlags := 25, nameIndex := 495, descriptorIndex := 22, attributes := #[] }, { accessFlags := 25, nameIndex := 496, descriptorIndex := 22, attributes := #[] }, { accessFlags := 25, nameIndex := 497, descriptorIndex := 392, attributes := #[] }, { accessFlags := 25, nameIndex := 498, descriptorIndex := 392, attributes := #[] }, { accessFlags := 25, nameIndex := 499, descriptorIndex := 392, attributes := #[] }, { accessFlags := 18, nameIndex := 21, descriptorIndex := 22, attributes := #[] }, { accessFlags := 26, nameIndex := 501, descriptorIndex := 502, attributes := #[] }, { accessFlags := 25, nameIndex := 505, descriptorIndex := 392, attributes := #[] }, { accessFlags := 25, nameIndex := 506, descriptorIndex := 392, attributes := #[] }, { accessFlags := 4120, nameIndex := 284, descriptorIndex := 285, attributes := #[] }])
  fields := #[{ name := "MIN_RADIX", type := .int, accessFlags := 25, slot := 0, constantValue := 0 }, { name := "MAX_RADIX", type := .int, accessFlags := 25, slot := 1, constantValue := 0 }, { name := "MIN_VALUE", type := .char, accessFlags := 25, slot := 2, constantValue := 0 }, { name := "MAX_VALUE", type := .char, accessFlags := 25, slot := 3, constantValue := 0 }, { name := "TYPE", type := (.object "java/lang/Class"), accessFlags := 25, slot := 4, constantValue := 0 }, { name := "UNASSIGNED", type := .byte, accessFlags := 25, slot := 5, constantValue := 0 }, { name := "UPPERCASE_LETTER", type := .byte, accessFlags := 25, slot := 6, constantValue := 0 }, { name := "LOWERCASE_LETTER", type := .byte, accessFlags := 25, slot := 7, constantValue := 0 }, { name := "TITLECASE_LETTER", type := .byte, accessFlags := 25, slot := 8, constantValue := 0 }, { name := "MODIFIER_LETTER", type := .byte, accessFlags := 25, slot := 9, constantValue := 0 }, { name := "OTHER_LETTER", type := .byte, accessFlags := 25, slot := 10, constantValue := 0 }, { name := "NON_SPACING_MARK", type := .byte, accessFlags := 25, slot := 11, constantValue := 0 }, { name := "ENCLOSING_MARK", type := .byte, accessFlags := 25, slot := 12, constantValue := 0 }, { name := "COMBINING_SPACING_MARK", type := .byte, accessFlags := 25, slot := 13, constantValue := 0 }, { name := "DECIMAL_DIGIT_NUMBER", type := .byte, accessFlags := 25, slot := 14, constantValue := 0 }, { name := "LETTER_NUMBER", type := .byte, accessFlags := 25, slot := 15, constantValue := 0 }, { name := "OTHER_NUMBER", type := .byte, accessFlags := 25, slot := 16, constantValue := 0 }, { name := "SPACE_SEPARATOR", type := .byte, accessFlags := 25, slot := 17, constantValue := 0 }, { name := "LINE_SEPARATOR", type := .byte, accessFlags := 25, slot := 18, constantValue := 0 }, { name := "PARAGRAPH_SEPARATOR", type := .byte, accessFlags := 25, slot := 19, constantValue := 0 }, { name := "CONTROL", type := .byte, accessFlags := 25, slot := 20, constantValue := 0 }, { name := "FORMAT", type := .byte, accessFlags := 25, slot := 21, constantValue := 0 }, { name := "PRIVATE_USE", type := .byte, accessFlags := 25, slot := 22, constantValue := 0 }, { name := "SURROGATE", type := .byte, accessFlags := 25, slot := 23, constantValue := 0 }, { name := "DASH_PUNCTUATION", type := .byte, accessFlags := 25, slot := 24, constantValue := 0 }, { name := "START_PUNCTUATION", type := .byte, accessFlags := 25, slot := 25, constantValue := 0 }, { name := "END_PUNCTUATION", type := .byte, accessFlags := 25, slot := 26, constantValue := 0 }, { name := "CONNECTOR_PUNCTUATION", type := .byte, accessFlags := 25, slot := 27, constantValue := 0 }, { name := "OTHER_PUNCTUATION", type := .byte, accessFlags := 25, slot := 28, constantValue := 0 }, { name := "MATH_SYMBOL", type := .byte, accessFlags := 25, slot := 29, constantValue := 0 }, { name := "CURRENCY_SYMBOL", type := .byte, accessFlags := 25, slot := 30, constantValue := 0 }, { name := "MODIFIER_SYMBOL", type := .byte, accessFlags := 25, slot := 31, constantValue := 0 }, { name := "OTHER_SYMBOL", type := .byte, accessFlags := 25, slot := 32, constantValue := 0 }, { name := "INITIAL_QUOTE_PUNCTUATION", type := .byte, accessFlags := 25, slot := 33, constantValue := 0 }, { name := "FINAL_QUOTE_PUNCTUATION", type := .byte, accessFlags := 25, slot := 34, constantValue := 0 }, { name := "ERROR", type := .int, accessFlags := 24, slot := 35, constantValue := 0 }, { name := "DIRECTIONALITY_UNDEFINED", type := .byte, accessFlags := 25, slot := 36, constantValue := 0 }, { name := "DIRECTIONALITY_LEFT_TO_RIGHT", type := .byte, accessFlags := 25, slot := 37, constantValue := 0 }, { name := "DIRECTIONALITY_RIGHT_TO_LEFT", type := .byte, accessFlags := 25, slot := 38, constantValue := 0 }, { name := "DIRECTIONALITY_RIGHT_TO_LEFT_ARABIC", type := .byte, accessFlags := 25, slot := 39, constantValue := 0 }, { name := "DIRECTIONALITY_EUROPEAN_NUMBER", type := .byte, accessFlags := 25, slot := 40, constantValue := 0 }, { name := "DIRECTIONALITY_EUROPEAN_NUMBER_SEPARATOR", type := .byte, accessFlags := 25, slot := 41, constantValue := 0 }, { name := "DIRECTIONALITY_EUROPEAN_NUMBER_TERMINATOR", type := .byte, accessFlags := 25, slot := 42, constantValue := 0 }, { name := "DIRECTIONALITY_ARABIC_NUMBER", type := .byte, accessFlags := 25, slot := 43, constantValue := 0 }, { name := "DIRECTIONALITY_COMMON_NUMBER_SEPARATOR", type := .byte, accessFlags := 25, slot := 44, constantValue := 0 }, { name := "DIRECTIONALITY_NONSPACING_MARK", type := .byte, accessFlags := 25, slot := 45, constantValue := 0 }, { name := "DIRECTIONALITY_BOUNDARY_NEUTRAL", type := .byte, accessFlags := 25, slot := 46, constantValue := 0 }, { name := "DIRECTIONALITY_PARAGRAPH_SEPARATOR", type := .byte, accessFlags := 25, slot := 47, constantValue := 0 }, { name := "DIRECTIONALITY_SEGMENT_SEPARATOR", type := .byte, accessFlags := 25, slot := 48, constantValue := 0 }, { name := "DIRECTIONALITY_WHITESPACE", type := .byte, accessFlags := 25, slot := 49, constantValue := 0 }, { name := "DIRECTIONALITY_OTHER_NEUTRALS", type := .byte, accessFlags := 25, slot := 50, constantValue := 0 }, { name := "DIRECTIONALITY_LEFT_TO_RIGHT_EMBEDDING", type := .byte, accessFlags := 25, slot := 51, constantValue := 0 }, { name := "DIRECTIONALITY_LEFT_TO_RIGHT_OVERRIDE", type := .byte, accessFlags := 25, slot := 52, constantValue := 0 }, { name := "DIRECTIONALITY_RIGHT_TO_LEFT_EMBEDDING", type := .byte, accessFlags := 25, slot := 53, constantValue := 0 }, { name := "DIRECTIONALITY_RIGHT_TO_LEFT_OVERRIDE", type := .byte, accessFlags := 25, slot := 54, constantValue := 0 }, { name := "DIRECTIONALITY_POP_DIRECTIONAL_FORMAT", type := .byte, accessFlags := 25, slot := 55, constantValue := 0 }, { name := "DIRECTIONALITY_LEFT_TO_RIGHT_ISOLATE", type := .byte, accessFlags := 25, slot := 56, constantValue := 0 }, { name := "DIRECTIONALITY_RIGHT_TO_LEFT_ISOLATE", type := .byte, accessFlags := 25, slot := 57, constantValue := 0 }, { name := "DIRECTIONALITY_FIRST_STRONG_ISOLATE", type := .byte, accessFlags := 25, slot := 58, constantValue := 0 }, { name := "DIRECTIONALITY_POP_DIRECTIONAL_ISOLATE", type := .byte, accessFlags := 25, slot := 59, constantValue := 0 }, { name := "MIN_HIGH_SURROGATE", type := .char, accessFlags := 25, slot := 60, constantValue := 0 }, { name := "MAX_HIGH_SURROGATE", type := .char, accessFlags := 25, slot := 61, constantValue := 0 }, { name := "MIN_LOW_SURROGATE", type := .char, accessFlags := 25, slot := 62, constantValue := 0 }, { name := "MAX_LOW_SURROGATE", type := .char, accessFlags := 25, slot := 63, constantValue := 0 }, { name := "MIN_SURROGATE", type := .char, accessFlags := 25, slot := 64, constantValue := 0 }, { name := "MAX_SURROGATE", type := .char, accessFlags := 25, slot := 65, constantValue := 0 }, { name := "MIN_SUPPLEMENTARY_CODE_POINT", type := .int, accessFlags := 25, slot := 66, constantValue := 0 }, { name := "MIN_CODE_POINT", type := .int, accessFlags := 25, slot := 67, constantValue := 0 }, { name := "MAX_CODE_POINT", type := .int, accessFlags := 25, slot := 68, constantValue := 0 }, { name := "value", type := .char, accessFlags := 18, slot := 0, constantValue := 0 }, { name := "serialVersionUID", type := .long, accessFlags := 26, slot := 69, constantValue := 0 }, { name := "SIZE", type := .int, accessFlags := 25, slot := 70, constantValue := 0 }, { name := "BYTES", type := .int, accessFlags := 25, slot := 71, constantValue := 0 }, { name := "$assertionsDisabled", type := .boolean, accessFlags := 4120, slot := 72, constantValue := 0 }]
  methods := #[k15m0, k15m1, k15m2, k15m3]
  instanceTypes := #[.char]
  staticTypes := #[.int, .int, .char, .char, (.object "java/lang/Class"), .byte, .byte, .byte, .byte, .byte, .byte, .byte, .byte, .byte, .byte, .byte, .byte, .byte, .byte, .byte, .byte, .byte, .byte, .byte, .byte, .byte, .byte, .byte, .byte, .byte, .byte, .byte, .byte, .byte, .byte, .int, .byte, .byte, .byte, .byte, .byte, .byte, .byte, .byte, .byte, .byte, .byte, .byte, .byte, .byte, .byte, .byte, .byte, .byte, .byte, .byte, .byte, .byte, .byte, .byte, .char, .char, .char, .char, .char, .char, .int, .int, .int, .long, .int, .int, .boolean]
  resolved := Array.replicate 604 none
  statics := none }

def pool16 : Array CpInfo := pool [(4, .class_ 6), (1, u "java/lang/Object"), (0, u "<init>"), (0, u "()V"), (5, .class_ 16), (1, u "java/lang/StringLatin1"), (104, u "$assertionsDisabled"), (0, u "Z"), (98, .class_ 223), (1, u "java/lang/StringLatin1$LinesSpliterator"), (166, .class_ 391), (0, u "java/lang/StringLatin1$CharsSpliterator")] 3

def k16m0 : Method := { name := "<init>", desc := "()V", sig := { parameters := [], returnType := none }, accessFlags := 0, code := none }
/-- java/lang/StringLatin1 -/
def k16 : Class := { plain "java/lang/StringLatin1" (some 0) with
  accessFlags := 48
  interfaces := #[]
  cf := some (fileOf pool16 14 #[.nestMembers #[390, 221]] #[{ accessFlags := 0, nameIndex := 7, descriptorIndex := 8, attributes := #[] }] 48 4 #[] #[{ accessFlags := 4120, nameIndex := 121, descriptorIndex := 122, attributes := #[] }])
  fields := #[{ name := "$assertionsDisabled", type := .boolean, accessFlags := 4120, slot := 0, constantValue := 0 }]
  methods := #[k16m0]
  instanceTypes := #[]
  staticTypes := #[.boolean]
  resolved := Array.replicate 395 none
  statics := none }

def pool17 : Array CpInfo := pool [(9, u "<init>"), (6, .class_ 18), (1, u "java/lang/Object"), (0, u "()V"), (1, .class_ 23), (1, u "jdk/internal/util/ArraysSupport"), (0, u "LOG2_ARRAY_LONG_INDEX_SCALE"), (0, u "I"), (2, u "U"), (0, u "Ljdk/internal/misc/Unsafe;"), (8, u "BIG_ENDIAN"), (0, u "Z"), (8, u "LOG2_BYTE_BIT_SIZE"), (4, u "LOG2_ARRAY_INT_INDEX_SCALE"), (54, u "JLA"), (0, u "Ljdk/internal/access/JavaLangAccess;"), (11, u "LOG2_ARRAY_BOOLEAN_INDEX_SCALE"), (9, u "LOG2_ARRAY_BYTE_INDEX_SCALE"), (5, u "LOG2_ARRAY_CHAR_INDEX_SCALE"), (5, u "LOG2_ARRAY_SHORT_INDEX_SCALE"), (18, u "LOG2_ARRAY_FLOAT_INDEX_SCALE"), (24, u "LOG2_ARRAY_DOUBLE_INDEX_SCALE"), (89, u "T_BOOLEAN"), (2, u "T_CHAR"), (1, u "T_FLOAT"), (1, u "T_DOUBLE"), (1, u "T_BYTE"), (1, u "T_SHORT"), (1, u "T_INT"), (1, u "T_LONG"), (1, u "SOFT_MAX_ARRAY_LENGTH")] 83

def k17m0 : Method := { name := "<init>", desc := "()V", sig := { parameters := [], returnType := none }, accessFlags := 2, code := none }
/-- jdk/internal/util/ArraysSupport -/
def k17 : Class := { plain "jdk/internal/util/ArraysSupport" (some 0) with
  accessFlags := 33
  interfaces := #[]
  cf := some (fileOf pool17 21 #[] #[{ accessFlags := 2, nameIndex := 9, descriptorIndex := 19, attributes := #[] }] 33 16 #[] #[{ accessFlags := 24, nameIndex := 28, descriptorIndex := 29, attributes := #[] }, { accessFlags := 26, nameIndex := 38, descriptorIndex := 39, attributes := #[] }, { accessFlags := 25, nameIndex := 121, descriptorIndex := 25, attributes := #[] }, { accessFlags := 25, nameIndex := 131, descriptorIndex := 25, attributes := #[] }, { accessFlags := 25, nameIndex := 137, descriptorIndex := 25, attributes := #[] }, { accessFlags := 25, nameIndex := 143, descriptorIndex := 25, attributes := #[] }, { accessFlags := 25, nameIndex := 53, descriptorIndex := 25, attributes := #[] }, { accessFlags := 25, nameIndex := 24, descriptorIndex := 25, attributes := #[] }, { accessFlags := 25, nameIndex := 162, descriptorIndex := 25, attributes := #[] }, { accessFlags := 25, nameIndex := 187, descriptorIndex := 25, attributes := #[] }, { accessFlags := 26, nameIndex := 48, descriptorIndex := 25, attributes := #[] }, { accessFlags := 25, nameIndex := 277, descriptorIndex := 25, attributes := #[] }, { accessFlags := 25, nameIndex := 280, descriptorIndex := 25, attributes := #[] }, { accessFlags := 25, nameIndex := 282, descriptorIndex := 25, attributes := #[] }, { accessFlags := 25, nameIndex := 284, descriptorIndex := 25, attributes := #[] }, { accessFlags := 25, nameIndex := 286, descriptorIndex := 25, attributes := #[] }, { accessFlags := 25, nameIndex := 288, descriptorIndex := 25, attributes := #[] }, { accessFlags := 25, nameIndex := 290, descriptorIndex := 25, attributes := #[] }, { accessFlags := 25, nameIndex := 292, descriptorIndex := 25, attributes := #[] }, { accessFlags := 26, nameIndex := 108, descriptorIndex := 109, attributes := #[] }, { accessFlags := 25, nameIndex := 294, descriptorIndex := 25, attributes := #[] }])
  fields := #[{ name := "U", type := (.object "jdk/internal/misc/Unsafe"), accessFlags := 24, slot := 0, constantValue := 0 }, { name := "BIG_ENDIAN", type := .boolean, accessFlags := 26, slot := 1, constantValue := 0 }, { name := "LOG2_ARRAY_BOOLEAN_INDEX_SCALE", type := .int, accessFlags := 25, slot := 2, constantValue := 0 }, { name := "LOG2_ARRAY_BYTE_INDEX_SCALE", type := .int, accessFlags := 25, slot := 3, constantValue := 0 }, { name := "LOG2_ARRAY_CHAR_INDEX_SCALE", type := .int, accessFlags := 25, slot := 4, constantValue := 0 }, { name := "LOG2_ARRAY_SHORT_INDEX_SCALE", type := .int, accessFlags := 25, slot := 5, constantValue := 0 }, { name := "LOG2_ARRAY_INT_INDEX_SCALE", type := .int, accessFlags := 25, slot := 6, constantValue := 0 }, { name := "LOG2_ARRAY_LONG_INDEX_SCALE", type := .int, accessFlags := 25, slot := 7, constantValue := 0 }, { name := "LOG2_ARRAY_FLOAT_INDEX_SCALE", type := .int, accessFlags := 25, slot := 8, constantValue := 0 }, { name := "LOG2_ARRAY_DOUBLE_INDEX_SCALE", type := .int, accessFlags := 25, slot := 9, constantValue := 0 }, { name := "LOG2_BYTE_BIT_SIZE", type := .int, accessFlags := 26, slot := 10, constantValue := 0 }, { name := "T_BOOLEAN", type := .int, accessFlags := 25, slot := 11, constantValue := 0 }, { name := "T_CHAR", type := .int, accessFlags := 25, slot := 12, constantValue := 0 }, { name := "T_FLOAT", type := .int, accessFlags := 25, slot := 13, constantValue := 0 }, { name := "T_DOUBLE", type := .int, accessFlags := 25, slot := 14, constantValue := 0 }, { name := "T_BYTE", type := .int, accessFlags := 25, slot := 15, constantValue := 0 }, { name := "T_SHORT", type := .int, accessFlags := 25, slot := 16, constantValue := 0 }, { name := "T_INT", type := .int, accessFlags := 25, slot := 17, constantValue := 0 }, { name := "T_LONG", type := .int, accessFlags := 25, slot := 18, constantValue := 0 }, { name := "JLA", type := (.object "jdk/internal/access/JavaLangAccess"), accessFlags := 26, slot := 19, constantValue := 0 }, { name := "SOFT_MAX_ARRAY_LENGTH", type := .int, accessFlags := 25, slot := 20, constantValue := 0 }]
  methods := #[k17m0]
  instanceTypes := #[]
  staticTypes := #[(.object "jdk/internal/misc/Unsafe"), .boolean, .int, .int, .int, .int, .int, .int, .int, .int, .int, .int, .int, .int, .int, .int, .int, .int, .int, (.object "jdk/internal/access/JavaLangAccess"), .int]
  resolved := Array.replicate 378 none
  statics := none }

def pool18 : Array CpInfo := pool [(1, u "java/lang/Cloneable"), (0, .class_ 1), (0, u "java/lang/Object"), (0, .class_ 3)] 3

/-- java/lang/Cloneable -/
def k18 : Class := { plain "java/lang/Cloneable" (some 0) with
  accessFlags := 1537
  interfaces := #[]
  cf := some (fileOf pool18 2 #[] #[] 1537 4 #[] #[])
  fields := #[]
  methods := #[]
  instanceTypes := #[]
  staticTypes := #[]
  resolved := Array.replicate 8 none
  statics := none }

/-- the primitive byte -/
def k19 : Class := { plain "byte" none with kind := .primitive 'B', accessFlags := 0x411 }
/-- [B -/
def k20 : Class := { plain "[B" (some 0) with kind := .array 19 .byte, interfaces := #[18, 2], accessFlags := 1041 }

/-- the primitive char -/
def k21 : Class := { plain "char" none with kind := .primitive 'C', accessFlags := 0x411 }
/-- [C -/
def k22 : Class := { plain "[C" (some 0) with kind := .array 21 .char, interfaces := #[18, 2], accessFlags := 1041 }

/-- the primitive int -/
def k23 : Class := { plain "int" none with kind := .primitive 'I', accessFlags := 0x411 }
/-- [I -/
def k24 : Class := { plain "[I" (some 0) with kind := .array 23 .int, interfaces := #[18, 2], accessFlags := 1041 }

def heap : Heap := #[{ cls := 7, slots := #[.long 0, .int 1, .null, .int 0, .null, .int 0, .int 0], vm := .statics 7 },
  { cls := 13, slots := #[.int 0, .int 8, .int 0, .int 1], vm := .statics 13 },
  { cls := 14, slots := #[.null, .null, .null], vm := .statics 14 }]
def classes : Array Class := #[k0, k1, k2, k3, k4, k5, k6, k7, k8, k9, k10, k11, k12, k13, k14, k15, k16, k17, k18, k19, k20, k21, k22, k23, k24]
def interned : List (Array UInt16 × Addr) := []
def slotsUsed : Nat := 14
def theMethod : MethodId := ⟨1, 1⟩
def args0 : Array Value := #[.int 5, .int 6, .int 7, .int 8, .int 9, .int 10]
def aboutOver (below : List Frame) : State where
  vm := { classes := classes, interned := interned.toArray }
  heap := heap
  slotsUsed := slotsUsed
  threads := #[{ frames := .invoking theMethod args0 :: below }]
def below0 : List Frame := [.native { method := ⟨0, 0⟩, args := #[] }]
def about1 : State := aboutOver below0
def p0 : Program := .bare "" "" ""
def e0 : Env := launch0.env 0 0 0
theorem w_frames : about1.frames = Frame.invoking theMethod args0 :: below0 := rfl
set_option maxRecDepth 65536 in
theorem w_args : argsFit about1.vm theMethod args0 = true := by decide +kernel
set_option maxRecDepth 65536 in
theorem w_heap : heapFits about1 = true := by decide +kernel
set_option maxRecDepth 65536 in
theorem w_runnable : about1.curStatus? = some .runnable := by decide +kernel
set_option maxRecDepth 65536 in
theorem w_alone : about1.alone = true := by decide +kernel
set_option maxRecDepth 65536 in
theorem w_named : about1.methodNamed? x = some theMethod := by decide +kernel
set_option maxRecDepth 65536 in
theorem w_hears : about1.hears theMethod below0 = true := by decide +kernel
set_option maxRecDepth 65536 in
theorem w_ripe : about1.ripe theMethod args0 below0 = true := by decide +kernel
theorem w_running : about1.status = .running := rfl
set_option maxRecDepth 65536 in
theorem w_room : about1.hasRoom e0.platform room_1 = true :=
  launch0.hasRoom_least _ room_1 (by decide +kernel) (by decide +kernel) (by decide +kernel) (by decide +kernel) (by decide +kernel) (by decide +kernel)
theorem allAtoms_all (ts : List Jvm.Cond) (a : Array Jvm.Value) (st : Jvm.State) : (allAtoms ts).before a st = ts.all (fun c => c.before a st) := by
  induction ts with
  | nil => rfl
  | cons c t ih =>
    show (Jvm.Cond.and c (allAtoms t)).before a st = _
    rw [Jvm.Cond.before_and, ih, List.all_cons]
def words1 : List Jvm.Cond := Jvm.Cond.code x code maxLocals ret :: tables_1
/-- a 'code' word, met by the world's own term for the bytes: nothing is compared byte by byte -/
theorem code_word {y : MethodName} {bytes : ByteArray} {mx : Nat} {rt : Option FieldType} {a : Array Value} {s : State} {m : MethodId} {meth : Method} {c : Code} (h1 : s.methodNamed? y = some m) (h2 : s.vm.method? m = some meth) (h3 : meth.code = some c) (h4 : c.code = bytes)
    (h5 : (c.maxLocals == mx && c.exceptionTable.isEmpty && decide (c.maxStack ≤ mostOperands) && decide (meth.sig.returnType = rt) && !meth.locks && decide (parseMethodDescriptor y.desc = some meth.sig)) = true) : (Jvm.Cond.code y bytes mx rt).before a s = true := by
  simp only [Bool.and_eq_true, beq_iff_eq, Bool.not_eq_true', decide_eq_true_eq] at h5
  obtain ⟨⟨⟨⟨⟨g1, g2⟩, g3⟩, g4⟩, g5⟩, g6⟩ := h5
  simp [Cond.before, Cond.holds, Cond.value, h1, h2, h3, h4, g1, g2, g3, g4, g5, g6]
def isCode : Jvm.Cond → Bool
  | .code _ _ _ _ => true
  | _ => false
theorem all_split {L : List Jvm.Cond} {P : Jvm.Cond → Bool} (h1 : L.all (fun c => isCode c || P c) = true) (h2 : ∀ c ∈ L.filter isCode, P c = true) : L.all P = true := by
  refine List.all_eq_true.mpr fun c hc => ?_
  have h := List.all_eq_true.mp h1 c hc
  rcases Bool.eq_false_or_eq_true (isCode c) with hi | hi
  · exact h2 c (List.mem_filter.mpr ⟨hc, hi⟩)
  · simpa [hi] using h
set_option maxRecDepth 65536 in
theorem w_c0 : (Jvm.Cond.code x code maxLocals ret).before args0 about1 = true := code_word (m := ⟨1, 1⟩) (meth := k1m1) (c := k1c1) (by decide +kernel) rfl rfl rfl (by decide +kernel)
set_option maxRecDepth 65536 in
theorem w_c1 : (Jvm.Cond.code ({ cls := "com/example/erne/erne/SummaryCompareNamesPinLaw", name := "draw", desc := "(I)C" } : Jvm.MethodName) method_3_code (3 : Nat) (Option.some Jvm.ClassFile.FieldType.char)).before args0 about1 = true := code_word (m := ⟨1, 2⟩) (meth := k1m2) (c := k1c2) (by decide +kernel) rfl rfl rfl (by decide +kernel)
set_option maxRecDepth 65536 in
theorem w_c2 : (Jvm.Cond.code ({ cls := "com/example/erne/erne/SummaryCompareNamesPinLaw", name := "text", desc := "(ICCC)Ljava/lang/String;" } : Jvm.MethodName) method_4_code (4 : Nat) (Option.some (Jvm.ClassFile.FieldType.object "java/lang/String"))).before args0 about1 = true := code_word (m := ⟨1, 3⟩) (meth := k1m3) (c := k1c3) (by decide +kernel) rfl rfl rfl (by decide +kernel)
set_option maxRecDepth 65536 in
theorem w_c3 : (Jvm.Cond.code ({ cls := "java/lang/String", name := "<init>", desc := "([C)V" } : Jvm.MethodName) jdk_42_method_3_code (2 : Nat) (Option.none : Option Jvm.ClassFile.FieldType)).before args0 about1 = true := code_word (m := ⟨7, 1⟩) (meth := k7m1) (c := k7c1) (by decide +kernel) rfl rfl rfl (by decide +kernel)
set_option maxRecDepth 65536 in
theorem w_c4 : (Jvm.Cond.code ({ cls := "java/lang/String", name := "<init>", desc := "([CIILjava/lang/Void;)V" } : Jvm.MethodName) jdk_42_method_149_code (6 : Nat) (Option.none : Option Jvm.ClassFile.FieldType)).before args0 about1 = true := code_word (m := ⟨7, 4⟩) (meth := k7m4) (c := k7c4) (by decide +kernel) rfl rfl rfl (by decide +kernel)
set_option maxRecDepth 65536 in
theorem w_c5 : (Jvm.Cond.code ({ cls := "java/lang/Object", name := "<init>", desc := "()V" } : Jvm.MethodName) object_method_1_code (1 : Nat) (Option.none : Option Jvm.ClassFile.FieldType)).before args0 about1 = true := code_word (m := ⟨0, 0⟩) (meth := k0m0) (c := k0c0) (by decide +kernel) rfl rfl rfl (by decide +kernel)
set_option maxRecDepth 65536 in
theorem w_c6 : (Jvm.Cond.code ({ cls := "com/example/erne/erne/SummaryCompareNamesPinLaw", name := "points", desc := "([CI)[I" } : Jvm.MethodName) method_6_code (5 : Nat) (Option.some (Jvm.ClassFile.FieldType.array Jvm.ClassFile.FieldType.int))).before args0 about1 = true := code_word (m := ⟨1, 5⟩) (meth := k1m5) (c := k1c5) (by decide +kernel) rfl rfl rfl (by decide +kernel)
set_option maxRecDepth 65536 in
theorem w_c7 : (Jvm.Cond.code ({ cls := "com/example/erne/erne/SummaryCompareNamesPinLaw", name := "reference", desc := "([I[I)I" } : Jvm.MethodName) method_7_code (4 : Nat) (Option.some Jvm.ClassFile.FieldType.int)).before args0 about1 = true := code_word (m := ⟨1, 6⟩) (meth := k1m6) (c := k1c6) (by decide +kernel) rfl rfl rfl (by decide +kernel)
set_option maxRecDepth 65536 in
theorem w_c8 : (Jvm.Cond.code ({ cls := "com/example/erne/erne/Summary", name := "compareNames", desc := "(Ljava/lang/String;Ljava/lang/String;)I" } : Jvm.MethodName) prog_20_method_22_code (5 : Nat) (Option.some Jvm.ClassFile.FieldType.int)).before args0 about1 = true := code_word (m := ⟨10, 0⟩) (meth := k10m0) (c := k10c0) (by decide +kernel) rfl rfl rfl (by decide +kernel)
set_option maxRecDepth 65536 in
theorem w_c9 : (Jvm.Cond.code ({ cls := "java/lang/String", name := "length", desc := "()I" } : Jvm.MethodName) jdk_42_method_54_code (1 : Nat) (Option.some Jvm.ClassFile.FieldType.int)).before args0 about1 = true := code_word (m := ⟨7, 2⟩) (meth := k7m2) (c := k7c2) (by decide +kernel) rfl rfl rfl (by decide +kernel)
set_option maxRecDepth 65536 in
theorem w_c10 : (Jvm.Cond.code ({ cls := "java/lang/String", name := "coder", desc := "()B" } : Jvm.MethodName) jdk_42_method_152_code (1 : Nat) (Option.some Jvm.ClassFile.FieldType.byte)).before args0 about1 = true := code_word (m := ⟨7, 5⟩) (meth := k7m5) (c := k7c5) (by decide +kernel) rfl rfl rfl (by decide +kernel)
set_option maxRecDepth 65536 in
theorem w_c11 : (Jvm.Cond.code ({ cls := "java/lang/Integer", name := "compare", desc := "(II)I" } : Jvm.MethodName) jdk_33_method_40_code (2 : Nat) (Option.some Jvm.ClassFile.FieldType.int)).before args0 about1 = true := code_word (m := ⟨12, 0⟩) (meth := k12m0) (c := k12c0) (by decide +kernel) rfl rfl rfl (by decide +kernel)
set_option maxRecDepth 65536 in
theorem w_c12 : (Jvm.Cond.code ({ cls := "com/example/erne/erne/SummaryCompareNamesPinLaw", name := "sign", desc := "(I)I" } : Jvm.MethodName) method_8_code (1 : Nat) (Option.some Jvm.ClassFile.FieldType.int)).before args0 about1 = true := code_word (m := ⟨1, 7⟩) (meth := k1m7) (c := k1c7) (by decide +kernel) rfl rfl rfl (by decide +kernel)
set_option maxRecDepth 65536 in
theorem w_c13 : (Jvm.Cond.code ({ cls := "java/lang/StringUTF16", name := "compress", desc := "([CII)[B" } : Jvm.MethodName) jdk_52_method_16_code (6 : Nat) (Option.some (Jvm.ClassFile.FieldType.array Jvm.ClassFile.FieldType.byte))).before args0 about1 = true := code_word (m := ⟨13, 9⟩) (meth := k13m9) (c := k13c9) (by decide +kernel) rfl rfl rfl (by decide +kernel)
set_option maxRecDepth 65536 in
theorem w_c14 : (Jvm.Cond.code ({ cls := "java/lang/StringUTF16", name := "compress", desc := "([CI[BII)I" } : Jvm.MethodName) jdk_52_method_21_code (7 : Nat) (Option.some Jvm.ClassFile.FieldType.int)).before args0 about1 = true := code_word (m := ⟨13, 10⟩) (meth := k13m10) (c := k13c10) (by decide +kernel) rfl rfl rfl (by decide +kernel)
set_option maxRecDepth 65536 in
theorem w_c15 : (Jvm.Cond.code ({ cls := "java/lang/StringUTF16", name := "toBytes", desc := "([CII)[B" } : Jvm.MethodName) jdk_52_method_14_code (5 : Nat) (Option.some (Jvm.ClassFile.FieldType.array Jvm.ClassFile.FieldType.byte))).before args0 about1 = true := code_word (m := ⟨13, 7⟩) (meth := k13m7) (c := k13c7) (by decide +kernel) rfl rfl rfl (by decide +kernel)
set_option maxRecDepth 65536 in
theorem w_c16 : (Jvm.Cond.code ({ cls := "java/lang/StringUTF16", name := "newBytesFor", desc := "(I)[B" } : Jvm.MethodName) jdk_52_method_2_code (1 : Nat) (Option.some (Jvm.ClassFile.FieldType.array Jvm.ClassFile.FieldType.byte))).before args0 about1 = true := code_word (m := ⟨13, 1⟩) (meth := k13m1) (c := k13c1) (by decide +kernel) rfl rfl rfl (by decide +kernel)
set_option maxRecDepth 65536 in
theorem w_c17 : (Jvm.Cond.code ({ cls := "java/lang/StringUTF16", name := "newBytesLength", desc := "(I)I" } : Jvm.MethodName) jdk_52_method_3_code (1 : Nat) (Option.some Jvm.ClassFile.FieldType.int)).before args0 about1 = true := code_word (m := ⟨13, 2⟩) (meth := k13m2) (c := k13c2) (by decide +kernel) rfl rfl rfl (by decide +kernel)
set_option maxRecDepth 65536 in
theorem w_c18 : (Jvm.Cond.code ({ cls := "java/lang/StringUTF16", name := "putChar", desc := "([BII)V" } : Jvm.MethodName) jdk_52_method_4_code (3 : Nat) (Option.none : Option Jvm.ClassFile.FieldType)).before args0 about1 = true := code_word (m := ⟨13, 3⟩) (meth := k13m3) (c := k13c3) (by decide +kernel) rfl rfl rfl (by decide +kernel)
set_option maxRecDepth 65536 in
theorem w_c19 : (Jvm.Cond.code ({ cls := "java/lang/StringUTF16", name := "getChar", desc := "([BI)C" } : Jvm.MethodName) jdk_52_method_5_code (2 : Nat) (Option.some Jvm.ClassFile.FieldType.char)).before args0 about1 = true := code_word (m := ⟨13, 4⟩) (meth := k13m4) (c := k13c4) (by decide +kernel) rfl rfl rfl (by decide +kernel)
set_option maxRecDepth 65536 in
theorem w_c20 : (Jvm.Cond.code ({ cls := "java/lang/StringUTF16", name := "coderFromArrayLen", desc := "([BI)B" } : Jvm.MethodName) jdk_52_method_15_code (2 : Nat) (Option.some Jvm.ClassFile.FieldType.byte)).before args0 about1 = true := code_word (m := ⟨13, 8⟩) (meth := k13m8) (c := k13c8) (by decide +kernel) rfl rfl rfl (by decide +kernel)
set_option maxRecDepth 65536 in
theorem w_c21 : (Jvm.Cond.code ({ cls := "com/example/erne/erne/SummaryCompareNamesPinLaw", name := "cp", desc := "([CII)I" } : Jvm.MethodName) method_5_code (5 : Nat) (Option.some Jvm.ClassFile.FieldType.int)).before args0 about1 = true := code_word (m := ⟨1, 4⟩) (meth := k1m4) (c := k1c4) (by decide +kernel) rfl rfl rfl (by decide +kernel)
set_option maxRecDepth 65536 in
theorem w_c22 : (Jvm.Cond.code ({ cls := "java/lang/String", name := "codePointAt", desc := "(I)I" } : Jvm.MethodName) jdk_42_method_57_code (3 : Nat) (Option.some Jvm.ClassFile.FieldType.int)).before args0 about1 = true := code_word (m := ⟨7, 3⟩) (meth := k7m3) (c := k7c3) (by decide +kernel) rfl rfl rfl (by decide +kernel)
set_option maxRecDepth 65536 in
theorem w_c23 : (Jvm.Cond.code ({ cls := "java/lang/String", name := "isLatin1", desc := "()Z" } : Jvm.MethodName) jdk_42_method_154_code (1 : Nat) (Option.some Jvm.ClassFile.FieldType.boolean)).before args0 about1 = true := code_word (m := ⟨7, 6⟩) (meth := k7m6) (c := k7c6) (by decide +kernel) rfl rfl rfl (by decide +kernel)
set_option maxRecDepth 65536 in
theorem w_c24 : (Jvm.Cond.code ({ cls := "java/lang/String", name := "checkIndex", desc := "(II)V" } : Jvm.MethodName) jdk_42_method_155_code (2 : Nat) (Option.none : Option Jvm.ClassFile.FieldType)).before args0 about1 = true := code_word (m := ⟨7, 7⟩) (meth := k7m7) (c := k7c7) (by decide +kernel) rfl rfl rfl (by decide +kernel)
set_option maxRecDepth 65536 in
theorem w_c25 : (Jvm.Cond.code ({ cls := "jdk/internal/util/Preconditions", name := "checkIndex", desc := "(IILjava/util/function/BiFunction;)I" } : Jvm.MethodName) jdk_41_method_11_code (3 : Nat) (Option.some Jvm.ClassFile.FieldType.int)).before args0 about1 = true := code_word (m := ⟨14, 1⟩) (meth := k14m1) (c := k14c1) (by decide +kernel) rfl rfl rfl (by decide +kernel)
set_option maxRecDepth 65536 in
theorem w_c26 : (Jvm.Cond.code ({ cls := "java/lang/StringUTF16", name := "codePointAt", desc := "([BII)I" } : Jvm.MethodName) jdk_52_method_8_code (3 : Nat) (Option.some Jvm.ClassFile.FieldType.int)).before args0 about1 = true := code_word (m := ⟨13, 6⟩) (meth := k13m6) (c := k13c6) (by decide +kernel) rfl rfl rfl (by decide +kernel)
set_option maxRecDepth 65536 in
theorem w_c27 : (Jvm.Cond.code ({ cls := "java/lang/StringUTF16", name := "codePointAt", desc := "([BIIZ)I" } : Jvm.MethodName) jdk_52_method_7_code (6 : Nat) (Option.some Jvm.ClassFile.FieldType.int)).before args0 about1 = true := code_word (m := ⟨13, 5⟩) (meth := k13m5) (c := k13c5) (by decide +kernel) rfl rfl rfl (by decide +kernel)
set_option maxRecDepth 65536 in
theorem w_c28 : (Jvm.Cond.code ({ cls := "java/lang/Character", name := "isHighSurrogate", desc := "(C)Z" } : Jvm.MethodName) jdk_89_method_14_code (1 : Nat) (Option.some Jvm.ClassFile.FieldType.boolean)).before args0 about1 = true := code_word (m := ⟨15, 0⟩) (meth := k15m0) (c := k15c0) (by decide +kernel) rfl rfl rfl (by decide +kernel)
set_option maxRecDepth 65536 in
theorem w_c29 : (Jvm.Cond.code ({ cls := "java/lang/Character", name := "charCount", desc := "(I)I" } : Jvm.MethodName) jdk_89_method_18_code (1 : Nat) (Option.some Jvm.ClassFile.FieldType.int)).before args0 about1 = true := code_word (m := ⟨15, 2⟩) (meth := k15m2) (c := k15c2) (by decide +kernel) rfl rfl rfl (by decide +kernel)
set_option maxRecDepth 65536 in
theorem w_c30 : (Jvm.Cond.code ({ cls := "java/lang/Character", name := "isLowSurrogate", desc := "(C)Z" } : Jvm.MethodName) jdk_89_method_15_code (1 : Nat) (Option.some Jvm.ClassFile.FieldType.boolean)).before args0 about1 = true := code_word (m := ⟨15, 1⟩) (meth := k15m1) (c := k15c1) (by decide +kernel) rfl rfl rfl (by decide +kernel)
set_option maxRecDepth 65536 in
theorem w_c31 : (Jvm.Cond.code ({ cls := "java/lang/Character", name := "toCodePoint", desc := "(CC)I" } : Jvm.MethodName) jdk_89_method_19_code (2 : Nat) (Option.some Jvm.ClassFile.FieldType.int)).before args0 about1 = true := code_word (m := ⟨15, 3⟩) (meth := k15m3) (c := k15c3) (by decide +kernel) rfl rfl rfl (by decide +kernel)
def codes1 : List Jvm.Cond := [Jvm.Cond.code x code maxLocals ret, Jvm.Cond.code ({ cls := "com/example/erne/erne/SummaryCompareNamesPinLaw", name := "draw", desc := "(I)C" } : Jvm.MethodName) method_3_code (3 : Nat) (Option.some Jvm.ClassFile.FieldType.char), Jvm.Cond.code ({ cls := "com/example/erne/erne/SummaryCompareNamesPinLaw", name := "text", desc := "(ICCC)Ljava/lang/String;" } : Jvm.MethodName) method_4_code (4 : Nat) (Option.some (Jvm.ClassFile.FieldType.object "java/lang/String")), Jvm.Cond.code ({ cls := "java/lang/String", name := "<init>", desc := "([C)V" } : Jvm.MethodName) jdk_42_method_3_code (2 : Nat) (Option.none : Option Jvm.ClassFile.FieldType), Jvm.Cond.code ({ cls := "java/lang/String", name := "<init>", desc := "([CIILjava/lang/Void;)V" } : Jvm.MethodName) jdk_42_method_149_code (6 : Nat) (Option.none : Option Jvm.ClassFile.FieldType), Jvm.Cond.code ({ cls := "java/lang/Object", name := "<init>", desc := "()V" } : Jvm.MethodName) object_method_1_code (1 : Nat) (Option.none : Option Jvm.ClassFile.FieldType), Jvm.Cond.code ({ cls := "com/example/erne/erne/SummaryCompareNamesPinLaw", name := "points", desc := "([CI)[I" } : Jvm.MethodName) method_6_code (5 : Nat) (Option.some (Jvm.ClassFile.FieldType.array Jvm.ClassFile.FieldType.int)), Jvm.Cond.code ({ cls := "com/example/erne/erne/SummaryCompareNamesPinLaw", name := "reference", desc := "([I[I)I" } : Jvm.MethodName) method_7_code (4 : Nat) (Option.some Jvm.ClassFile.FieldType.int), Jvm.Cond.code ({ cls := "com/example/erne/erne/Summary", name := "compareNames", desc := "(Ljava/lang/String;Ljava/lang/String;)I" } : Jvm.MethodName) prog_20_method_22_code (5 : Nat) (Option.some Jvm.ClassFile.FieldType.int), Jvm.Cond.code ({ cls := "java/lang/String", name := "length", desc := "()I" } : Jvm.MethodName) jdk_42_method_54_code (1 : Nat) (Option.some Jvm.ClassFile.FieldType.int), Jvm.Cond.code ({ cls := "java/lang/String", name := "coder", desc := "()B" } : Jvm.MethodName) jdk_42_method_152_code (1 : Nat) (Option.some Jvm.ClassFile.FieldType.byte), Jvm.Cond.code ({ cls := "java/lang/Integer", name := "compare", desc := "(II)I" } : Jvm.MethodName) jdk_33_method_40_code (2 : Nat) (Option.some Jvm.ClassFile.FieldType.int), Jvm.Cond.code ({ cls := "com/example/erne/erne/SummaryCompareNamesPinLaw", name := "sign", desc := "(I)I" } : Jvm.MethodName) method_8_code (1 : Nat) (Option.some Jvm.ClassFile.FieldType.int), Jvm.Cond.code ({ cls := "java/lang/StringUTF16", name := "compress", desc := "([CII)[B" } : Jvm.MethodName) jdk_52_method_16_code (6 : Nat) (Option.some (Jvm.ClassFile.FieldType.array Jvm.ClassFile.FieldType.byte)), Jvm.Cond.code ({ cls := "java/lang/StringUTF16", name := "compress", desc := "([CI[BII)I" } : Jvm.MethodName) jdk_52_method_21_code (7 : Nat) (Option.some Jvm.ClassFile.FieldType.int), Jvm.Cond.code ({ cls := "java/lang/StringUTF16", name := "toBytes", desc := "([CII)[B" } : Jvm.MethodName) jdk_52_method_14_code (5 : Nat) (Option.some (Jvm.ClassFile.FieldType.array Jvm.ClassFile.FieldType.byte)), Jvm.Cond.code ({ cls := "java/lang/StringUTF16", name := "newBytesFor", desc := "(I)[B" } : Jvm.MethodName) jdk_52_method_2_code (1 : Nat) (Option.some (Jvm.ClassFile.FieldType.array Jvm.ClassFile.FieldType.byte)), Jvm.Cond.code ({ cls := "java/lang/StringUTF16", name := "newBytesLength", desc := "(I)I" } : Jvm.MethodName) jdk_52_method_3_code (1 : Nat) (Option.some Jvm.ClassFile.FieldType.int), Jvm.Cond.code ({ cls := "java/lang/StringUTF16", name := "putChar", desc := "([BII)V" } : Jvm.MethodName) jdk_52_method_4_code (3 : Nat) (Option.none : Option Jvm.ClassFile.FieldType), Jvm.Cond.code ({ cls := "java/lang/StringUTF16", name := "getChar", desc := "([BI)C" } : Jvm.MethodName) jdk_52_method_5_code (2 : Nat) (Option.some Jvm.ClassFile.FieldType.char), Jvm.Cond.code ({ cls := "java/lang/StringUTF16", name := "coderFromArrayLen", desc := "([BI)B" } : Jvm.MethodName) jdk_52_method_15_code (2 : Nat) (Option.some Jvm.ClassFile.FieldType.byte), Jvm.Cond.code ({ cls := "com/example/erne/erne/SummaryCompareNamesPinLaw", name := "cp", desc := "([CII)I" } : Jvm.MethodName) method_5_code (5 : Nat) (Option.some Jvm.ClassFile.FieldType.int), Jvm.Cond.code ({ cls := "java/lang/String", name := "codePointAt", desc := "(I)I" } : Jvm.MethodName) jdk_42_method_57_code (3 : Nat) (Option.some Jvm.ClassFile.FieldType.int), Jvm.Cond.code ({ cls := "java/lang/String", name := "isLatin1", desc := "()Z" } : Jvm.MethodName) jdk_42_method_154_code (1 : Nat) (Option.some Jvm.ClassFile.FieldType.boolean), Jvm.Cond.code ({ cls := "java/lang/String", name := "checkIndex", desc := "(II)V" } : Jvm.MethodName) jdk_42_method_155_code (2 : Nat) (Option.none : Option Jvm.ClassFile.FieldType), Jvm.Cond.code ({ cls := "jdk/internal/util/Preconditions", name := "checkIndex", desc := "(IILjava/util/function/BiFunction;)I" } : Jvm.MethodName) jdk_41_method_11_code (3 : Nat) (Option.some Jvm.ClassFile.FieldType.int), Jvm.Cond.code ({ cls := "java/lang/StringUTF16", name := "codePointAt", desc := "([BII)I" } : Jvm.MethodName) jdk_52_method_8_code (3 : Nat) (Option.some Jvm.ClassFile.FieldType.int), Jvm.Cond.code ({ cls := "java/lang/StringUTF16", name := "codePointAt", desc := "([BIIZ)I" } : Jvm.MethodName) jdk_52_method_7_code (6 : Nat) (Option.some Jvm.ClassFile.FieldType.int), Jvm.Cond.code ({ cls := "java/lang/Character", name := "isHighSurrogate", desc := "(C)Z" } : Jvm.MethodName) jdk_89_method_14_code (1 : Nat) (Option.some Jvm.ClassFile.FieldType.boolean), Jvm.Cond.code ({ cls := "java/lang/Character", name := "charCount", desc := "(I)I" } : Jvm.MethodName) jdk_89_method_18_code (1 : Nat) (Option.some Jvm.ClassFile.FieldType.int), Jvm.Cond.code ({ cls := "java/lang/Character", name := "isLowSurrogate", desc := "(C)Z" } : Jvm.MethodName) jdk_89_method_15_code (1 : Nat) (Option.some Jvm.ClassFile.FieldType.boolean), Jvm.Cond.code ({ cls := "java/lang/Character", name := "toCodePoint", desc := "(CC)I" } : Jvm.MethodName) jdk_89_method_19_code (2 : Nat) (Option.some Jvm.ClassFile.FieldType.int)]
set_option maxRecDepth 65536 in
theorem codes_eq : words1.filter isCode = codes1 := rfl
theorem w_codes : ∀ c ∈ words1.filter isCode, c.before args0 about1 = true := by
  rw [codes_eq]
  intro c hc
  simp only [codes1, List.mem_cons, List.not_mem_nil, or_false] at hc
  rcases hc with rfl | rfl | rfl | rfl | rfl | rfl | rfl | rfl | rfl | rfl | rfl | rfl | rfl | rfl | rfl | rfl | rfl | rfl | rfl | rfl | rfl | rfl | rfl | rfl | rfl | rfl | rfl | rfl | rfl | rfl | rfl | rfl
  · exact w_c0
  · exact w_c1
  · exact w_c2
  · exact w_c3
  · exact w_c4
  · exact w_c5
  · exact w_c6
  · exact w_c7
  · exact w_c8
  · exact w_c9
  · exact w_c10
  · exact w_c11
  · exact w_c12
  · exact w_c13
  · exact w_c14
  · exact w_c15
  · exact w_c16
  · exact w_c17
  · exact w_c18
  · exact w_c19
  · exact w_c20
  · exact w_c21
  · exact w_c22
  · exact w_c23
  · exact w_c24
  · exact w_c25
  · exact w_c26
  · exact w_c27
  · exact w_c28
  · exact w_c29
  · exact w_c30
  · exact w_c31
set_option maxRecDepth 65536 in
theorem w_t1 : (words1.take 24).all (fun c => isCode c || c.before args0 about1) = true := by decide +kernel
set_option maxRecDepth 65536 in
theorem w_t2 : ((words1.drop 24).take 24).all (fun c => isCode c || c.before args0 about1) = true := by decide +kernel
set_option maxRecDepth 65536 in
theorem w_t3 : (((words1.drop 24).drop 24).take 24).all (fun c => isCode c || c.before args0 about1) = true := by decide +kernel
set_option maxRecDepth 65536 in
theorem w_t4 : ((((words1.drop 24).drop 24).drop 24).take 24).all (fun c => isCode c || c.before args0 about1) = true := by decide +kernel
set_option maxRecDepth 65536 in
theorem w_t5 : (((((words1.drop 24).drop 24).drop 24).drop 24).take 24).all (fun c => isCode c || c.before args0 about1) = true := by decide +kernel
set_option maxRecDepth 65536 in
theorem w_t6 : (((((words1.drop 24).drop 24).drop 24).drop 24).drop 24).all (fun c => isCode c || c.before args0 about1) = true := by decide +kernel
theorem w_tables : (allAtoms (Jvm.Cond.code x code maxLocals ret :: tables_1)).before args0 about1 = true := by
  rw [allAtoms_all]
  show words1.all (fun c => c.before args0 about1) = true
  refine all_split ?_ w_codes
  rw [← List.take_append_drop 24 words1, List.all_append, w_t1, ← List.take_append_drop 24 (words1.drop 24), List.all_append, w_t2, ← List.take_append_drop 24 ((words1.drop 24).drop 24), List.all_append, w_t3, ← List.take_append_drop 24 (((words1.drop 24).drop 24).drop 24), List.all_append, w_t4, ← List.take_append_drop 24 ((((words1.drop 24).drop 24).drop 24).drop 24), List.all_append, w_t5, w_t6]
  rfl
set_option maxRecDepth 65536 in
theorem w_rest : rest_1_c.before args0 about1 = true := by decide +kernel
set_option maxRecDepth 65536 in
theorem w_case : (Jvm.Cond.and given_1 narrow_1).before args0 about1 = true := by decide +kernel
set_option maxRecDepth 65536 in
theorem w_consts : constsHeld consts_1 about1 := Jvm.Lit.constsHeldB_iff.mp (by decide +kernel)
theorem w_applies : (headSpec (Jvm.Cond.code x code maxLocals ret :: tables_1) room_1).applies x e0.platform about1 = true :=
  (Spec.applies_iff w_frames).mpr ⟨w_running, w_runnable, w_alone, w_named, w_hears, w_ripe, w_room, w_tables⟩
theorem atStart : AtStart classFile x code maxLocals ret World_1 tables_1 room_1 Calls_1 rest_1 Pre_1 launch0 p0 e0 about1 theMethod args0 below0 :=
  ⟨lists_1, trivial, launch0.admits_env _ _ _, launch0.least_env, fairChoices_fair.cas, fairChoices_fair.clock, w_frames, w_args, w_heap, w_applies, ⟨w_consts, trivial⟩, w_rest, w_case⟩
end start1
theorem witness_1 : WitnessClaimed_1 := ⟨start1.p0, start1.e0, start1.about1, start1.theMethod, start1.args0, start1.below0, start1.atStart⟩
end Jvm.Pilot.@@N@@
