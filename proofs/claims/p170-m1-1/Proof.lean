import JvmDerived
import JvmDerived.Pilot.@@N@@Statement
import JvmDerived.Pilot.@@N@@Code
set_option linter.unusedVariables false
set_option linter.unusedSimpArgs false
namespace Jvm.OwnK
open Jvm Jvm.ClassFile Sem Op Lib Jvm.Free Jvm.Stand Jvm.LawKit Jvm.RoadKit Bundle
/-! own kit, part 1: a walk as a triple on (heap, pc, locals, stack): Seg; contracts: Ct; who pays a call: Pays -/
def SfOk (Z : State) (EL : List (String × Nat)) (vm : Vm) (h : Heap) (sf : List Addr) : Prop := ∀ x ∈ sf, Z.heap.size ≤ x ∧ x < h.size ∧ Safe Z EL vm h x
def Wk (p : Program) (l : Launch) (e : Env) (R : Room) (s : State) (m : MethodId) (args : Array Value) (below : List Frame) (meth : Method) (c : Code) (Z : State) (a0 : Array Value) (EL : List (String × Nat)) (own : String) (sf : List Addr) (k n : Nat) (T : State) (h : Heap) : Prop :=
  ∃ (vm0 : Vm) (locs : List Loc) (k0 : Nat), Stand p l e R (s.setVm vm0) m args below meth c T locs k n ∧ T.heap = h ∧ s.Since vm0 k0 ∧ k0 ≤ h.size ∧ Z.Warmed39 vm0 ∧ vm0.findClass own = some m.cls ∧ CHr Z EL s.vm s.heap vm0 h ∧ Fr Z.heap.size locs ∧ Ext Z.heap h ∧ EW Z a0 EL ∧ SfOk Z EL vm0 h sf
def Cx (p : Program) (meth : Method) (c : Code) (y : MethodName) (bytes : ByteArray) (maxL : Nat) (ret : Option FieldType) : Prop :=
  p.tables.exec = Jvm.exec ∧ c.code = bytes ∧ c.maxLocals = maxL ∧ meth.sig.returnType = ret ∧ meth.locks = false ∧ meth.name = y.name
def Gl (p : Program) (e : Env) (below : List Frame) (s Z : State) (EL : List (String × Nat)) (Q : Option Value → Heap → Prop) (rc rs : Nat) (u : State) : Prop :=
  ∃ (s₂ : State) (o : Outcome), Steps p.tables e below u s₂ ∧ s₂.status = .running ∧ Ended s₂ below o ∧ ∃ v L, o = .returned v ∧ (Fr Z.heap.size L ∧ Ext Z.heap s₂.heap ∧ Q v s₂.heap) ∧ CHr Z EL s.vm s.heap s₂.vm s₂.heap ∧ ReturnedEndW s o s₂ L rc rs
def Seg (l : Launch) (Z : State) (a0 : Array Value) (EL : List (String × Nat)) (y : MethodName) (bytes : ByteArray) (maxL : Nat) (ret : Option FieldType) (rm : Room) (Q : Option Value → Heap → Prop) (h : Heap) (k n : Nat) (sf : List Addr) (pc : Nat) (L : Array Slot) (S : List Value) : Prop :=
  ∀ (p : Program) (e : Env) (s : State) (m : MethodId) (args : Array Value) (below : List Frame) (meth : Method) (c : Code) (T : State), Cx p meth c y bytes maxL ret → Wk p l e rm s m args below meth c Z a0 EL y.cls sf k n T h → Gl p e below s Z EL Q rm.cells rm.slots (T.setTop (mkF m pc L S))
/-- a contract -/
def Ct (l : Launch) (Z : State) (EL : List (String × Nat)) (sf : List Addr) (ws : List Jvm.Cond) (y : MethodName) (bytes : ByteArray) (maxL : Nat) (ret : Option FieldType) (rm : Room) (as' : Array Value) (h : Heap) (Q : Option Value → Heap → Prop) : Prop :=
  MetFree l y (head1 (Jvm.Cond.code y bytes maxL ret :: ws) rm) (fun a U => a = as' ∧ Z.Warmed39 U.vm ∧ U.heap = h ∧ CHv Z EL U.vm h ∧ SfOk Z EL U.vm h sf ∧ Ext Z.heap h) (fun _ _ _ _ _ => True)
    (fun _ U o U' => ∃ v L, o = .returned v ∧ (Fr Z.heap.size L ∧ Ext Z.heap U'.heap ∧ Q v U'.heap) ∧ CHr Z EL U.vm U.heap U'.vm U'.heap ∧ ReturnedEndW U o U' L rm.cells rm.slots)
section Facts
variable {Z : State} {EL : List (String × Nat)} {vm vm1 : Vm} {h h1 h2 h' : Heap} {sf sf' : List Addr} {ws : List Addr} {a x : Addr} {sl : Nat} {v : Value}
theorem ext_rfl (h : Heap) : Ext h h := ⟨Nat.le_refl _, fun _ _ q => q⟩
theorem ext_tr (A : Ext h h1) (B : Ext h1 h2) : Ext h h2 := ⟨Nat.le_trans A.1 B.1, fun x c q => B.2 x c (A.2 x c q)⟩
theorem ext_kp (A : Ext h h1) (K : Keep h1 h2 ws) (q : ∀ x ∈ ws, h.size ≤ x) : Ext h h2 := ⟨Nat.le_trans A.1 K.1, fun x c r => K.2.1 x c (A.2 x c r) fun z => absurd (Array.getElem?_eq_some_iff.mp r).1 (Nat.not_lt.mpr (q x z))⟩
theorem ext_wr (A : Ext h h1) (W : Wr h1 h2 a sl v) (q : h.size ≤ a) : Ext h h2 := ext_kp A (Keep.of_wr W) (allS q all0)
theorem keep_ext (E : Ext h h1) : Keep h h1 [] := (Keep.refl h []).ext E
theorem ext_keep (K : Keep h h1 []) : Ext h h1 := ⟨K.1, fun x c q => K.2.1 x c q (fun z => nomatch z)⟩
theorem keep_mono {ws' : List Addr} (K : Keep h h1 ws) (q : ∀ x ∈ ws, x ∈ ws' ∨ h.size ≤ x) : Keep h h1 ws' := (Keep.refl h ws').trans K q
theorem SfOk.sub (S : SfOk Z EL vm h sf) (q : ∀ x ∈ sf', x ∈ sf) : SfOk Z EL vm h sf' := fun x hx => S x (q x hx)
theorem SfOk.chr (S : SfOk Z EL vm h sf) (A : CHr Z EL vm h vm1 h') : SfOk Z EL vm1 h' sf := fun x hx => by
  obtain ⟨q1, q2, q3⟩ := S x hx
  exact ⟨q1, Nat.lt_of_lt_of_le q2 A.2.1, A.safe q2 q3⟩
theorem SfOk.cons (S : SfOk Z EL vm h sf) (q1 : Z.heap.size ≤ x) (q2 : x < h.size) (q3 : Safe Z EL vm h x) : SfOk Z EL vm h (x :: sf) := fun y hy => by
  rcases List.mem_cons.mp hy with rfl | hy
  · exact ⟨q1, q2, q3⟩
  · exact S y hy
theorem SfOk.safes (S : SfOk Z EL vm h sf) (q : ∀ x ∈ ws, x ∈ sf) : ∀ x ∈ ws, Safe Z EL vm h x := fun x hx => (S x (q x hx)).2.2
end Facts
section Core
variable {l : Launch} {Z : State} {a0 : Array Value} {EL : List (String × Nat)} {y : MethodName} {bytes : ByteArray} {maxL : Nat} {ret : Option FieldType} {rm : Room} {Q : Option Value → Heap → Prop} {h : Heap} {k n k' n' : Nat} {sf sf' : List Addr} {pc pc' : Nat} {L : Array Slot} {S : List Value}
variable {p : Program} {e : Env} {R : Room} {s : State} {m : MethodId} {args : Array Value} {below : List Frame} {meth : Method} {c : Code} {T : State} {own : String}
theorem Wk.here (w : Wk p l e R s m args below meth c Z a0 EL own sf k n T h) : At T m c below := by obtain ⟨_, _, _, X, -⟩ := w; exact X.here
theorem Wk.mono (w : Wk p l e R s m args below meth c Z a0 EL own sf k n T h) (hk : k ≤ k') (hn : n ≤ n') (q : ∀ x ∈ sf', x ∈ sf) : Wk p l e R s m args below meth c Z a0 EL own sf' k' n' T h := by
  obtain ⟨vm0, locs, k0, X, r1, r2, r3, r4, r5, r6, r7, r8, r9, r10⟩ := w
  exact ⟨vm0, locs, k0, X.mono hk hn, r1, r2, r3, r4, r5, r6, r7, r8, r9, r10.sub q⟩
theorem Seg.mono (hk : k ≤ k') (hn : n ≤ n') (q : ∀ x ∈ sf', x ∈ sf) (g : Seg l Z a0 EL y bytes maxL ret rm Q h k' n' sf' pc L S) : Seg l Z a0 EL y bytes maxL ret rm Q h k n sf pc L S :=
  fun p e s m args below meth c T C w => g p e s m args below meth c T C (w.mono hk hn q)
theorem Seg.post {Q' : Option Value → Heap → Prop} (q : ∀ v h, Q' v h → Q v h) (g : Seg l Z a0 EL y bytes maxL ret rm Q' h k n sf pc L S) : Seg l Z a0 EL y bytes maxL ret rm Q h k n sf pc L S :=
  fun p e s m args below meth c T C w => by
    obtain ⟨s₂, o, h1, h2, h3, v, Ls, h4, ⟨h5, h6, h7⟩, h8⟩ := g p e s m args below meth c T C w
    exact ⟨s₂, o, h1, h2, h3, v, Ls, h4, ⟨h5, h6, q _ _ h7⟩, h8⟩
theorem Gl.st {u u' : State} (hs : ∀ t, Steps p.tables e below u' t → Steps p.tables e below u t) (g : Gl p e below s Z EL Q k n u') : Gl p e below s Z EL Q k n u := by
  obtain ⟨s₂, o, h1, r⟩ := g
  exact ⟨s₂, o, hs _ h1, r⟩
theorem Seg.start (g : Ext Z.heap h → Seg l Z a0 EL y bytes maxL ret rm Q h k n sf pc L S) : Seg l Z a0 EL y bytes maxL ret rm Q h k n sf pc L S :=
  fun p e s m args below meth c T C w => by
    obtain ⟨vm0, locs, k0, X, r1, r2, r3, r4, r5, r6, r7, r8, r9, r10⟩ := w
    exact g r8 p e s m args below meth c T C ⟨vm0, locs, k0, X, r1, r2, r3, r4, r5, r6, r7, r8, r9, r10⟩
/-- a plain step -/
theorem Seg.plain {L' : Array Slot} {S' : List Value} (hs : ∀ (p : Program) (e : Env) (m : MethodId) (below : List Frame) (c : Code) (T : State) (t : State), p.tables.exec = Jvm.exec → c.code = bytes → At T m c below → Steps p.tables e below (T.setTop (mkF m pc' L' S')) t → Steps p.tables e below (T.setTop (mkF m pc L S)) t)
    (g : Seg l Z a0 EL y bytes maxL ret rm Q h k n sf pc' L' S') : Seg l Z a0 EL y bytes maxL ret rm Q h k n sf pc L S :=
  fun p e s m args below meth c T C w => Gl.st (fun t => hs p e m below c T t C.1 C.2.1 w.here) (g p e s m args below meth c T C w)
theorem Ct.of_seg {as' : Array Value} {ws : List Jvm.Cond} (hpn : plainFor y = true) (hEL : EW Z a0 EL) (hent : ∀ m, entryFrame m as' maxL = mkF m 0 L []) (g : Seg l Z a0 EL y bytes maxL ret rm Q h 0 0 sf 0 L []) :
    Ct l Z EL sf ws y bytes maxL ret rm as' h Q := by
  refine MetFree.of_bodySF hpn hisR ?_
  intro p e s m args below meth c s₁ Bd hml0 hP hK
  obtain ⟨rfl, hZ, hh, hC, hSf, hZ0⟩ := hP
  subst hh
  have X0 : Stand p l e rm (s.setVm s.vm) m _ below meth c s₁ [] 0 0 := Stand.of_body Bd
  have e0 : s₁.heap = s.heap := by rw [Bd.state]; rfl
  have hown : s.vm.findClass y.cls = some m.cls := findClass_of_methodNamed Bd.named
  rw [hent m]
  exact g p e s m _ below meth c s₁ ⟨Bd.exec, Bd.bytes, hml0, Bd.returns, Bd.notSynchronized, (name_of_methodNamed Bd.named Bd.method).1⟩ ⟨s.vm, [], 0, X0, e0, (State.WarmedH.refl s).since 0, Nat.zero_le _, hZ, hown, CHr.refl hC, Fr.nil _, hZ0, hEL, hSf⟩
theorem Wk.out (w : Wk p l e R s m args below meth c Z a0 EL own sf k n T h) (C : Cx p meth c y bytes maxL ret) {v : Option Value} (hv : ret = none → v = none) (hQ : Q v h) (hk : k ≤ R.cells) (hn : n ≤ R.slots) {u : State}
    (hs : ∀ (vm0 : Vm) (locs : List Loc), Stand p l e R (s.setVm vm0) m args below meth c T locs k n → ∀ fs, (∀ (f : JFrame) (acts : List Action), f.method = m → f.locked = none → f.entered = [] → (doReturn e (T.setTop f) acts v).1 = T.setFrames fs) → Steps p.tables e below u (T.setFrames fs)) : Gl p e below s Z EL Q R.cells R.slots u := by
  obtain ⟨vm0, locs, k0, X, rfl, r2, r3, r4, r5, r6, r7, r8, r9, r10⟩ := w
  obtain ⟨C1, C2, C3, C4, C5, C6⟩ := C
  obtain ⟨fs, h1, h2, h3, ⟨-, e1, e2, e3⟩⟩ := X.leaveW r2 r3 (v := v) (fun q => hv (C4 ▸ q)) C5
  refine ⟨_, _, hs vm0 locs X fs h1, h2, h3, v, locs, rfl, ⟨r7, r8, hQ⟩, ?_, ⟨v, rfl⟩, e1, e2, e3.mono hk hn⟩
  have A := CHv.at X r4 r9 r6.1
  exact r6.trans A
/-- returns -/
theorem Seg.retI {v : Int32} (hret : ret = some .int) (hd : decode bytes pc = .ok (.ireturn, 1)) (hk : k ≤ rm.cells) (hn : n ≤ rm.slots) (hQ : Q (some (.int v)) h) : Seg l Z a0 EL y bytes maxL ret rm Q h k n sf pc L [.int v] :=
  fun p e s m args below meth c T C w => w.out C (fun q => by rw [hret] at q; cases q) hQ hk hn fun vm0 locs X fs hl => X.ireturnOut C.1 (t := .int) (C.2.2.2.1.trans hret) rfl (Or.inl rfl) (hb C.2.1 hd) hl
theorem Seg.retN {v w : Int32} {t : FieldType} (hret : ret = some t) (ht : t = .boolean ∨ t = .byte ∨ t = .char ∨ t = .short) (hv : nar t v = w) (hd : decode bytes pc = .ok (.ireturn, 1)) (hk : k ≤ rm.cells) (hn : n ≤ rm.slots) (hQ : Q (some (.int w)) h) : Seg l Z a0 EL y bytes maxL ret rm Q h k n sf pc L [.int v] :=
  fun p e s m args below meth c T C w' => by
    subst hv
    exact w'.out C (fun q => by rw [hret] at q; cases q) hQ hk hn fun vm0 locs X fs hl => RoadKit.retN X C.1 (t := t) (C.2.2.2.1.trans hret) ht (hb C.2.1 hd) hl
theorem Seg.retA {v : Value} {t : FieldType} (hret : ret = some t) (ht : t.isReference = true) (hv : v.isRef = true) (hd : decode bytes pc = .ok (.areturn, 1)) (hk : k ≤ rm.cells) (hn : n ≤ rm.slots) (hQ : Q (some v) h) : Seg l Z a0 EL y bytes maxL ret rm Q h k n sf pc L [v] :=
  fun p e s m args below meth c T C w => w.out C (fun q => by rw [hret] at q; cases q) hQ hk hn fun vm0 locs X fs hl => X.areturnOut C.1 hv (C.2.2.2.1.trans hret) ht (hb C.2.1 hd) hl
theorem Seg.retL {v : Int64} (hret : ret = some .long) (hd : decode bytes pc = .ok (.lreturn, 1)) (hk : k ≤ rm.cells) (hn : n ≤ rm.slots) (hQ : Q (some (.long v)) h) : Seg l Z a0 EL y bytes maxL ret rm Q h k n sf pc L [.long v] :=
  fun p e s m args below meth c T C w => w.out C (fun q => by rw [hret] at q; cases q) hQ hk hn fun vm0 locs X fs hl => X.lreturnOut C.1 (C.2.2.2.1.trans hret) (hb C.2.1 hd) hl
theorem Seg.ret0 (hret : ret = none) (hd : decode bytes pc = .ok (.return_, 1)) (hk : k ≤ rm.cells) (hn : n ≤ rm.slots) (hQ : Q none h) : Seg l Z a0 EL y bytes maxL ret rm Q h k n sf pc L [] :=
  fun p e s m args below meth c T C w => w.out C (fun _ => rfl) hQ hk hn fun vm0 locs X fs hl => X.returnOut C.1 (C.2.2.2.1.trans hret) (hb C.2.1 hd) hl
end Core
section Plain
variable {l : Launch} {Z : State} {a0 : Array Value} {EL : List (String × Nat)} {y : MethodName} {bytes : ByteArray} {maxL : Nat} {ret : Option FieldType} {rm : Room} {Q : Option Value → Heap → Prop} {h : Heap} {k n : Nat} {sf : List Addr} {pc pc' : Nat} {L : Array Slot} {S : List Value}
theorem Seg.iloadN {i : Fin 4} {v : Int32} (hd : decode bytes pc = .ok (.iload_n i, 1)) (hl : L[i.val]? = some (.val (.int v))) (hp : pc + 1 = pc') (g : Seg l Z a0 EL y bytes maxL ret rm Q h k n sf pc' L (.int v :: S)) : Seg l Z a0 EL y bytes maxL ret rm Q h k n sf pc L S := by
  subst hp
  exact Seg.plain (fun p e m below c T t hx hc ha hr => XS.iloadN ha hx rfl (hb hc hd) hl hr) g
theorem Seg.iload {i : Nat} {v : Int32} (hd : decode bytes pc = .ok (.iload i, 2)) (hl : L[i]? = some (.val (.int v))) (hp : pc + 2 = pc') (g : Seg l Z a0 EL y bytes maxL ret rm Q h k n sf pc' L (.int v :: S)) : Seg l Z a0 EL y bytes maxL ret rm Q h k n sf pc L S := by
  subst hp
  exact Seg.plain (fun p e m below c T t hx hc ha hr => XS.iload ha hx rfl (hb hc hd) hl hr) g
theorem Seg.lloadN {i : Fin 4} {v : Int64} (hd : decode bytes pc = .ok (.lload_n i, 1)) (hl : L[i.val]? = some (.val (.long v))) (hp : pc + 1 = pc') (g : Seg l Z a0 EL y bytes maxL ret rm Q h k n sf pc' L (.long v :: S)) : Seg l Z a0 EL y bytes maxL ret rm Q h k n sf pc L S := by
  subst hp
  exact Seg.plain (fun p e m below c T t hx hc ha hr => XT.lloadN ha hx rfl (hb hc hd) hl hr) g
theorem Seg.lload {i : Nat} {v : Int64} (hd : decode bytes pc = .ok (.lload i, 2)) (hl : L[i]? = some (.val (.long v))) (hp : pc + 2 = pc') (g : Seg l Z a0 EL y bytes maxL ret rm Q h k n sf pc' L (.long v :: S)) : Seg l Z a0 EL y bytes maxL ret rm Q h k n sf pc L S := by
  subst hp
  exact Seg.plain (fun p e m below c T t hx hc ha hr => XT.lload ha hx rfl (hb hc hd) hl hr) g
theorem Seg.aloadN {i : Fin 4} {v : Value} (hd : decode bytes pc = .ok (.aload_n i, 1)) (hl : L[i.val]? = some (.val v)) (hv : v.isRef = true) (hp : pc + 1 = pc') (g : Seg l Z a0 EL y bytes maxL ret rm Q h k n sf pc' L (v :: S)) : Seg l Z a0 EL y bytes maxL ret rm Q h k n sf pc L S := by
  subst hp
  exact Seg.plain (fun p e m below c T t hx hc ha hr => XS.aloadN ha hx rfl (hb hc hd) hl hv hr) g
theorem Seg.aload {i : Nat} {v : Value} (hd : decode bytes pc = .ok (.aload i, 2)) (hl : L[i]? = some (.val v)) (hv : v.isRef = true) (hp : pc + 2 = pc') (g : Seg l Z a0 EL y bytes maxL ret rm Q h k n sf pc' L (v :: S)) : Seg l Z a0 EL y bytes maxL ret rm Q h k n sf pc L S := by
  subst hp
  exact Seg.plain (fun p e m below c T t hx hc ha hr => XS.aload ha hx rfl (hb hc hd) hl hv hr) g
theorem Seg.istoreN {i : Fin 4} {v : Int32} {L' : Array Slot} (hd : decode bytes pc = .ok (.istore_n i, 1)) (hl : storeLocals L i.val (.int v) = some L') (hp : pc + 1 = pc') (g : Seg l Z a0 EL y bytes maxL ret rm Q h k n sf pc' L' S) : Seg l Z a0 EL y bytes maxL ret rm Q h k n sf pc L (.int v :: S) := by
  subst hp
  exact Seg.plain (fun p e m below c T t hx hc ha hr => XS.istoreN ha hx rfl (hb hc hd) rfl hl hr) g
theorem Seg.istore {i : Nat} {v : Int32} {L' : Array Slot} (hd : decode bytes pc = .ok (.istore i, 2)) (hl : storeLocals L i (.int v) = some L') (hp : pc + 2 = pc') (g : Seg l Z a0 EL y bytes maxL ret rm Q h k n sf pc' L' S) : Seg l Z a0 EL y bytes maxL ret rm Q h k n sf pc L (.int v :: S) := by
  subst hp
  exact Seg.plain (fun p e m below c T t hx hc ha hr => XS.istore ha hx rfl (hb hc hd) rfl hl hr) g
theorem Seg.lstoreN {i : Fin 4} {v : Int64} {L' : Array Slot} (hd : decode bytes pc = .ok (.lstore_n i, 1)) (hl : storeLocals L i.val (.long v) = some L') (hp : pc + 1 = pc') (g : Seg l Z a0 EL y bytes maxL ret rm Q h k n sf pc' L' S) : Seg l Z a0 EL y bytes maxL ret rm Q h k n sf pc L (.long v :: S) := by
  subst hp
  exact Seg.plain (fun p e m below c T t hx hc ha hr => XT.lstoreN ha hx rfl (hb hc hd) rfl hl hr) g
theorem Seg.lstore {i : Nat} {v : Int64} {L' : Array Slot} (hd : decode bytes pc = .ok (.lstore i, 2)) (hl : storeLocals L i (.long v) = some L') (hp : pc + 2 = pc') (g : Seg l Z a0 EL y bytes maxL ret rm Q h k n sf pc' L' S) : Seg l Z a0 EL y bytes maxL ret rm Q h k n sf pc L (.long v :: S) := by
  subst hp
  exact Seg.plain (fun p e m below c T t hx hc ha hr => XT.lstore ha hx rfl (hb hc hd) rfl hl hr) g
theorem Seg.astoreN {i : Fin 4} {v : Value} {L' : Array Slot} (hd : decode bytes pc = .ok (.astore_n i, 1)) (hv : v.isRef = true) (hl : storeLocals L i.val v = some L') (hp : pc + 1 = pc') (g : Seg l Z a0 EL y bytes maxL ret rm Q h k n sf pc' L' S) : Seg l Z a0 EL y bytes maxL ret rm Q h k n sf pc L (v :: S) := by
  subst hp
  exact Seg.plain (fun p e m below c T t hx hc ha hr => XS.astoreN ha hx rfl (hb hc hd) rfl hv hl hr) g
theorem Seg.astore {i : Nat} {v : Value} {L' : Array Slot} (hd : decode bytes pc = .ok (.astore i, 2)) (hv : v.isRef = true) (hl : storeLocals L i v = some L') (hp : pc + 2 = pc') (g : Seg l Z a0 EL y bytes maxL ret rm Q h k n sf pc' L' S) : Seg l Z a0 EL y bytes maxL ret rm Q h k n sf pc L (v :: S) := by
  subst hp
  exact Seg.plain (fun p e m below c T t hx hc ha hr => XS.astore ha hx rfl (hb hc hd) rfl hv hl hr) g
theorem Seg.iconst {i : Int} {v : Int32} (hd : decode bytes pc = .ok (.iconst i, 1)) (hv : Int32.ofInt i = v) (hp : pc + 1 = pc') (g : Seg l Z a0 EL y bytes maxL ret rm Q h k n sf pc' L (.int v :: S)) : Seg l Z a0 EL y bytes maxL ret rm Q h k n sf pc L S := by
  subst hp
  exact Seg.plain (fun p e m below c T t hx hc ha hr => XT.iconstV ha hx rfl v (hb hc hd) hv hr) g
theorem Seg.bipush {i : Int} {v : Int32} (hd : decode bytes pc = .ok (.bipush i, 2)) (hv : (Int8.ofInt i).toInt32 = v) (hp : pc + 2 = pc') (g : Seg l Z a0 EL y bytes maxL ret rm Q h k n sf pc' L (.int v :: S)) : Seg l Z a0 EL y bytes maxL ret rm Q h k n sf pc L S := by
  subst hp
  exact Seg.plain (fun p e m below c T t hx hc ha hr => XT.bipushV ha hx rfl v (hb hc hd) hv hr) g
theorem Seg.sipush {i : Int} {v : Int32} (hd : decode bytes pc = .ok (.sipush i, 3)) (hv : (Int16.ofInt i).toInt32 = v) (hp : pc + 3 = pc') (g : Seg l Z a0 EL y bytes maxL ret rm Q h k n sf pc' L (.int v :: S)) : Seg l Z a0 EL y bytes maxL ret rm Q h k n sf pc L S := by
  subst hp
  exact Seg.plain (fun p e m below c T t hx hc ha hr => XT.sipushV ha hx rfl v (hb hc hd) hv hr) g
theorem Seg.lconst {i : Fin 2} {v : Int64} (hd : decode bytes pc = .ok (.lconst i, 1)) (hv : Int64.ofNat i = v) (hp : pc + 1 = pc') (g : Seg l Z a0 EL y bytes maxL ret rm Q h k n sf pc' L (.long v :: S)) : Seg l Z a0 EL y bytes maxL ret rm Q h k n sf pc L S := by
  subst hp
  exact Seg.plain (fun p e m below c T t hx hc ha hr => XT.lconstV ha hx rfl v (hb hc hd) hv hr) g
theorem Seg.anull  (hd : decode bytes pc = .ok (.aconst_null, 1))  (hp : pc + 1 = pc') (g : Seg l Z a0 EL y bytes maxL ret rm Q h k n sf pc' L (.null :: S)) : Seg l Z a0 EL y bytes maxL ret rm Q h k n sf pc L S := by
  subst hp
  exact Seg.plain (fun p e m below c T t hx hc ha hr => XS.aconstNull ha hx rfl (hb hc hd) hr) g
theorem Seg.iadd {x z v : Int32} (hd : decode bytes pc = .ok (.iadd, 1)) (hv : x + z = v) (hp : pc + 1 = pc') (g : Seg l Z a0 EL y bytes maxL ret rm Q h k n sf pc' L (.int v :: S)) : Seg l Z a0 EL y bytes maxL ret rm Q h k n sf pc L (.int z :: .int x :: S) := by
  subst hp
  exact Seg.plain (fun p e m below c T t hx hc ha hr => XS.iadd ha hx rfl (hb hc hd) rfl (by subst hv; exact hr)) g
theorem Seg.isub {x z v : Int32} (hd : decode bytes pc = .ok (.isub, 1)) (hv : x - z = v) (hp : pc + 1 = pc') (g : Seg l Z a0 EL y bytes maxL ret rm Q h k n sf pc' L (.int v :: S)) : Seg l Z a0 EL y bytes maxL ret rm Q h k n sf pc L (.int z :: .int x :: S) := by
  subst hp
  exact Seg.plain (fun p e m below c T t hx hc ha hr => XS.isub ha hx rfl (hb hc hd) rfl (by subst hv; exact hr)) g
theorem Seg.imul {x z v : Int32} (hd : decode bytes pc = .ok (.imul, 1)) (hv : x * z = v) (hp : pc + 1 = pc') (g : Seg l Z a0 EL y bytes maxL ret rm Q h k n sf pc' L (.int v :: S)) : Seg l Z a0 EL y bytes maxL ret rm Q h k n sf pc L (.int z :: .int x :: S) := by
  subst hp
  exact Seg.plain (fun p e m below c T t hx hc ha hr => XS.imul ha hx rfl (hb hc hd) rfl (by subst hv; exact hr)) g
theorem Seg.iand {x z v : Int32} (hd : decode bytes pc = .ok (.iand, 1)) (hv : x &&& z = v) (hp : pc + 1 = pc') (g : Seg l Z a0 EL y bytes maxL ret rm Q h k n sf pc' L (.int v :: S)) : Seg l Z a0 EL y bytes maxL ret rm Q h k n sf pc L (.int z :: .int x :: S) := by
  subst hp
  exact Seg.plain (fun p e m below c T t hx hc ha hr => XS.iand ha hx rfl (hb hc hd) rfl (by subst hv; exact hr)) g
theorem Seg.ior {x z v : Int32} (hd : decode bytes pc = .ok (.ior, 1)) (hv : x ||| z = v) (hp : pc + 1 = pc') (g : Seg l Z a0 EL y bytes maxL ret rm Q h k n sf pc' L (.int v :: S)) : Seg l Z a0 EL y bytes maxL ret rm Q h k n sf pc L (.int z :: .int x :: S) := by
  subst hp
  exact Seg.plain (fun p e m below c T t hx hc ha hr => XT.ior ha hx rfl (hb hc hd) rfl (by subst hv; exact hr)) g
theorem Seg.ixor {x z v : Int32} (hd : decode bytes pc = .ok (.ixor, 1)) (hv : x ^^^ z = v) (hp : pc + 1 = pc') (g : Seg l Z a0 EL y bytes maxL ret rm Q h k n sf pc' L (.int v :: S)) : Seg l Z a0 EL y bytes maxL ret rm Q h k n sf pc L (.int z :: .int x :: S) := by
  subst hp
  exact Seg.plain (fun p e m below c T t hx hc ha hr => XT.ixor ha hx rfl (hb hc hd) rfl (by subst hv; exact hr)) g
theorem Seg.ishl {x z v : Int32} (hd : decode bytes pc = .ok (.ishl, 1)) (hv : x <<< (z &&& 31) = v) (hp : pc + 1 = pc') (g : Seg l Z a0 EL y bytes maxL ret rm Q h k n sf pc' L (.int v :: S)) : Seg l Z a0 EL y bytes maxL ret rm Q h k n sf pc L (.int z :: .int x :: S) := by
  subst hp
  exact Seg.plain (fun p e m below c T t hx hc ha hr => XT.ishl ha hx rfl (hb hc hd) rfl (by subst hv; exact hr)) g
theorem Seg.ishr {x z v : Int32} (hd : decode bytes pc = .ok (.ishr, 1)) (hv : x >>> (z &&& 31) = v) (hp : pc + 1 = pc') (g : Seg l Z a0 EL y bytes maxL ret rm Q h k n sf pc' L (.int v :: S)) : Seg l Z a0 EL y bytes maxL ret rm Q h k n sf pc L (.int z :: .int x :: S) := by
  subst hp
  exact Seg.plain (fun p e m below c T t hx hc ha hr => XT.ishr ha hx rfl (hb hc hd) rfl (by subst hv; exact hr)) g
theorem Seg.iushr {x z v : Int32} (hd : decode bytes pc = .ok (.iushr, 1)) (hv : (x.toUInt32 >>> (z &&& 31).toUInt32).toInt32 = v) (hp : pc + 1 = pc') (g : Seg l Z a0 EL y bytes maxL ret rm Q h k n sf pc' L (.int v :: S)) : Seg l Z a0 EL y bytes maxL ret rm Q h k n sf pc L (.int z :: .int x :: S) := by
  subst hp
  exact Seg.plain (fun p e m below c T t hx hc ha hr => XT.iushr ha hx rfl (hb hc hd) rfl (by subst hv; exact hr)) g
theorem Seg.ladd {x z v : Int64} (hd : decode bytes pc = .ok (.ladd, 1)) (hv : x + z = v) (hp : pc + 1 = pc') (g : Seg l Z a0 EL y bytes maxL ret rm Q h k n sf pc' L (.long v :: S)) : Seg l Z a0 EL y bytes maxL ret rm Q h k n sf pc L (.long z :: .long x :: S) := by
  subst hp
  exact Seg.plain (fun p e m below c T t hx hc ha hr => XT.ladd ha hx rfl (hb hc hd) rfl (by subst hv; exact hr)) g
theorem Seg.lsub {x z v : Int64} (hd : decode bytes pc = .ok (.lsub, 1)) (hv : x - z = v) (hp : pc + 1 = pc') (g : Seg l Z a0 EL y bytes maxL ret rm Q h k n sf pc' L (.long v :: S)) : Seg l Z a0 EL y bytes maxL ret rm Q h k n sf pc L (.long z :: .long x :: S) := by
  subst hp
  exact Seg.plain (fun p e m below c T t hx hc ha hr => XT.lsub ha hx rfl (hb hc hd) rfl (by subst hv; exact hr)) g
theorem Seg.lmul {x z v : Int64} (hd : decode bytes pc = .ok (.lmul, 1)) (hv : x * z = v) (hp : pc + 1 = pc') (g : Seg l Z a0 EL y bytes maxL ret rm Q h k n sf pc' L (.long v :: S)) : Seg l Z a0 EL y bytes maxL ret rm Q h k n sf pc L (.long z :: .long x :: S) := by
  subst hp
  exact Seg.plain (fun p e m below c T t hx hc ha hr => XT.lmul ha hx rfl (hb hc hd) rfl (by subst hv; exact hr)) g
theorem Seg.land {x z v : Int64} (hd : decode bytes pc = .ok (.land, 1)) (hv : x &&& z = v) (hp : pc + 1 = pc') (g : Seg l Z a0 EL y bytes maxL ret rm Q h k n sf pc' L (.long v :: S)) : Seg l Z a0 EL y bytes maxL ret rm Q h k n sf pc L (.long z :: .long x :: S) := by
  subst hp
  exact Seg.plain (fun p e m below c T t hx hc ha hr => XT.land ha hx rfl (hb hc hd) rfl (by subst hv; exact hr)) g
theorem Seg.lushr {x v : Int64} {z : Int32} (hd : decode bytes pc = .ok (.lushr, 1)) (hv : XT.ushrL x z = v) (hp : pc + 1 = pc') (g : Seg l Z a0 EL y bytes maxL ret rm Q h k n sf pc' L (.long v :: S)) : Seg l Z a0 EL y bytes maxL ret rm Q h k n sf pc L (.int z :: .long x :: S) := by
  subst hp
  exact Seg.plain (fun p e m below c T t hx hc ha hr => XT.lushr ha hx rfl (hb hc hd) rfl (by subst hv; exact hr)) g
theorem Seg.lrem {x z v : Int64} (hd : decode bytes pc = .ok (.lrem, 1)) (hz : z ≠ 0) (hv : x - (x / z) * z = v) (hp : pc + 1 = pc') (g : Seg l Z a0 EL y bytes maxL ret rm Q h k n sf pc' L (.long v :: S)) : Seg l Z a0 EL y bytes maxL ret rm Q h k n sf pc L (.long z :: .long x :: S) := by
  subst hp
  exact Seg.plain (fun p e m below c T t hx hc ha hr => XT.lrem ha hx rfl (hb hc hd) rfl hz (by subst hv; exact hr)) g
theorem Seg.i2l {x : Int32} {v : Int64} (hd : decode bytes pc = .ok (.i2l, 1)) (hv : x.toInt64 = v) (hp : pc + 1 = pc') (g : Seg l Z a0 EL y bytes maxL ret rm Q h k n sf pc' L (.long v :: S)) : Seg l Z a0 EL y bytes maxL ret rm Q h k n sf pc L (.int x :: S) := by
  subst hp
  exact Seg.plain (fun p e m below c T t hx hc ha hr => XT.i2l ha hx rfl (hb hc hd) rfl (by subst hv; exact hr)) g
theorem Seg.l2i {x : Int64} {v : Int32} (hd : decode bytes pc = .ok (.l2i, 1)) (hv : x.toInt32 = v) (hp : pc + 1 = pc') (g : Seg l Z a0 EL y bytes maxL ret rm Q h k n sf pc' L (.int v :: S)) : Seg l Z a0 EL y bytes maxL ret rm Q h k n sf pc L (.long x :: S) := by
  subst hp
  exact Seg.plain (fun p e m below c T t hx hc ha hr => XT.l2i ha hx rfl (hb hc hd) rfl (by subst hv; exact hr)) g
theorem Seg.i2b {x : Int32} {v : Int32} (hd : decode bytes pc = .ok (.i2b, 1)) (hv : x.toInt8.toInt32 = v) (hp : pc + 1 = pc') (g : Seg l Z a0 EL y bytes maxL ret rm Q h k n sf pc' L (.int v :: S)) : Seg l Z a0 EL y bytes maxL ret rm Q h k n sf pc L (.int x :: S) := by
  subst hp
  exact Seg.plain (fun p e m below c T t hx hc ha hr => XT.i2b ha hx rfl (hb hc hd) rfl (by subst hv; exact hr)) g
theorem Seg.i2c {x : Int32} {v : Int32} (hd : decode bytes pc = .ok (.i2c, 1)) (hv : x.toUInt32.toUInt16.toUInt32.toInt32 = v) (hp : pc + 1 = pc') (g : Seg l Z a0 EL y bytes maxL ret rm Q h k n sf pc' L (.int v :: S)) : Seg l Z a0 EL y bytes maxL ret rm Q h k n sf pc L (.int x :: S) := by
  subst hp
  exact Seg.plain (fun p e m below c T t hx hc ha hr => XT.i2c ha hx rfl (hb hc hd) rfl (by subst hv; exact hr)) g
theorem Seg.irem {x z v : Int32} (hd : decode bytes pc = .ok (.irem, 1)) (hz : z ≠ 0) (hv : x % z = v) (hp : pc + 1 = pc') (g : Seg l Z a0 EL y bytes maxL ret rm Q h k n sf pc' L (.int v :: S)) : Seg l Z a0 EL y bytes maxL ret rm Q h k n sf pc L (.int z :: .int x :: S) := by
  subst hp
  exact Seg.plain (fun p e m below c T t hx hc ha hr => XS.irem ha hx rfl (hb hc hd) rfl hz (by subst hv; rw [irem_eq_mod]; exact hr)) g
theorem Seg.lcmp {x z : Int64} {v : Int32} (hd : decode bytes pc = .ok (.lcmp, 1)) (hv : lcmpW x z = v) (hp : pc + 1 = pc') (g : Seg l Z a0 EL y bytes maxL ret rm Q h k n sf pc' L (.int v :: S)) : Seg l Z a0 EL y bytes maxL ret rm Q h k n sf pc L (.long z :: .long x :: S) := by
  subst hp
  exact Seg.plain (fun p e m below c T t hx hc ha hr => XT.lcmp ha hx rfl (hb hc hd) rfl (by subst hv; exact hr)) g
theorem Seg.dup {v : Value} (hd : decode bytes pc = .ok (.dup, 1)) (hv : v.category = 1) (hp : pc + 1 = pc') (g : Seg l Z a0 EL y bytes maxL ret rm Q h k n sf pc' L (v :: v :: S)) : Seg l Z a0 EL y bytes maxL ret rm Q h k n sf pc L (v :: S) := by
  subst hp
  exact Seg.plain (fun p e m below c T t hx hc ha hr => XS.dup ha hx rfl (hb hc hd) rfl hv hr) g
theorem Seg.dupX1 {v w : Value} (hd : decode bytes pc = .ok (.dup_x1, 1)) (hv : v.category = 1) (hw : w.category = 1) (hp : pc + 1 = pc') (g : Seg l Z a0 EL y bytes maxL ret rm Q h k n sf pc' L (v :: w :: v :: S)) : Seg l Z a0 EL y bytes maxL ret rm Q h k n sf pc L (v :: w :: S) := by
  subst hp
  exact Seg.plain (fun p e m below c T t hx hc ha hr => XT.dupX1 ha hx rfl (hb hc hd) rfl hv hw hr) g
theorem Seg.pop {v : Value} (hd : decode bytes pc = .ok (.pop, 1)) (hv : v.category = 1) (hp : pc + 1 = pc') (g : Seg l Z a0 EL y bytes maxL ret rm Q h k n sf pc' L S) : Seg l Z a0 EL y bytes maxL ret rm Q h k n sf pc L (v :: S) := by
  subst hp
  exact Seg.plain (fun p e m below c T t hx hc ha hr => XT.pop ha hx rfl (hb hc hd) rfl hv hr) g
theorem Seg.iinc {i : Nat} {d : Int} {x v : Int32} {L' : Array Slot} (hd : decode bytes pc = .ok (.iinc i d, 3)) (hv : Int32.ofInt d = v) (hl : L[i]? = some (.val (.int x))) {z : Int32} (hz : x + v = z) (hl' : storeLocals L i (.int z) = some L') (hp : pc + 3 = pc') (g : Seg l Z a0 EL y bytes maxL ret rm Q h k n sf pc' L' S) : Seg l Z a0 EL y bytes maxL ret rm Q h k n sf pc L S := by
  subst hp
  exact Seg.plain (fun p e m below c T t hx hc ha hr => XT.iincV ha hx rfl v (hb hc hd) hv hl (by rw [hz]; exact hl') hr) g
theorem Seg.goto {o : Int} (hd : decode bytes pc = .ok (.goto o, 3))  (ho : 0 ≤ (pc : Int) + o) (hp : ((pc : Int) + o).toNat = pc') (g : Seg l Z a0 EL y bytes maxL ret rm Q h k n sf pc' L S) : Seg l Z a0 EL y bytes maxL ret rm Q h k n sf pc L S := by
  subst hp
  exact Seg.plain (fun p e m below c T t hx hc ha hr => XS.goto ha hx rfl rfl (hb hc hd) ho rfl hr) g
theorem Seg.ifY {cd : ClassFile.Cond} {o : Int} {x : Int32} (hd : decode bytes pc = .ok (.ifCond cd o, 3)) (hc' : ifCond.holds cd x = true) (ho : 0 ≤ (pc : Int) + o) (hp : ((pc : Int) + o).toNat = pc') (g : Seg l Z a0 EL y bytes maxL ret rm Q h k n sf pc' L S) : Seg l Z a0 EL y bytes maxL ret rm Q h k n sf pc L (.int x :: S) := by
  subst hp
  exact Seg.plain (fun p e m below c T t hx hc ha hr => XS.ifYes ha hx rfl rfl (hb hc hd) rfl hc' ho rfl hr) g
theorem Seg.ifN {cd : ClassFile.Cond} {o : Int} {x : Int32} (hd : decode bytes pc = .ok (.ifCond cd o, 3)) (hc' : ifCond.holds cd x = false) (hp : pc + 3 = pc') (g : Seg l Z a0 EL y bytes maxL ret rm Q h k n sf pc' L S) : Seg l Z a0 EL y bytes maxL ret rm Q h k n sf pc L (.int x :: S) := by
  subst hp
  exact Seg.plain (fun p e m below c T t hx hc ha hr => XS.ifNo ha hx rfl (hb hc hd) rfl hc' hr) g
theorem Seg.icY {cd : ClassFile.Cond} {o : Int} {x z : Int32} (hd : decode bytes pc = .ok (.if_icmp cd o, 3)) (hc' : if_icmp.holds cd x z = true) (ho : 0 ≤ (pc : Int) + o) (hp : ((pc : Int) + o).toNat = pc') (g : Seg l Z a0 EL y bytes maxL ret rm Q h k n sf pc' L S) : Seg l Z a0 EL y bytes maxL ret rm Q h k n sf pc L (.int z :: .int x :: S) := by
  subst hp
  exact Seg.plain (fun p e m below c T t hx hc ha hr => XS.icmpYes ha hx rfl rfl (hb hc hd) rfl hc' ho rfl hr) g
theorem Seg.icN {cd : ClassFile.Cond} {o : Int} {x z : Int32} (hd : decode bytes pc = .ok (.if_icmp cd o, 3)) (hc' : if_icmp.holds cd x z = false) (hp : pc + 3 = pc') (g : Seg l Z a0 EL y bytes maxL ret rm Q h k n sf pc' L S) : Seg l Z a0 EL y bytes maxL ret rm Q h k n sf pc L (.int z :: .int x :: S) := by
  subst hp
  exact Seg.plain (fun p e m below c T t hx hc ha hr => XS.icmpNo ha hx rfl (hb hc hd) rfl hc' hr) g
theorem Seg.nullY {o : Int} (hd : decode bytes pc = .ok (.ifnull o, 3))  (ho : 0 ≤ (pc : Int) + o) (hp : ((pc : Int) + o).toNat = pc') (g : Seg l Z a0 EL y bytes maxL ret rm Q h k n sf pc' L S) : Seg l Z a0 EL y bytes maxL ret rm Q h k n sf pc L (.null :: S) := by
  subst hp
  exact Seg.plain (fun p e m below c T t hx hc ha hr => XS.ifnullYes ha hx rfl rfl (hb hc hd) rfl ho rfl hr) g
theorem Seg.nullN {o : Int} {a : Addr} (hd : decode bytes pc = .ok (.ifnull o, 3))  (hp : pc + 3 = pc') (g : Seg l Z a0 EL y bytes maxL ret rm Q h k n sf pc' L S) : Seg l Z a0 EL y bytes maxL ret rm Q h k n sf pc L (.ref a :: S) := by
  subst hp
  exact Seg.plain (fun p e m below c T t hx hc ha hr => XS.ifnullNo ha hx rfl (hb hc hd) rfl hr) g
theorem Seg.nonnY {o : Int} {a : Addr} (hd : decode bytes pc = .ok (.ifnonnull o, 3))  (ho : 0 ≤ (pc : Int) + o) (hp : ((pc : Int) + o).toNat = pc') (g : Seg l Z a0 EL y bytes maxL ret rm Q h k n sf pc' L S) : Seg l Z a0 EL y bytes maxL ret rm Q h k n sf pc L (.ref a :: S) := by
  subst hp
  exact Seg.plain (fun p e m below c T t hx hc ha hr => XT.ifnonnullYes ha hx rfl rfl (hb hc hd) rfl ho rfl hr) g
theorem Seg.nonnN {o : Int} (hd : decode bytes pc = .ok (.ifnonnull o, 3))  (hp : pc + 3 = pc') (g : Seg l Z a0 EL y bytes maxL ret rm Q h k n sf pc' L S) : Seg l Z a0 EL y bytes maxL ret rm Q h k n sf pc L (.null :: S) := by
  subst hp
  exact Seg.plain (fun p e m below c T t hx hc ha hr => XT.ifnonnullNo ha hx rfl (hb hc hd) rfl hr) g
theorem Seg.acY {cd : ClassFile.ACond} {o : Int} {x z : Value} (hd : decode bytes pc = .ok (.if_acmp cd o, 3)) (hx' : x.isRef = true) (hz' : z.isRef = true) (hc' : XT.acmp cd x z = true) (ho : 0 ≤ (pc : Int) + o) (hp : ((pc : Int) + o).toNat = pc') (g : Seg l Z a0 EL y bytes maxL ret rm Q h k n sf pc' L S) : Seg l Z a0 EL y bytes maxL ret rm Q h k n sf pc L (z :: x :: S) := by
  subst hp
  exact Seg.plain (fun p e m below c T t hx hc ha hr => XT.acmpYes ha hx rfl rfl (hb hc hd) rfl hx' hz' hc' ho rfl hr) g
theorem Seg.acN {cd : ClassFile.ACond} {o : Int} {x z : Value} (hd : decode bytes pc = .ok (.if_acmp cd o, 3)) (hx' : x.isRef = true) (hz' : z.isRef = true) (hc' : XT.acmp cd x z = false) (hp : pc + 3 = pc') (g : Seg l Z a0 EL y bytes maxL ret rm Q h k n sf pc' L S) : Seg l Z a0 EL y bytes maxL ret rm Q h k n sf pc L (z :: x :: S) := by
  subst hp
  exact Seg.plain (fun p e m below c T t hx hc ha hr => XT.acmpNo ha hx rfl (hb hc hd) rfl hx' hz' hc' hr) g
end Plain
section Heap
variable {l : Launch} {Z : State} {a0 : Array Value} {EL : List (String × Nat)} {y : MethodName} {bytes : ByteArray} {maxL : Nat} {ret : Option FieldType} {rm : Room} {Q : Option Value → Heap → Prop} {h : Heap} {k n : Nat} {sf : List Addr} {pc pc' : Nat} {L : Array Slot} {S : List Value}
variable {p : Program} {e : Env} {R : Room} {s : State} {m : MethodId} {args : Array Value} {below : List Frame} {meth : Method} {c : Code} {T : State} {own : String}
theorem Seg.newO {C : String} {idx sz : Nat} (w : (Cond.classLink y.cls idx C).before a0 Z = true) (wi : (Cond.instantiable C sz).before a0 Z = true) (wz : (Cond.initialized C).before a0 Z = true) (hd : decode bytes pc = .ok (.new idx, 3)) (hp : pc + 3 = pc') {k' n' : Nat} (hk : k + 1 = k') (hn : n + sz = n') (hk2 : k' ≤ rm.cells) (hn2 : n' ≤ rm.slots)
    (g : ∀ (x : Addr) (h' : Heap), Ext h h' → h.size = x → x < h'.size → Exa Z h' x C → (∀ {O nm d : String} {ty : FieldType}, Laid Z a0 C O nm d → parseFieldDescriptor d = some ty → Fld Z h' x O nm d (defaultValue ty)) → Seg l Z a0 EL y bytes maxL ret rm Q h' k' n' (x :: sf) pc' L (.ref x :: S)) :
    Seg l Z a0 EL y bytes maxL ret rm Q h k n sf pc L S := by
  subst hp hk hn
  intro p e s m args below meth c T C' w'
  obtain ⟨vm0, locs, k0, X, r1, r2, r3, r4, r5, r6, r7, r8, r9, r10⟩ := w'
  obtain ⟨T', h', X', e', E, A, D, -, st⟩ := RoadKit.newO X C'.1 r4 r5 w wi wz r1 (g := mkF m pc L S) rfl (hb C'.2.1 hd) hk2 hn2
  refine Gl.st st (g _ h' E rfl A.lt A D p e s m args below meth c T' C' ⟨vm0, locs, k0, X', e', r2, Nat.le_trans r3 E.1, r4, r5, r6.trans (CHr.ext E r6.1), r7, ext_tr r8 E, r9, ?_⟩)
  exact (r10.chr (CHr.ext E r6.1)).cons r8.1 A.lt ((Safe.new (Nat.le_refl _)).ext E r6.1)
theorem Seg.newP {aty : ArrayType} {ty : FieldType} {dv : Value} {z : Int32} (hty : newarray.typeOf aty = ty) (hdv : defaultValue ty = dv) (w : (Cond.arrayClass ty).before a0 Z = true) (hd : decode bytes pc = .ok (.newarray aty, 2)) (hp : pc + 2 = pc') (hz : ¬ z < 0) {cap : Nat} (hcap : z.toNatClampNeg ≤ cap) (hb8 : cap * 8 ≤ 536870912) {k' n' : Nat} (hk : k + 1 = k') (hn : n + cap = n') (hk2 : k' ≤ rm.cells) (hn2 : n' ≤ rm.slots)
    (g : ∀ (x : Addr) (h' : Heap) (kc : ClassId), Ext h h' → h.size = x → x < h'.size → Arv Z h' x kc ty z [] dv → Seg l Z a0 EL y bytes maxL ret rm Q h' k' n' (x :: sf) pc' L (.ref x :: S)) :
    Seg l Z a0 EL y bytes maxL ret rm Q h k n sf pc L (.int z :: S) := by
  subst hp hk hn hty hdv
  intro p e s m args below meth c T C' w'
  obtain ⟨vm0, locs, k0, X, r1, r2, r3, r4, r5, r6, r7, r8, r9, r10⟩ := w'
  obtain ⟨T', h', cA, X', e', E, A, st⟩ := RoadKit.newP X C'.1 r4 w r1 (g := mkF m pc L (.int z :: S)) rfl (hb C'.2.1 hd) rfl hz hcap hb8 hk2 hn2
  have V := Arv.new A hz
  refine Gl.st st (g _ h' cA E rfl A.lt V p e s m args below meth c T' C' ⟨vm0, locs, k0, X', e', r2, Nat.le_trans r3 E.1, r4, r5, r6.trans (CHr.ext E r6.1), r7, ext_tr r8 E, r9, ?_⟩)
  exact (r10.chr (CHr.ext E r6.1)).cons r8.1 A.lt ((Safe.new (Nat.le_refl _)).ext E r6.1)
theorem Seg.getF {R0 O nm d host : String} {idx : Nat} {a : Addr} {v : Value} (w : (Cond.fieldLink y.cls idx R0 nm d).before a0 Z = true ∨ (Cond.fieldLinkNest y.cls idx R0 nm d host).before a0 Z = true) (via : Via Z R0 O nm d) (F : Fld Z h a O nm d v) (hd : decode bytes pc = .ok (.getfield idx, 3)) (hp : pc + 3 = pc')
    (g : Seg l Z a0 EL y bytes maxL ret rm Q h k n sf pc' L (v :: S)) : Seg l Z a0 EL y bytes maxL ret rm Q h k n sf pc L (.ref a :: S) := by
  subst hp
  intro p e s m args below meth c T C' w'
  obtain ⟨vm0, locs, k0, X, r1, r2, r3, r4, r5, r⟩ := w'
  obtain ⟨T', X', e', st⟩ := RoadKit.getF X C'.1 r4 r5 w via r1 F (g := mkF m pc L (.ref a :: S)) rfl rfl (hb C'.2.1 hd)
  exact Gl.st st (g p e s m args below meth c T' C' ⟨vm0, locs, k0, X', e', r2, r3, r4, r5, r⟩)
theorem Seg.getS {R0 O nm d : String} {idx : Nat} {v : Value} (w : (Cond.fieldLink y.cls idx R0 nm d).before a0 Z = true) (via : Via Z R0 O nm d) (F : Sta Z Z.heap O nm d v) (hd : decode bytes pc = .ok (.getstatic idx, 3)) (hp : pc + 3 = pc')
    (g : Seg l Z a0 EL y bytes maxL ret rm Q h k n sf pc' L (v :: S)) : Seg l Z a0 EL y bytes maxL ret rm Q h k n sf pc L S := by
  subst hp
  intro p e s m args below meth c T C' w'
  obtain ⟨vm0, locs, k0, X, r1, r2, r3, r4, r5, r6, r7, r8, r⟩ := w'
  obtain ⟨T', X', e', st⟩ := RoadKit.getS X C'.1 r4 (host := "") r5 w via r1 (F.ext r8) (g := mkF m pc L S) rfl (hb C'.2.1 hd)
  exact Gl.st st (g p e s m args below meth c T' C' ⟨vm0, locs, k0, X', e', r2, r3, r4, r5, r6, r7, r8, r⟩)
theorem Seg.castY {K : String} {idx : Nat} {a : Addr} (w : (Cond.classLink y.cls idx K).before a0 Z = true) (F : Ins Z h a K true) (hd : decode bytes pc = .ok (.checkcast idx, 3)) (hp : pc + 3 = pc')
    (g : Seg l Z a0 EL y bytes maxL ret rm Q h k n sf pc' L (.ref a :: S)) : Seg l Z a0 EL y bytes maxL ret rm Q h k n sf pc L (.ref a :: S) := by
  subst hp
  intro p e s m args below meth c T C' w'
  obtain ⟨vm0, locs, k0, X, r1, r2, r3, r4, r5, r⟩ := w'
  obtain ⟨T', X', e', st⟩ := RoadKit.castY X C'.1 r4 r5 w r1 F (g := mkF m pc L (.ref a :: S)) rfl rfl (hb C'.2.1 hd)
  exact Gl.st st (g p e s m args below meth c T' C' ⟨vm0, locs, k0, X', e', r2, r3, r4, r5, r⟩)
theorem Seg.castNull {idx : Nat} (hd : decode bytes pc = .ok (.checkcast idx, 3)) (hp : pc + 3 = pc')
    (g : Seg l Z a0 EL y bytes maxL ret rm Q h k n sf pc' L (.null :: S)) : Seg l Z a0 EL y bytes maxL ret rm Q h k n sf pc L (.null :: S) := by
  subst hp
  intro p e s m args below meth c T C' w'
  obtain ⟨vm0, locs, k0, X, r⟩ := w'
  exact Gl.st (X.checkcastNull C'.1 (g := mkF m pc L (.null :: S)) rfl rfl (hb C'.2.1 hd)) (g p e s m args below meth c T C' ⟨vm0, locs, k0, X, r⟩)
theorem Seg.instNull {idx : Nat} (hd : decode bytes pc = .ok (.instanceof idx, 3)) (hp : pc + 3 = pc')
    (g : Seg l Z a0 EL y bytes maxL ret rm Q h k n sf pc' L (.int 0 :: S)) : Seg l Z a0 EL y bytes maxL ret rm Q h k n sf pc L (.null :: S) := by
  subst hp
  intro p e s m args below meth c T C' w'
  obtain ⟨vm0, locs, k0, X, r⟩ := w'
  exact Gl.st (X.instanceofNull C'.1 (g := mkF m pc L (.null :: S)) rfl rfl (hb C'.2.1 hd)) (g p e s m args below meth c T C' ⟨vm0, locs, k0, X, r⟩)
theorem Seg.instY {K : String} {idx : Nat} {a : Addr} (w : (Cond.classLink y.cls idx K).before a0 Z = true) (F : Ins Z h a K true) (hd : decode bytes pc = .ok (.instanceof idx, 3)) (hp : pc + 3 = pc')
    (g : Seg l Z a0 EL y bytes maxL ret rm Q h k n sf pc' L (.int 1 :: S)) : Seg l Z a0 EL y bytes maxL ret rm Q h k n sf pc L (.ref a :: S) := by
  subst hp
  intro p e s m args below meth c T C' w'
  obtain ⟨vm0, locs, k0, X, r1, r2, r3, r4, r5, r⟩ := w'
  obtain ⟨T', X', e', st⟩ := RoadKit.instY X C'.1 r4 r5 w r1 F (g := mkF m pc L (.ref a :: S)) rfl rfl (hb C'.2.1 hd)
  exact Gl.st st (g p e s m args below meth c T' C' ⟨vm0, locs, k0, X', e', r2, r3, r4, r5, r⟩)
theorem Seg.instNo {K C : String} {idx : Nat} {a : Addr} (w : (Cond.classLink y.cls idx K).before a0 Z = true) (E : Exa Z h a C) (F : ∃ c t, Z.vm.findClass C = some c ∧ Z.vm.findClass K = some t ∧ Z.vm.assignable c t = false) (hd : decode bytes pc = .ok (.instanceof idx, 3)) (hp : pc + 3 = pc')
    (g : Seg l Z a0 EL y bytes maxL ret rm Q h k n sf pc' L (.int 0 :: S)) : Seg l Z a0 EL y bytes maxL ret rm Q h k n sf pc L (.ref a :: S) := by
  subst hp
  intro p e s m args below meth c T C' w'
  obtain ⟨vm0, locs, k0, X, r1, r2, r3, r4, r5, r⟩ := w'
  obtain ⟨T', X', e', st⟩ := RoadKit.instNo X C'.1 r4 r5 w r1 E F (g := mkF m pc L (.ref a :: S)) rfl rfl (hb C'.2.1 hd)
  exact Gl.st st (g p e s m args below meth c T' C' ⟨vm0, locs, k0, X', e', r2, r3, r4, r5, r⟩)
theorem Seg.initO {idx : Nat} {a : Addr} (w1 : (Cond.methodLink y.cls idx Lib.objectInit).before a0 Z = true) (w2 : (Cond.instanceMethod Lib.objectInit).before a0 Z = true) (w3 : (Cond.code Lib.objectInit ⟨#[0xb1]⟩ 1 none).before a0 Z = true) (hsz : L.size = maxL) (hd : decode bytes pc = .ok (.invokespecial idx, 3)) (hp : pc + 3 = pc') (hf : 1 ≤ rm.frames) {W : Nat} (hW : (S.map fun v => v.category).sum ≤ W) (hl : W + 12 ≤ rm.locals)
    (g : Seg l Z a0 EL y bytes maxL ret rm Q h k n sf pc' L S) : Seg l Z a0 EL y bytes maxL ret rm Q h k n sf pc L (.ref a :: S) := by
  subst hp
  intro p e s m args below meth c T C' w'
  obtain ⟨vm0, locs, k0, X, r1, r2, r3, r4, r5, r⟩ := w'
  obtain ⟨T', X', e', st⟩ := RoadKit.initO X C'.1 r4 r5 w1 w2 w3 r1 (g := mkF m pc L (.ref a :: S)) rfl (hsz.trans C'.2.2.1.symm) rfl (hb C'.2.1 hd) hf (W := W) (by show 2 * 0 + _ ≤ _; omega) hl
  exact Gl.st st (g p e s m args below meth c T' C' ⟨vm0, locs, k0, X', e', r2, r3, r4, r5, r⟩)
theorem wkWr {h' : Heap} {a : Addr} {sl : Nat} {v : Value} {T' : State} {vm0 : Vm} {locs : List Loc} {k0 : Nat} (W : Wr h h' a sl v) (hsf : a ∈ sf) (X' : Stand p l e R (s.setVm vm0) m args below meth c T' (locs ++ [⟨a, sl⟩]) k n) (e' : T'.heap = h')
    (r : s.Since vm0 k0 ∧ k0 ≤ h.size ∧ Z.Warmed39 vm0 ∧ vm0.findClass own = some m.cls ∧ CHr Z EL s.vm s.heap vm0 h ∧ Fr Z.heap.size locs ∧ Ext Z.heap h ∧ EW Z a0 EL ∧ SfOk Z EL vm0 h sf) : Wk p l e R s m args below meth c Z a0 EL own sf k n T' h' := by
  obtain ⟨r2, r3, r4, r5, r6, r7, r8, r9, r10⟩ := r
  obtain ⟨q1, q2, q3⟩ := r10 a hsf
  have A := CHr.wr W q3 r6.1
  exact ⟨vm0, _, k0, X', e', r2, Nat.le_trans r3 A.2.1, r4, r5, r6.trans A, Fr.snoc X' r7 q1, ext_wr r8 W q1, r9, r10.chr A⟩
theorem Seg.putF {R0 O nm d host C : String} {idx kk : Nat} {ty : FieldType} {a : Addr} {v v' old : Value} (w : (Cond.fieldLink y.cls idx R0 nm d).before a0 Z = true) (via : Via Z R0 O nm d) (F : Fld Z h a O nm d old) (E : Exa Z h a C) (Lw : (Cond.lays C O nm d).before a0 Z = true ∨ ((Cond.laysFinal C O nm d).before a0 Z = true ∧ y.cls = O ∧ y.name = "<init>")) (wi : (Cond.instantiable C kk).before a0 Z = true)
    (hty : parseFieldDescriptor d = some ty) (hnw : narrow ty v = v') (hf : fits ty v' = true) (hsf : a ∈ sf) (hd : decode bytes pc = .ok (.putfield idx, 3)) (hp : pc + 3 = pc')
    (g : ∀ h', Wr h h' a (RoadKit.slotOf Z O nm d) v' → Fld Z h' a O nm d v' → Seg l Z a0 EL y bytes maxL ret rm Q h' k n sf pc' L S) : Seg l Z a0 EL y bytes maxL ret rm Q h k n sf pc L (v :: .ref a :: S) := by
  subst hp
  intro p e s m args below meth c T C' w'
  obtain ⟨vm0, locs, k0, X, r1, r2, r3, r4, r5, r⟩ := w'
  obtain ⟨T', h', X', e', W, st⟩ := RoadKit.putFN X C'.1 r4 r5 w via r1 F E (Lw.imp id fun q => ⟨q.1, q.2.1, C'.2.2.2.2.2.trans q.2.2⟩) wi hty hnw hf (g := mkF m pc L (v :: .ref a :: S)) rfl rfl (hb C'.2.1 hd)
  exact Gl.st st (g h' W (F.same W) p e s m args below meth c T' C' (wkWr W hsf X' e' ⟨r2, r3, r4, r5, r⟩))
theorem Seg.castore {a : Addr} {kc : ClassId} {z j v v' : Int32} {vs : List Value} {dv : Value} {i : Nat} (F : Arv Z h a kc .char z vs dv) (hj : ¬ j < 0 ∧ j < z) (hi : j.toNatClampNeg = i) (hil : i < vs.length) (hv : nar .char v = v') (hsf : a ∈ sf) (hd : decode bytes pc = .ok (.castore, 1)) (hp : pc + 1 = pc')
    (g : ∀ h', Wr h h' a i (.int v') → Arv Z h' a kc .char z (vs.set i (.int v')) dv → Seg l Z a0 EL y bytes maxL ret rm Q h' k n sf pc' L S) : Seg l Z a0 EL y bytes maxL ret rm Q h k n sf pc L (.int v :: .int j :: .ref a :: S) := by
  subst hp hv hi
  intro p e s m args below meth c T C' w'
  obtain ⟨vm0, locs, k0, X, r1, r2, r3, r4, r5, r⟩ := w'
  obtain ⟨cl, A, q, Sz, N, H, G⟩ := F
  obtain ⟨T', h', X', e', W, st⟩ := RoadKit.stC X C'.1 r4 r1 A (inb_of Sz hj) (g := mkF m pc L (.int v :: .int j :: .ref a :: S)) rfl rfl (hb C'.2.1 hd)
  exact Gl.st st (g h' W (Arv.set A q Sz N H G (fits_nar_char _) W _ rfl hil) p e s m args below meth c T' C' (wkWr W hsf X' e' ⟨r2, r3, r4, r5, r⟩))
theorem Seg.bastore {a : Addr} {kc : ClassId} {z j v v' : Int32} {vs : List Value} {dv : Value} {i : Nat} (F : Arv Z h a kc .byte z vs dv) (hj : ¬ j < 0 ∧ j < z) (hi : j.toNatClampNeg = i) (hil : i < vs.length) (hv : nar .byte v = v') (hsf : a ∈ sf) (hd : decode bytes pc = .ok (.bastore, 1)) (hp : pc + 1 = pc')
    (g : ∀ h', Wr h h' a i (.int v') → Arv Z h' a kc .byte z (vs.set i (.int v')) dv → Seg l Z a0 EL y bytes maxL ret rm Q h' k n sf pc' L S) : Seg l Z a0 EL y bytes maxL ret rm Q h k n sf pc L (.int v :: .int j :: .ref a :: S) := by
  subst hp hv hi
  intro p e s m args below meth c T C' w'
  obtain ⟨vm0, locs, k0, X, r1, r2, r3, r4, r5, r⟩ := w'
  obtain ⟨cl, A, q, Sz, N, H, G⟩ := F
  obtain ⟨T', h', X', e', W, st⟩ := RoadKit.stB X C'.1 r4 r1 A (inb_of Sz hj) (g := mkF m pc L (.int v :: .int j :: .ref a :: S)) rfl rfl (hb C'.2.1 hd)
  exact Gl.st st (g h' W (Arv.set A q Sz N H G (fits_nar_byte _) W _ rfl hil) p e s m args below meth c T' C' (wkWr W hsf X' e' ⟨r2, r3, r4, r5, r⟩))
theorem Seg.iastore {a : Addr} {kc : ClassId} {z j v : Int32} {vs : List Value} {dv : Value} {i : Nat} (F : Arv Z h a kc .int z vs dv) (hj : ¬ j < 0 ∧ j < z) (hi : j.toNatClampNeg = i) (hil : i < vs.length) (hsf : a ∈ sf) (hd : decode bytes pc = .ok (.iastore, 1)) (hp : pc + 1 = pc')
    (g : ∀ h', Wr h h' a i (.int v) → Arv Z h' a kc .int z (vs.set i (.int v)) dv → Seg l Z a0 EL y bytes maxL ret rm Q h' k n sf pc' L S) : Seg l Z a0 EL y bytes maxL ret rm Q h k n sf pc L (.int v :: .int j :: .ref a :: S) := by
  subst hp hi
  intro p e s m args below meth c T C' w'
  obtain ⟨vm0, locs, k0, X, r1, r2, r3, r4, r5, r⟩ := w'
  obtain ⟨cl, A, q, Sz, N, H, G⟩ := F
  obtain ⟨T', h', X', e', W, st⟩ := RoadKit.stI X C'.1 r4 r1 A (inb_of Sz hj) (g := mkF m pc L (.int v :: .int j :: .ref a :: S)) rfl rfl (hb C'.2.1 hd)
  exact Gl.st st (g h' W (Arv.set A q Sz N H G rfl W _ rfl hil) p e s m args below meth c T' C' (wkWr W hsf X' e' ⟨r2, r3, r4, r5, r⟩))
theorem Seg.caload {a : Addr} {kc : ClassId} {z j : Int32} {vs : List Value} {dv v : Value} (F : Arv Z h a kc .char z vs dv) (hj : ¬ j < 0 ∧ j < z) (hv : vs.getD j.toNatClampNeg dv = v) (hd : decode bytes pc = .ok (.caload, 1)) (hp : pc + 1 = pc')
    (g : Seg l Z a0 EL y bytes maxL ret rm Q h k n sf pc' L (v :: S)) : Seg l Z a0 EL y bytes maxL ret rm Q h k n sf pc L (.int j :: .ref a :: S) := by
  subst hp
  intro p e s m args below meth c T C' w'
  obtain ⟨vm0, locs, k0, X, r1, r2, r3, r4, r⟩ := w'
  obtain ⟨cl, A, q, Sz, N, H, G⟩ := F
  exact Gl.st (X.caload C'.1 (by rw [r1]; exact A.1) (State.isArrayOf_alike r4.alike A.2.1) A.2.2 (inb_of Sz hj) (H.at (inb_of Sz hj) hv) (g := mkF m pc L (.int j :: .ref a :: S)) rfl rfl (hb C'.2.1 hd)) (g p e s m args below meth c T C' ⟨vm0, locs, k0, X, r1, r2, r3, r4, r⟩)
theorem Seg.baload {a : Addr} {kc : ClassId} {z j : Int32} {vs : List Value} {dv v : Value} (F : Arv Z h a kc .byte z vs dv) (hj : ¬ j < 0 ∧ j < z) (hv : vs.getD j.toNatClampNeg dv = v) (hd : decode bytes pc = .ok (.baload, 1)) (hp : pc + 1 = pc')
    (g : Seg l Z a0 EL y bytes maxL ret rm Q h k n sf pc' L (v :: S)) : Seg l Z a0 EL y bytes maxL ret rm Q h k n sf pc L (.int j :: .ref a :: S) := by
  subst hp
  intro p e s m args below meth c T C' w'
  obtain ⟨vm0, locs, k0, X, r1, r2, r3, r4, r⟩ := w'
  obtain ⟨cl, A, q, Sz, N, H, G⟩ := F
  exact Gl.st (X.baloadBytes C'.1 (by rw [r1]; exact A.1) (State.isArrayOf_alike r4.alike A.2.1) A.2.2 (inb_of Sz hj) (H.at (inb_of Sz hj) hv) (g := mkF m pc L (.int j :: .ref a :: S)) rfl rfl (hb C'.2.1 hd)) (g p e s m args below meth c T C' ⟨vm0, locs, k0, X, r1, r2, r3, r4, r⟩)
theorem Seg.iaload {a : Addr} {kc : ClassId} {z j : Int32} {vs : List Value} {dv v : Value} (F : Arv Z h a kc .int z vs dv) (hj : ¬ j < 0 ∧ j < z) (hv : vs.getD j.toNatClampNeg dv = v) (hd : decode bytes pc = .ok (.iaload, 1)) (hp : pc + 1 = pc')
    (g : Seg l Z a0 EL y bytes maxL ret rm Q h k n sf pc' L (v :: S)) : Seg l Z a0 EL y bytes maxL ret rm Q h k n sf pc L (.int j :: .ref a :: S) := by
  subst hp
  intro p e s m args below meth c T C' w'
  obtain ⟨vm0, locs, k0, X, r1, r2, r3, r4, r⟩ := w'
  obtain ⟨cl, A, q, Sz, N, H, G⟩ := F
  exact Gl.st (X.iaload C'.1 (by rw [r1]; exact A.1) (State.isArrayOf_alike r4.alike A.2.1) A.2.2 (inb_of Sz hj) (H.at (inb_of Sz hj) hv) (g := mkF m pc L (.int j :: .ref a :: S)) rfl rfl (hb C'.2.1 hd)) (g p e s m args below meth c T C' ⟨vm0, locs, k0, X, r1, r2, r3, r4, r⟩)
theorem Seg.aaload {a : Addr} {kc : ClassId} {z j : Int32} {ty : FieldType} {vs : List Value} {dv v : Value} (hty : ty.isReference = true) (F : Arv Z h a kc ty z vs dv) (hj : ¬ j < 0 ∧ j < z) (hv : vs.getD j.toNatClampNeg dv = v) (hd : decode bytes pc = .ok (.aaload, 1)) (hp : pc + 1 = pc')
    (g : Seg l Z a0 EL y bytes maxL ret rm Q h k n sf pc' L (v :: S)) : Seg l Z a0 EL y bytes maxL ret rm Q h k n sf pc L (.int j :: .ref a :: S) := by
  subst hp
  intro p e s m args below meth c T C' w'
  obtain ⟨vm0, locs, k0, X, r1, r2, r3, r4, r⟩ := w'
  obtain ⟨cl, A, q, Sz, N, H, G⟩ := F
  exact Gl.st (X.aaload C'.1 (by rw [r1]; exact A.1) (State.isArrayOf_alike r4.alike A.2.1) hty A.2.2 (inb_of Sz hj) (H.at (inb_of Sz hj) hv) (g := mkF m pc L (.int j :: .ref a :: S)) rfl rfl (hb C'.2.1 hd)) (g p e s m args below meth c T C' ⟨vm0, locs, k0, X, r1, r2, r3, r4, r⟩)
theorem Seg.alen {a : Addr} {kc : ClassId} {z : Int32} {ty : FieldType} {vs : List Value} {dv : Value} (F : Arv Z h a kc ty z vs dv) (hd : decode bytes pc = .ok (.arraylength, 1)) (hp : pc + 1 = pc')
    (g : Seg l Z a0 EL y bytes maxL ret rm Q h k n sf pc' L (.int z :: S)) : Seg l Z a0 EL y bytes maxL ret rm Q h k n sf pc L (.ref a :: S) := by
  subst hp
  intro p e s m args below meth c T C' w'
  obtain ⟨vm0, locs, k0, X, r1, r2, r3, r4, r⟩ := w'
  obtain ⟨cl, A, q, Sz, N, H, G⟩ := F
  refine Gl.st (fun t hr => X.arraylength C'.1 (by rw [r1]; exact A.1) (State.isArrayOf_alike r4.alike A.2.1) (g := mkF m pc L (.ref a :: S)) rfl rfl (hb C'.2.1 hd) t ?_) (g p e s m args below meth c T C' ⟨vm0, locs, k0, X, r1, r2, r3, r4, r⟩)
  rw [len_of Sz N]; exact hr
theorem Seg.ldcI {idx : Nat} {v : Int32} (w : (Cond.constant y.cls idx v).before a0 Z = true) (hd : decode bytes pc = .ok (.ldc idx, 2)) (hp : pc + 2 = pc')
    (g : Seg l Z a0 EL y bytes maxL ret rm Q h k n sf pc' L (.int v :: S)) : Seg l Z a0 EL y bytes maxL ret rm Q h k n sf pc L S := by
  subst hp
  intro p e s m args below meth c T C' w'
  obtain ⟨vm0, locs, k0, X, r1, r2, r3, r4, r5, r⟩ := w'
  exact Gl.st (fun t hr => X.ldcI C'.1 r5 (mv r4 w) (g := mkF m pc L S) rfl (hb C'.2.1 hd) hr) (g p e s m args below meth c T C' ⟨vm0, locs, k0, X, r1, r2, r3, r4, r5, r⟩)
theorem Seg.ldcWI {idx : Nat} {v : Int32} (w : (Cond.constant y.cls idx v).before a0 Z = true) (hd : decode bytes pc = .ok (.ldc_w idx, 3)) (hp : pc + 3 = pc')
    (g : Seg l Z a0 EL y bytes maxL ret rm Q h k n sf pc' L (.int v :: S)) : Seg l Z a0 EL y bytes maxL ret rm Q h k n sf pc L S := by
  subst hp
  intro p e s m args below meth c T C' w'
  obtain ⟨vm0, locs, k0, X, r1, r2, r3, r4, r5, r⟩ := w'
  exact Gl.st (fun t hr => X.ldcWI C'.1 r5 (mv r4 w) (g := mkF m pc L S) rfl (hb C'.2.1 hd) hr) (g p e s m args below meth c T C' ⟨vm0, locs, k0, X, r1, r2, r3, r4, r5, r⟩)
theorem Seg.ldc2J {idx : Nat} {v : Int64} (w : (Cond.constantLong y.cls idx v).before a0 Z = true) (hd : decode bytes pc = .ok (.ldc2_w idx, 3)) (hp : pc + 3 = pc')
    (g : Seg l Z a0 EL y bytes maxL ret rm Q h k n sf pc' L (.long v :: S)) : Seg l Z a0 EL y bytes maxL ret rm Q h k n sf pc L S := by
  subst hp
  intro p e s m args below meth c T C' w'
  obtain ⟨vm0, locs, k0, X, r1, r2, r3, r4, r5, r⟩ := w'
  exact Gl.st (fun t hr => X.ldc2J C'.1 r5 (mv r4 w) (g := mkF m pc L S) rfl (hb C'.2.1 hd) hr) (g p e s m args below meth c T C' ⟨vm0, locs, k0, X, r1, r2, r3, r4, r5, r⟩)
/-- ldc of a String constant whose text the sheet assumes held -/
theorem Seg.ldcS {idx nn : Nat} {text : String} {vs : List Value} {z : Int32} (w : (Cond.stringLink y.cls idx text).before a0 Z = true) (wS : ∀ a ∈ Bundle.stringAtoms, a.before a0 Z = true) (hmem : (y.cls, idx) ∈ EL)
    (ht : (∀ c ∈ text.toList, c.toNat < 256) ∧ text.toList.map (fun c => Value.int (Jvm.Lit.byteI c.toNat.toUInt16)) = vs) (hz : ¬ z < 0) (hl : z.toNatClampNeg = vs.length)
    (hd : decode bytes pc = .ok (.ldc idx, 2)) (hp : pc + 2 = pc') (hnn : 4 * text.toList.length ≤ nn) (hbig : nn ≤ 536870912) {k' n' : Nat} (hk : k + 2 = k') (hn : n + (nn + 4) = n') (hk2 : k' ≤ rm.cells) (hn2 : n' ≤ rm.slots)
    (g : ∀ (a : Addr) (h' : Heap) (b : Addr) (kb : ClassId), Ext h h' → Exa Z h' a "java/lang/String" → Fld Z h' a "java/lang/String" "coder" "B" (.int 0) → Fld Z h' a "java/lang/String" "value" "[B" (.ref b) → Arv Z h' b kb .byte z vs (.int 0) → (∀ x ∈ sf, x ≠ a ∧ x ≠ b) → Seg l Z a0 EL y bytes maxL ret rm Q h' k' n' sf pc' L (.ref a :: S)) :
    Seg l Z a0 EL y bytes maxL ret rm Q h k n sf pc L S := by
  subst hp hk hn
  intro p e s m args below meth c T C' w'
  obtain ⟨vm0, locs, k0, X, r1, r2, r3, r4, r5, r6, r7, r8, r9, r10⟩ := w'
  obtain ⟨a, T', h', k1, b, kb, X', e', E, q1, q2, q3, q4, f1, f2, f3, f4, -, -, f5, -, f6, st⟩ := RoadKit.ldcCH X C'.1 r4 r5 w wS r1 r2 r3 r9 hmem r6.1 ht hz hl (g := mkF m pc L S) rfl (hb C'.2.1 hd) hnn hbig hk2 hn2
  have r10' := r10.chr f5
  exact Gl.st st (g a h' b kb E f1 f2 f3 f4 (fun x hx => f6 x (r10' x hx).2.2) p e s m args below meth c T' C' ⟨T'.vm, locs, k1, X', e', q1, q2, q3, q4, r6.trans f5, r7, ext_tr r8 E, r9, r10'⟩)
/-- ldc of a String constant, its text unread -/
theorem Seg.ldcO {idx nn : Nat} {text : String} (w : (Cond.stringLink y.cls idx text).before a0 Z = true) (wS : ∀ a ∈ Bundle.stringAtoms, a.before a0 Z = true)
    (hd : decode bytes pc = .ok (.ldc idx, 2)) (hp : pc + 2 = pc') (hnn : 4 * text.toList.length ≤ nn) (hbig : nn ≤ 536870912) {k' n' : Nat} (hk : k + 2 = k') (hn : n + (nn + 4) = n') (hk2 : k' ≤ rm.cells) (hn2 : n' ≤ rm.slots)
    (g : ∀ (a : Addr) (h' : Heap), Ext h h' → Seg l Z a0 EL y bytes maxL ret rm Q h' k' n' sf pc' L (.ref a :: S)) :
    Seg l Z a0 EL y bytes maxL ret rm Q h k n sf pc L S := by
  subst hp hk hn
  intro p e s m args below meth c T C' w'
  obtain ⟨vm0, locs, k0, X, r1, r2, r3, r4, r5, r6, r7, r8, r9, r10⟩ := w'
  obtain ⟨a, T', h', k1, X', e', E, q1, q2, q3, q4, f5, -, st⟩ := RoadKit.ldcOH X C'.1 r4 r5 w wS r1 r2 r3 r9 r6.1 (g := mkF m pc L S) rfl (hb C'.2.1 hd) hnn hbig hk2 hn2
  exact Gl.st st (g a h' E p e s m args below meth c T' C' ⟨T'.vm, locs, k1, X', e', q1, q2, q3, q4, r6.trans f5, r7, ext_tr r8 E, r9, r10.chr f5⟩)
end Heap
section Calls
variable {l : Launch} {Z : State} {a0 : Array Value} {EL : List (String × Nat)} {y : MethodName} {bytes : ByteArray} {maxL : Nat} {ret : Option FieldType} {rm : Room} {Q : Option Value → Heap → Prop} {h : Heap} {k n : Nat} {sf : List Addr} {pc pc' : Nat} {L : Array Slot} {S : List Value}
/-- WHO PAYS a call of y with the arguments as' at the heap h -/
def Pays (l : Launch) (R : Room) (Z : State) (a0 : Array Value) (EL : List (String × Nat)) (sf : List Addr) (y : MethodName) (len W : Nat) (as' : Array Value) (h : Heap) (rc rs : Nat) (Q : Option Value → Heap → Prop) : Prop :=
  ∀ (p : Program) (e : Env) (below : List Frame) (s : State) (args : Array Value) (vm0 : Vm), Z.Warmed39 vm0 → CHv Z EL vm0 h → SfOk Z EL vm0 h sf → Ext Z.heap h → EW Z a0 EL →
    BackS l R p e below (s.setVm vm0) args y len W (fun A a => a = as' ∧ A.U.heap = h ∧ A.cells + rc ≤ R.cells ∧ A.slots + rs ≤ R.slots)
      (fun A _ v B => ∃ L, (Fr Z.heap.size L ∧ Ext Z.heap B.U.heap ∧ Q v B.U.heap) ∧ B.locs = A.locs ++ L ∧ B.cells = A.cells + rc ∧ B.slots = A.slots + rs ∧ CHr Z EL vm0 h B.U.vm B.U.heap)
theorem Pays.of_ct {R : Room} {as' : Array Value} {rc rs len W : Nat} {sf' : List Addr} (hM : Ct l Z EL sf' [] y bytes maxL ret rm as' h Q) (hsf : ∀ x ∈ sf', x ∈ sf) (wc : (Jvm.Cond.code y bytes maxL ret).before a0 Z = true) (wz : (Jvm.Cond.initialized y.cls).before a0 Z = true) (hf : rm.frames + 1 ≤ R.frames) (hl : W + (maxL + 11) + rm.locals ≤ R.locals) (hrc : rm.cells = rc) (hrs : rm.slots = rs) :
    Pays l R Z a0 EL sf y len W as' h rc rs Q := by
  subst hrc hrs
  intro p e below s args vm0 hZ H hS hE hEL
  refine BackS.of_freeW (bytes := bytes) (maxL := maxL) (ret := ret) (E := fun _ first o t L k n => k = rm.cells ∧ n = rm.slots ∧ (∃ v, o = .returned v ∧ (Fr Z.heap.size L ∧ Ext Z.heap t.heap ∧ Q v t.heap)) ∧ CHr Z EL first.vm first.heap t.vm t.heap) hM hf hl
    (fun m meth c A a Y hp => have hU : Z.Warmed39 A.U.vm := wtrans (s := s.setVm vm0) hZ Y.warmed
      ⟨by show (Cond.and _ .tt).before a A.U = true; rw [Cond.before_and, mv hU wc]; rfl, mv hU wc, mv hU wz, hp.2.2.1, hp.2.2.2⟩)
    (fun m meth c A a g mk Y hp => have q := CHv.at Y hZ hEL H; ⟨hp.1, wtrans (s := s.setVm vm0) hZ Y.warmed, hp.2.1, q.1, (hS.sub hsf).chr q, hE⟩) (fun _ _ _ _ _ _ _ _ _ => trivial)
    (fun _ _ _ _ ⟨v, L, h1, h2, h3, h4⟩ => ⟨L, _, _, h4, rfl, rfl, ⟨v, h1, h2⟩, h3⟩)
    (fun m meth c A a g mk v t L k n Y hp _ _ ⟨e1, e2, ⟨v', e3, e4⟩, e5⟩ => ?_)
  cases e3; subst e1 e2
  refine ⟨L, e4, rfl, rfl, rfl, (CHv.at Y hZ hEL H).trans ?_⟩
  rw [← hp.2.1]; exact e5
theorem Pays.of_back {R : Room} {as' : Array Value} {rc rs len W : Nat} {ws : List Addr} {QL : Option Value → Heap → List Loc → Prop}
    (hK : ∀ (p : Program) (e : Env) (below : List Frame) (s : State) (args : Array Value), Z.Warmed39 s.vm → Ext Z.heap h → (∀ x ∈ sf, Z.heap.size ≤ x) → Back l R p e below s args y len W (fun A a => a = as' ∧ A.U.heap = h ∧ A.cells + rc ≤ R.cells ∧ A.slots + rs ≤ R.slots) (fun A _ v B => ∃ L, QL v B.U.heap L ∧ B.locs = A.locs ++ L ∧ B.cells = A.cells + rc ∧ B.slots = A.slots + rs))
    (hws : ∀ x ∈ ws, x ∈ sf) (hQ : ∀ v h' L, Ext Z.heap h → QL v h' L → Fr Z.heap.size L ∧ Keep h h' ws ∧ Q v h') :
    Pays l R Z a0 EL sf y len W as' h rc rs Q := by
  intro p e below s args vm0 hZ H hS hE hEL m meth c A g ig mk a X hg hsize hdg hW hn hp
  obtain ⟨v, B, X', ⟨L, q, hl, hc, hs⟩, hsteps⟩ := hK p e below (s.setVm vm0) args hZ hE (fun x hx => (hS x hx).1) m meth c A g ig mk a X hg hsize hdg hW hn hp
  obtain ⟨q1, q2, q3⟩ := hQ _ _ _ hE q
  have A1 := CHr.keep q2 (hS.safes hws) H
  have A2 := CHv.at X' hZ hEL A1.1
  refine ⟨v, B, X'.retabled X'.warmed.wide, X'.warmed.since _, by rw [hp.2.1]; exact q2.1, ⟨L, ⟨q1, ext_kp hE q2 (fun x hx => (hS x (hws x hx)).1), q3⟩, hl, hc, hs, A1.trans A2⟩, hsteps⟩
theorem Pays.post {R : Room} {as' : Array Value} {rc rs len W : Nat} {Q' : Option Value → Heap → Prop} (hP : Pays l R Z a0 EL sf y len W as' h rc rs Q) (q : ∀ v h', Q v h' → Q' v h') : Pays l R Z a0 EL sf y len W as' h rc rs Q' := by
  intro p e below s args vm0 hZ H hS hE hEL m meth c A g ig mk a X hg hsize hdg hW hn hp
  obtain ⟨v, B, X', hS', hgr, ⟨L, ⟨q1, q2, q3⟩, hl, hc, hs, hr⟩, hsteps⟩ := hP p e below s args vm0 hZ H hS hE hEL m meth c A g ig mk a X hg hsize hdg hW hn hp
  exact ⟨v, B, X', hS', hgr, ⟨L, ⟨q1, q2, q _ _ q3⟩, hl, hc, hs, hr⟩, hsteps⟩
section Use
variable {y' : MethodName} {as' : Array Value} {rc rs W : Nat} {Q' : Option Value → Heap → Prop} {idx : Nat} {argsL rest : List Value} {k' n' : Nat}
theorem wkBack {p : Program} {e : Env} {R : Room} {s : State} {m : MethodId} {args : Array Value} {below : List Frame} {meth : Method} {c : Code} {own : String} {vm0 : Vm} {locs L0 : List Loc} {k0 : Nat} {B : Pt}
    (r : s.Since vm0 k0 ∧ k0 ≤ h.size ∧ Z.Warmed39 vm0 ∧ vm0.findClass own = some m.cls ∧ CHr Z EL s.vm s.heap vm0 h ∧ Fr Z.heap.size locs ∧ Ext Z.heap h ∧ EW Z a0 EL ∧ SfOk Z EL vm0 h sf)
    (X' : Stand p l e R ((s.setVm vm0).setVm B.U.vm) m args below meth c B.U B.locs B.cells B.slots) (hS : (s.setVm vm0).Since B.U.vm B.U.heap.size) (hg : h.size ≤ B.U.heap.size) (q1 : Fr Z.heap.size L0 ∧ Ext Z.heap B.U.heap) (hl : B.locs = locs ++ L0) (hc : B.cells = k') (hs : B.slots = n') (q : CHr Z EL vm0 h B.U.vm B.U.heap) :
    Wk p l e R s m args below meth c Z a0 EL own sf k' n' B.U B.U.heap := by
  obtain ⟨r2, r3, r4, r5, r6, r7, r8, r9, r10⟩ := r
  obtain ⟨X1, S1, Z1, o1⟩ := rebS r2 r3 X' hS hg r4 r5
  rw [hl, hc, hs] at X1
  exact ⟨B.U.vm, _, _, X1, rfl, S1, Nat.le_refl _, Z1, o1, r6.trans q, r7.app q1.1, q1.2, r9, r10.chr q⟩
theorem Seg.callS {bytes' : ByteArray} {maxL' : Nat} {ret' : Option FieldType} (w1 : (Cond.methodLink y.cls idx y').before a0 Z = true) (w2 : (Cond.static y').before a0 Z = true) (w3 : (Cond.initialized y'.cls).before a0 Z = true) (w4 : (Cond.code y' bytes' maxL' ret').before a0 Z = true) (hy : y'.cls ≠ "java/lang/invoke/MethodHandle" ∧ y'.cls ≠ "java/lang/invoke/VarHandle")
    (hP : Pays l rm Z a0 EL sf y' 3 W as' h rc rs Q') (has : argsL.toArray = as') (hlen : ∀ sig, parseMethodDescriptor y'.desc = some sig → argsL.length = sig.parameters.length) (hst : S = argsL.reverse ++ rest) (hW : (rest.map fun v => v.category).sum ≤ W) (hsz : L.size = maxL) (hd : decode bytes pc = .ok (.invokestatic idx, 3)) (hp : pc + 3 = pc')
    (hk : k + rc = k') (hn : n + rs = n') (hk2 : k' ≤ rm.cells) (hn2 : n' ≤ rm.slots)
    (g : ∀ (v : Option Value) (h' : Heap), h.size ≤ h'.size → Q' v h' → Seg l Z a0 EL y bytes maxL ret rm Q h' k' n' sf pc' L (v.toList ++ rest)) : Seg l Z a0 EL y bytes maxL ret rm Q h k n sf pc L S := by
  subst hp hk hn hst has
  intro p e s m args below meth c T C' w'
  obtain ⟨vm0, locs, k0, X, r1, r2, r3, r4, r5, r6, r7, r8, r9, r10⟩ := w'
  obtain ⟨v, vm1, B, -, X', hS, hg, ⟨L0, ⟨q1, q2, q3⟩, hl, hc, hs, q4⟩, st⟩ := callSS X C'.1 r5 (mvT r4 w1) (mvT r4 w2) (mvT r4 w3) (mvT r4 w4) hy (hP p e below s args vm0 r4 r6.1 r10 r8 r9) (g := mkF m pc L (argsL.reverse ++ rest)) rfl (hsz.trans C'.2.2.1.symm) (argsL := argsL) (rest := rest) hlen rfl (by show 2 * 0 + _ ≤ _; omega) (hb C'.2.1 hd) (fun _ _ => ⟨rfl, r1, hk2, hn2⟩)
  rw [r1] at hg
  exact Gl.st (fun t hr => st.trans hr) (g v B.U.heap hg q3 p e s m args below meth c B.U C' (wkBack ⟨r2, r3, r4, r5, r6, r7, r8, r9, r10⟩ X' hS hg ⟨q1, q2⟩ hl hc hs q4))
theorem Seg.callN {bytes' : ByteArray} {maxL' : Nat} {a : Addr} (hy1 : y'.name = "<init>") (w1 : (Cond.methodLink y.cls idx y').before a0 Z = true) (w2 : (Cond.instanceMethod y').before a0 Z = true) (w4 : (Cond.code y' bytes' maxL' none).before a0 Z = true) (hy : y'.cls ≠ "java/lang/invoke/MethodHandle" ∧ y'.cls ≠ "java/lang/invoke/VarHandle")
    (hP : Pays l rm Z a0 EL sf y' 3 W as' h rc rs Q') (has : (.ref a :: argsL).toArray = as') (hlen : ∀ sig, parseMethodDescriptor y'.desc = some sig → argsL.length = sig.parameters.length) (hst : S = argsL.reverse ++ .ref a :: rest) (hW : (rest.map fun v => v.category).sum ≤ W) (hsz : L.size = maxL) (hd : decode bytes pc = .ok (.invokespecial idx, 3)) (hp : pc + 3 = pc')
    (hk : k + rc = k') (hn : n + rs = n') (hk2 : k' ≤ rm.cells) (hn2 : n' ≤ rm.slots)
    (g : ∀ (v : Option Value) (h' : Heap), h.size ≤ h'.size → Q' v h' → Seg l Z a0 EL y bytes maxL ret rm Q h' k' n' sf pc' L (v.toList ++ rest)) : Seg l Z a0 EL y bytes maxL ret rm Q h k n sf pc L S := by
  subst hp hk hn hst has
  intro p e s m args below meth c T C' w'
  obtain ⟨vm0, locs, k0, X, r1, r2, r3, r4, r5, r6, r7, r8, r9, r10⟩ := w'
  obtain ⟨v, vm1, B, -, X', hS, hg, ⟨L0, ⟨q1, q2, q3⟩, hl, hc, hs, q4⟩, st⟩ := X.specialBackS C'.1 hy1 r5 (mvT r4 w1) (mvT r4 w2) (mvT r4 w4) hy (hP p e below s args vm0 r4 r6.1 r10 r8 r9) (g := mkF m pc L (argsL.reverse ++ .ref a :: rest)) rfl (hsz.trans C'.2.2.1.symm) (Steps.refl _) (a := a) (argsL := argsL) (rest := rest) hlen rfl (by show 2 * 0 + _ ≤ _; omega) (hb C'.2.1 hd) (fun _ _ => ⟨rfl, r1, hk2, hn2⟩)
  rw [r1] at hg
  exact Gl.st (fun t hr => st.trans hr) (g v B.U.heap hg q3 p e s m args below meth c B.U C' (wkBack ⟨r2, r3, r4, r5, r6, r7, r8, r9, r10⟩ X' hS hg ⟨q1, q2⟩ hl hc hs q4))
theorem Seg.callV {z : MethodName} {C : String} {a : Addr} (w1 : (Cond.methodLink y.cls idx y').before a0 Z = true) (w2 : (Cond.declares y').before a0 Z = true) (hnf : ∀ (s : State) (vm0 : Vm), Z.Warmed39 vm0 → Free.NotFace (s.setVm vm0) y') (w3 : (Cond.selects C y' z).before a0 Z = true) (w4 : (Cond.instanceMethod z).before a0 Z = true) (hy : y'.cls ≠ "java/lang/invoke/MethodHandle" ∧ y'.cls ≠ "java/lang/invoke/VarHandle") (E : Exa Z h a C)
    (hP : Pays l rm Z a0 EL sf z 3 W as' h rc rs Q') (has : (.ref a :: argsL).toArray = as') (hlen : ∀ sig, parseMethodDescriptor y'.desc = some sig → argsL.length = sig.parameters.length) (hst : S = argsL.reverse ++ .ref a :: rest) (hW : (rest.map fun v => v.category).sum ≤ W) (hsz : L.size = maxL) (hd : decode bytes pc = .ok (.invokevirtual idx, 3)) (hp : pc + 3 = pc')
    (hk : k + rc = k') (hn : n + rs = n') (hk2 : k' ≤ rm.cells) (hn2 : n' ≤ rm.slots)
    (g : ∀ (v : Option Value) (h' : Heap), h.size ≤ h'.size → Q' v h' → Seg l Z a0 EL y bytes maxL ret rm Q h' k' n' sf pc' L (v.toList ++ rest)) : Seg l Z a0 EL y bytes maxL ret rm Q h k n sf pc L S := by
  subst hp hk hn hst has
  intro p e s m args below meth c T C' w'
  obtain ⟨vm0, locs, k0, X, r1, r2, r3, r4, r5, r6, r7, r8, r9, r10⟩ := w'
  obtain ⟨cq, kq, qa, qb, qc⟩ := isOf (s := s.setVm vm0) r4 r1 E
  obtain ⟨v, vm1, B, -, X', hS, hg, ⟨L0, ⟨q1, q2, q3⟩, hl, hc, hs, q4⟩, st⟩ := X.virtualBackS C'.1 r5 (mvT r4 w1) (mvT r4 w2) (hnf s vm0 r4) (mvT r4 w3) (mvT r4 w4) hy (hP p e below s args vm0 r4 r6.1 r10 r8 r9) qa qc (g := mkF m pc L (argsL.reverse ++ .ref a :: rest)) rfl (hsz.trans C'.2.2.1.symm) (Steps.refl _) (argsL := argsL) (rest := rest) hlen rfl (by show 2 * 0 + _ ≤ _; omega) (hb C'.2.1 hd) (fun _ _ => ⟨rfl, r1, hk2, hn2⟩)
  rw [r1] at hg
  exact Gl.st (fun t hr => st.trans hr) (g v B.U.heap hg q3 p e s m args below meth c B.U C' (wkBack ⟨r2, r3, r4, r5, r6, r7, r8, r9, r10⟩ X' hS hg ⟨q1, q2⟩ hl hc hs q4))
theorem Seg.callI {z : MethodName} {C : String} {a : Addr} {count : Nat} (w1 : (Cond.methodLink y.cls idx y').before a0 Z = true) (w2 : (Cond.declares y').before a0 Z = true) (w5 : (Cond.interfaceMethod y'.cls y'.cls y'.name y'.desc).before a0 Z = true) (hw5 : ((Cond.interfaceMethod y'.cls y'.cls y'.name y'.desc).onTables && (Cond.interfaceMethod y'.cls y'.cls y'.name y'.desc).keepsFace) = true) (w3 : (Cond.selects C y' z).before a0 Z = true) (w4 : (Cond.instanceMethod z).before a0 Z = true) (w6 : (Cond.publicMethod z).before a0 Z = true) (w7 : (Cond.unhidden C y'.name y'.desc).before a0 Z = true) (w8 : (Cond.castable C y'.cls).before a0 Z = true) (hy : y'.cls ≠ "java/lang/invoke/MethodHandle" ∧ y'.cls ≠ "java/lang/invoke/VarHandle") (E : Exa Z h a C)
    (hP : Pays l rm Z a0 EL sf z 5 W as' h rc rs Q') (has : (.ref a :: argsL).toArray = as') (hlen : ∀ sig, parseMethodDescriptor y'.desc = some sig → argsL.length = sig.parameters.length) (hst : S = argsL.reverse ++ .ref a :: rest) (hW : (rest.map fun v => v.category).sum ≤ W) (hsz : L.size = maxL) (hd : decode bytes pc = .ok (.invokeinterface idx count, 5)) (hp : pc + 5 = pc')
    (hk : k + rc = k') (hn : n + rs = n') (hk2 : k' ≤ rm.cells) (hn2 : n' ≤ rm.slots)
    (g : ∀ (v : Option Value) (h' : Heap), h.size ≤ h'.size → Q' v h' → Seg l Z a0 EL y bytes maxL ret rm Q h' k' n' sf pc' L (v.toList ++ rest)) : Seg l Z a0 EL y bytes maxL ret rm Q h k n sf pc L S := by
  subst hp hk hn hst has
  intro p e s m args below meth c T C' w'
  obtain ⟨vm0, locs, k0, X, r1, r2, r3, r4, r5, r6, r7, r8, r9, r10⟩ := w'
  obtain ⟨cq, kq, qa, qb, qc⟩ := isOf (s := s.setVm vm0) r4 r1 E
  obtain ⟨v, vm1, B, -, X', hS, hg, ⟨L0, ⟨q1, q2, q3⟩, hl, hc, hs, q4⟩, st⟩ := X.interfaceBackS C'.1 r5 (mvT r4 w1) (mvT r4 w2) (mvT r4 w5 hw5) (mvT r4 w3) (mvT r4 w4) (mvT r4 w6) (mvT r4 w7) (mvT r4 w8) hy (hP p e below s args vm0 r4 r6.1 r10 r8 r9) qa qb qc (g := mkF m pc L (argsL.reverse ++ .ref a :: rest)) rfl (hsz.trans C'.2.2.1.symm) (Steps.refl _) (argsL := argsL) (rest := rest) hlen rfl (by show 2 * 0 + _ ≤ _; omega) (hb C'.2.1 hd) (fun _ _ => ⟨rfl, r1, hk2, hn2⟩)
  rw [r1] at hg
  exact Gl.st (fun t hr => st.trans hr) (g v B.U.heap hg q3 p e s m args below meth c B.U C' (wkBack ⟨r2, r3, r4, r5, r6, r7, r8, r9, r10⟩ X' hS hg ⟨q1, q2⟩ hl hc hs q4))
theorem nf_sel {C : String} (w3 : (Cond.selects C y' y').before a0 Z = true) (s : State) (vm0 : Vm) (hZ : Z.Warmed39 vm0) : Free.NotFace (s.setVm vm0) y' :=
  notFace_of_selects (args := #[]) (mvT (s := s.setVm vm0) hZ w3)
theorem nf_topS (w : (Cond.noSuperclass y'.cls).before a0 Z = true) (s : State) (vm0 : Vm) (hZ : Z.Warmed39 vm0) : Free.NotFace (s.setVm vm0) y' := nf_top (args := #[]) (mvT (s := s.setVm vm0) hZ w)
theorem nf_supS {C : String} (w : (Cond.superclass y'.cls C).before a0 Z = true) (s : State) (vm0 : Vm) (hZ : Z.Warmed39 vm0) : Free.NotFace (s.setVm vm0) y' := nf_super (args := #[]) (mvT (s := s.setVm vm0) hZ w)
end Use
end Calls
end Jvm.OwnK
namespace Jvm.OwnK
open Jvm Jvm.ClassFile Sem Op Lib Jvm.Free Jvm.Stand Jvm.LawKit Jvm.RoadKit Bundle
/-! own kit, part 4: small numbers as Int32 -/
theorem n32i {i : Nat} (h : i ≤ 100000) : (Int32.ofNat i).toInt = i := Int32.toInt_ofNat_of_lt (by omega)
theorem n32c {i : Nat} (h : i ≤ 100000) : (Int32.ofNat i).toNatClampNeg = i := by
  show (Int32.ofNat i).toInt.toNat = i
  rw [n32i h]; rfl
theorem n32lt {i n : Nat} (h : i < n) (hn : n ≤ 100000) : Int32.ofNat i < Int32.ofNat n := by
  rw [Int32.lt_iff_toInt_lt, n32i (by omega), n32i hn]; omega
theorem n32nlt {i n : Nat} (h : n ≤ i) (hn : i ≤ 100000) : ¬ Int32.ofNat i < Int32.ofNat n := by
  rw [Int32.lt_iff_toInt_lt, n32i (by omega), n32i (by omega)]; omega
theorem n32nn {i : Nat} (h : i ≤ 100000) : ¬ Int32.ofNat i < 0 := by
  rw [Int32.lt_iff_toInt_lt, n32i h]; show ¬ (i : Int) < 0; omega
theorem n32in {i n : Nat} (h : i < n) (hn : n ≤ 100000) : ¬ Int32.ofNat i < 0 ∧ Int32.ofNat i < Int32.ofNat n := ⟨n32nn (by omega), n32lt h hn⟩
theorem n32add (i j : Nat) : Int32.ofNat i + Int32.ofNat j = Int32.ofNat (i + j) := (Int32.ofNat_add i j).symm
theorem n32s (i : Nat) : Int32.ofNat i + 1 = Int32.ofNat (i + 1) := n32add i 1
theorem n32eq {i j : Nat} (hi : i ≤ 100000) (hj : j ≤ 100000) (h : Int32.ofNat i = Int32.ofNat j) : i = j := by
  have := congrArg Int32.toInt h
  rw [n32i hi, n32i hj] at this; omega
theorem getDmap {α : Type} (f : α → Value) (cs : List α) (i : Nat) (d : α) (dv : Value) (h : i < cs.length) : (cs.map f).getD i dv = f (cs.getD i d) := by
  simp [List.getD_eq_getElem?_getD, h]
theorem toInt_cases {x : Int32} {n : Nat} (h0 : 0 ≤ x.toInt) (h1 : x.toInt < n) (hn : n ≤ 1000) : ∃ i : Nat, i < n ∧ x = Int32.ofNat i := by
  refine ⟨x.toInt.toNat, by omega, Int32.toInt_inj.mp ?_⟩
  rw [Int32.toInt_ofNat_of_lt (by omega)]; omega
end Jvm.OwnK
/- laws to paste: Road.backV, Road.codOf, Road.lenW, Road.empW (cut by pick.py; bodies as the Statement names them) -/
namespace Jvm.Pilot.@@N@@
namespace StrChars
open Jvm Sem ClassFile Op Lib Jvm.Stand Jvm.Free.XT Jvm.Free.ALB Jvm.Free.JM Jvm.Free
open Jvm.Lib.Cold (StaticIs)
/-- a char array whose places are chars -/
def Ch (a : Addr) (A : Cell) (U : State) : Prop := Arr .char a A U ∧ Typed .char A
theorem Ch.mv {a : Addr} {A : Cell} {U U' : State} (h : Ch a A U) (hal : U.vm.Alike U'.vm) (hh : U'.heap = U.heap) : Ch a A U' := ⟨h.1.mv hal hh, h.2⟩
theorem Ch.keep {a : Addr} {A : Cell} {U U' : State} (h : Ch a A U) (hal : U.vm.Alike U'.vm) (hk : U'.heap[a]? = some A) : Ch a A U' := ⟨h.1.keep hal hk, h.2⟩
/-- what place i of a char[]'s cell holds -/
def cv (A : Cell) (i : Nat) : Int32 := match A.slots[i]? with | some (.int x) => x | _ => 0
theorem Ch.get {a : Addr} {A : Cell} {U : State} (h : Ch a A U) {i : Nat} (hi : i < A.slots.size) : A.slots[i]? = some (.int (cv A i)) := by
  have e := Array.getElem?_eq_getElem hi
  have f := h.2 i _ e
  unfold cv; rw [e]
  generalize A.slots[i] = v at f
  cases v <;> simp [fits] at f ⊢
/-- the byte that i2b leaves of a char -/
def lo8 (x : Int32) : Int32 := x.toInt8.toInt32
theorem fits_lo8 (y : Int32) : fits .byte (.int (lo8 y)) = true := by
  have h1 := y.toInt8.le_toInt
  have h2 := y.toInt8.toInt_lt
  simp only [lo8, fits, Bool.and_eq_true, decide_eq_true_eq, Int32.le_iff_toInt_le, Int8.toInt_toInt32, show (-128 : Int32).toInt = -128 from by decide, show (127 : Int32).toInt = 127 from by decide]
  omega
/-- A' is A but that each place j of lo .. hi - 1 holds f j -/
def Laid (A A' : Cell) (lo hi : Nat) (f : Nat → Value) : Prop := A'.cls = A.cls ∧ A'.vm = A.vm ∧ A'.slots.size = A.slots.size ∧ ∀ i, A'.slots[i]? = if lo ≤ i ∧ i < hi then some (f i) else A.slots[i]?
theorem Laid.zero (A : Cell) (lo : Nat) (f : Nat → Value) : Laid A A lo (lo + 0) f := ⟨rfl, rfl, rfl, fun i => by rw [if_neg (by omega)]⟩
theorem Laid.step {A Ak : Cell} {lo k : Nat} {f : Nat → Value} {v : Value} (h : Laid A Ak lo k f) (hlo : lo ≤ k) (hk : k < Ak.slots.size) (hv : v = f k) : Laid A (Ak.setSlot k v) lo (k + 1) f := by
  refine ⟨h.1, h.2.1, by simpa [Cell.setSlot] using h.2.2.1, fun i => ?_⟩
  by_cases e : k = i
  · subst e; rw [Cell.slots_setSlot_self v hk, if_pos (by omega), hv]
  · rw [Cell.slots_setSlot_ne v e, h.2.2.2 i]
    by_cases q : lo ≤ i ∧ i < k
    · rw [if_pos q, if_pos (by omega)]
    · rw [if_neg q, if_neg (by omega)]
def U16 : String := "java/lang/StringUTF16"
namespace Cmp5
def yN : MethodName := ⟨"java/lang/StringUTF16", "compress", "([CI[BII)I"⟩
abbrev yB : ByteArray := jdk_52_method_21_code
theorem d0 : decode yB 0 = .ok (.iconst 0, 1) := by decide +kernel
theorem d1 : decode yB 1 = .ok (.istore 5, 2) := by decide +kernel
theorem d3 : decode yB 3 = .ok (.iload 5, 2) := by decide +kernel
theorem d5 : decode yB 5 = .ok (.iload 4, 2) := by decide +kernel
theorem d7 : decode yB 7 = .ok (.if_icmp (.ge) 37, 3) := by decide +kernel
theorem d10 : decode yB 10 = .ok (.aload_n 0, 1) := by decide +kernel
theorem d11 : decode yB 11 = .ok (.iload_n 1, 1) := by decide +kernel
theorem d12 : decode yB 12 = .ok (.caload, 1) := by decide +kernel
theorem d13 : decode yB 13 = .ok (.istore 6, 2) := by decide +kernel
theorem d15 : decode yB 15 = .ok (.iload 6, 2) := by decide +kernel
theorem d17 : decode yB 17 = .ok (.sipush 255, 3) := by decide +kernel
theorem d20 : decode yB 20 = .ok (.if_icmp (.le) 6, 3) := by decide +kernel
theorem d26 : decode yB 26 = .ok (.aload_n 2, 1) := by decide +kernel
theorem d27 : decode yB 27 = .ok (.iload_n 3, 1) := by decide +kernel
theorem d28 : decode yB 28 = .ok (.iload 6, 2) := by decide +kernel
theorem d30 : decode yB 30 = .ok (.i2b, 1) := by decide +kernel
theorem d31 : decode yB 31 = .ok (.bastore, 1) := by decide +kernel
theorem d32 : decode yB 32 = .ok (.iinc 1 1, 3) := by decide +kernel
theorem d35 : decode yB 35 = .ok (.iinc 3 1, 3) := by decide +kernel
theorem d38 : decode yB 38 = .ok (.iinc 5 1, 3) := by decide +kernel
theorem d41 : decode yB 41 = .ok (.goto (-38), 3) := by decide +kernel
theorem d44 : decode yB 44 = .ok (.iload 4, 2) := by decide +kernel
theorem d46 : decode yB 46 = .ok (.ireturn, 1) := by decide +kernel
def site : List Cond := []
def tab : Cond := tabOf yN yB 7 (some .int) site
def P (b : Addr) (A : Cell) (d : Addr) (B : Cell) (o q len : Nat) (args : Array Value) (s : State) : Prop := args = #[.ref b, .int (Int32.ofNat o), .ref d, .int (Int32.ofNat q), .int (Int32.ofNat len)] ∧ Ch b A s ∧ Arr .byte d B s ∧ b ≠ d ∧ o + len ≤ A.slots.size ∧ q + len ≤ B.slots.size ∧ ∀ i, i < len → ¬ 255 < cv A (o + i)
def E (b : Addr) (A : Cell) (d : Addr) (B : Cell) (o q len : Nat) (r : Option Value) (s u : State) : Prop := r = some (.int (Int32.ofNat len)) ∧ ∃ B', Put d B' s u ∧ Laid B B' q (q + len) (fun j => Value.int (lo8 (cv A (o + (j - q)))))
/-- no char of the range above 255: len; the places written hold each char's low byte -/
theorem law (l : Launch) (b : Addr) (A : Cell) (d : Addr) (B : Cell) (o q len : Nat) : Law l yN 5 5 0 0 yB 7 (some .int) site (P b A d B o q len) (E b A d B o q len) (copyLocs d q len) 0 0 := by
  refine Law.of_walk (plainFor_of_name (by decide +kernel)) (by decide +kernel) (by decide +kernel) (by decide) (fun _ _ h => by rw [h.1]; rfl) (fun _ U U' hal hh h => ⟨h.1, h.2.1.mv hal hh, h.2.2.1.mv hal hh, h.2.2.2⟩) (fun r U U' V V' h1 hal h2 h => ⟨h.1, h.2.elim fun B' q => ⟨B', q.1.mv h1 h2, q.2⟩⟩) ?_
  intro p e s m args below meth c s₁ X0 hexec hbytes hml hret hlk hnm hown hh0 W hP
  obtain ⟨rfl, hA, hB, hne, l1, l2, hp⟩ := hP
  have c1 : Steps p.tables e below (s₁.setTop (entryFrame m #[.ref b, .int (Int32.ofNat o), .ref d, .int (Int32.ofNat q), .int (Int32.ofNat len)] 7)) (s₁.setTop (mkF m 0 #[.val (.ref b), .val (.int (Int32.ofNat o)), .val (.ref d), .val (.int (Int32.ofNat q)), .val (.int (Int32.ofNat len)), .unset, .unset] [])) := entry rfl
  have hA0 := hA.1.mv X0.warmed.alike hh0
  have hB0 := hB.mv X0.warmed.alike hh0
  have a31 := hA.1.2.2.2
  have c2 : Steps p.tables e below (s₁.setTop (entryFrame m #[.ref b, .int (Int32.ofNat o), .ref d, .int (Int32.ofNat q), .int (Int32.ofNat len)] 7)) (s₁.setTop (mkF m 3 #[.val (.ref b), .val (.int (Int32.ofNat o)), .val (.ref d), .val (.int (Int32.ofNat q)), .val (.int (Int32.ofNat len)), .val (.int 0), .unset] [])) := c1.trans (by
    refine iconstV X0.here hexec rfl 0 (hb hbytes d0) (by decide) ?_
    refine XS.istore X0.here hexec rfl (hb hbytes d1) rfl rfl ?_
    exact Steps.refl _)
  have loop : ∀ (r i : Nat), i + r = len → ∀ (z : Slot), (z = .unset ∨ ∃ w, z = .val w ∧ w.category = 1) → ∀ (Tl : State) (Bk : Cell), Stand p l e { frames := 0, locals := 0, cells := 0, slots := 0 } s m #[.ref b, .int (Int32.ofNat o), .ref d, .int (Int32.ofNat q), .int (Int32.ofNat len)] below meth c Tl ([] ++ copyLocs d q i) 0 0 → Put d Bk s₁ Tl → Laid B Bk q (q + i) (fun j => Value.int (lo8 (cv A (o + (j - q))))) →
      Steps p.tables e below (s₁.setTop (entryFrame m #[.ref b, .int (Int32.ofNat o), .ref d, .int (Int32.ofNat q), .int (Int32.ofNat len)] 7)) (Tl.setTop (mkF m 3 #[.val (.ref b), .val (.int (Int32.ofNat (o + i))), .val (.ref d), .val (.int (Int32.ofNat (q + i))), .val (.int (Int32.ofNat len)), .val (.int (Int32.ofNat i)), z] [])) → ∃ (T' : State) (B' : Cell) (z' : Slot), Stand p l e { frames := 0, locals := 0, cells := 0, slots := 0 } s m #[.ref b, .int (Int32.ofNat o), .ref d, .int (Int32.ofNat q), .int (Int32.ofNat len)] below meth c T' ([] ++ copyLocs d q len) 0 0 ∧ Put d B' s₁ T' ∧ Laid B B' q (q + len) (fun j => Value.int (lo8 (cv A (o + (j - q))))) ∧
      Steps p.tables e below (s₁.setTop (entryFrame m #[.ref b, .int (Int32.ofNat o), .ref d, .int (Int32.ofNat q), .int (Int32.ofNat len)] 7)) (T'.setTop (mkF m 3 #[.val (.ref b), .val (.int (Int32.ofNat (o + len))), .val (.ref d), .val (.int (Int32.ofNat (q + len))), .val (.int (Int32.ofNat len)), .val (.int (Int32.ofNat len)), z'] [])) := by
    intro r
    induction r with
    | zero =>
      intro i hi z hz Tl Bk Xl pl fl cl
      have hil : i = len := by omega
      rw [hil] at Xl fl cl
      exact ⟨Tl, Bk, z, Xl, pl, fl, cl⟩
    | succ r ih =>
      intro i hi z hz Tl Bk Xl pl fl cl
      have all := X0.warmed.alike.symm.trans Xl.warmed.alike
      have hAl := hA0.keep all (pl.other hne hA0.1)
      have hBk := hB0.like all pl.1 fl.1 fl.2.1 fl.2.2.1
      have hlt : q + i < Bk.slots.size := by rw [fl.2.2.1]; omega
      have c3 : Steps p.tables e below (s₁.setTop (entryFrame m #[.ref b, .int (Int32.ofNat o), .ref d, .int (Int32.ofNat q), .int (Int32.ofNat len)] 7)) (Tl.setTop (mkF m 12 #[.val (.ref b), .val (.int (Int32.ofNat (o + i))), .val (.ref d), .val (.int (Int32.ofNat (q + i))), .val (.int (Int32.ofNat len)), .val (.int (Int32.ofNat i)), z] [.int (Int32.ofNat (o + i)), .ref b])) := cl.trans (by
        refine XS.iload Xl.here hexec rfl (hb hbytes d3) rfl ?_
        refine XS.iload Xl.here hexec rfl (hb hbytes d5) rfl ?_
        refine XS.icmpNo Xl.here hexec rfl (hb hbytes d7) rfl (ii_ge_f (lt32 (by omega) (by omega))) ?_
        refine XS.aloadN Xl.here hexec rfl (hb hbytes d10) rfl rfl ?_
        refine XS.iloadN Xl.here hexec rfl (hb hbytes d11) rfl ?_
        exact Steps.refl _)
      have c4 : Steps p.tables e below (s₁.setTop (entryFrame m #[.ref b, .int (Int32.ofNat o), .ref d, .int (Int32.ofNat q), .int (Int32.ofNat len)] 7)) (Tl.setTop (mkF m 13 #[.val (.ref b), .val (.int (Int32.ofNat (o + i))), .val (.ref d), .val (.int (Int32.ofNat (q + i))), .val (.int (Int32.ofNat len)), .val (.int (Int32.ofNat i)), z] [.int (cv A (o + i))])) := c3.trans (by
        refine Xl.aget hexec hAl rfl (hA.get (i := o + i) (by omega)) rfl rfl (hb hbytes d12) ?_
        exact Steps.refl _)
      have c5 : Steps p.tables e below (s₁.setTop (entryFrame m #[.ref b, .int (Int32.ofNat o), .ref d, .int (Int32.ofNat q), .int (Int32.ofNat len)] 7)) (Tl.setTop (mkF m 15 #[.val (.ref b), .val (.int (Int32.ofNat (o + i))), .val (.ref d), .val (.int (Int32.ofNat (q + i))), .val (.int (Int32.ofNat len)), .val (.int (Int32.ofNat i)), .val (.int (cv A (o + i)))] [])) := c4.trans (by
        refine XS.istoreS Xl.here hexec rfl (hb hbytes d13) rfl rfl hz ?_
        exact Steps.refl _)
      have c6 : Steps p.tables e below (s₁.setTop (entryFrame m #[.ref b, .int (Int32.ofNat o), .ref d, .int (Int32.ofNat q), .int (Int32.ofNat len)] 7)) (Tl.setTop (mkF m 31 #[.val (.ref b), .val (.int (Int32.ofNat (o + i))), .val (.ref d), .val (.int (Int32.ofNat (q + i))), .val (.int (Int32.ofNat len)), .val (.int (Int32.ofNat i)), .val (.int (cv A (o + i)))] [.int (lo8 (cv A (o + i))), .int (Int32.ofNat (q + i)), .ref d])) := c5.trans (by
        refine XS.iload Xl.here hexec rfl (hb hbytes d15) rfl ?_
        refine sipushV Xl.here hexec rfl 255 (hb hbytes d17) (by decide) ?_
        refine XS.icmpYes Xl.here hexec rfl (pc0 := 20) rfl (hb hbytes d20) rfl (ii_le_t (hp i (by omega))) (by decide) rfl ?_
        refine XS.aloadN Xl.here hexec rfl (hb hbytes d26) rfl rfl ?_
        refine XS.iloadN Xl.here hexec rfl (hb hbytes d27) rfl ?_
        refine XS.iload Xl.here hexec rfl (hb hbytes d28) rfl ?_
        refine i2b Xl.here hexec rfl (hb hbytes d30) rfl ?_
        exact Steps.refl _)
      obtain ⟨T7, X7, p7, st7⟩ := Xl.aput hexec hBk rfl hlt rfl (fits_lo8 (cv A (o + i))) (g := (mkF m 31 #[.val (.ref b), .val (.int (Int32.ofNat (o + i))), .val (.ref d), .val (.int (Int32.ofNat (q + i))), .val (.int (Int32.ofNat len)), .val (.int (Int32.ofNat i)), .val (.int (cv A (o + i)))] [.int (lo8 (cv A (o + i))), .int (Int32.ofNat (q + i)), .ref d])) rfl (rest := []) rfl (hb hbytes d31)
      have c8 : Steps p.tables e below (s₁.setTop (entryFrame m #[.ref b, .int (Int32.ofNat o), .ref d, .int (Int32.ofNat q), .int (Int32.ofNat len)] 7)) (T7.setTop (mkF m 32 #[.val (.ref b), .val (.int (Int32.ofNat (o + i))), .val (.ref d), .val (.int (Int32.ofNat (q + i))), .val (.int (Int32.ofNat len)), .val (.int (Int32.ofNat i)), .val (.int (cv A (o + i)))] [])) := c6.trans (st7 _ (Steps.refl _))
      have c9 : Steps p.tables e below (s₁.setTop (entryFrame m #[.ref b, .int (Int32.ofNat o), .ref d, .int (Int32.ofNat q), .int (Int32.ofNat len)] 7)) (T7.setTop (mkF m 3 #[.val (.ref b), .val (.int (Int32.ofNat (o + i) + 1)), .val (.ref d), .val (.int (Int32.ofNat (q + i) + 1)), .val (.int (Int32.ofNat len)), .val (.int (Int32.ofNat i + 1)), .val (.int (cv A (o + i)))] [])) := c8.trans (by
        refine iincV X7.here hexec rfl 1 (hb hbytes d32) (by decide) rfl rfl ?_
        refine iincV X7.here hexec rfl 1 (hb hbytes d35) (by decide) rfl rfl ?_
        refine iincV X7.here hexec rfl 1 (hb hbytes d38) (by decide) rfl rfl ?_
        refine XS.goto X7.here hexec rfl (pc0 := 41) rfl (hb hbytes d41) (by decide) rfl ?_
        exact Steps.refl _)
      have c10 : Steps p.tables e below (s₁.setTop (entryFrame m #[.ref b, .int (Int32.ofNat o), .ref d, .int (Int32.ofNat q), .int (Int32.ofNat len)] 7)) (T7.setTop (mkF m 3 #[.val (.ref b), .val (.int (Int32.ofNat (o + (i + 1)))), .val (.ref d), .val (.int (Int32.ofNat (q + (i + 1)))), .val (.int (Int32.ofNat len)), .val (.int (Int32.ofNat (i + 1))), .val (.int (cv A (o + i)))] [])) := by
        have := c9
        rw [succ32, succ32, succ32] at this
        exact this
      exact ih (i + 1) (by omega) _ (Or.inr ⟨_, rfl, rfl⟩) T7 _ (by rw [copyLocs_step, ← List.append_assoc]; exact X7) (pl.trans p7) (fl.step (by omega) hlt (by simp)) c10
  obtain ⟨T9, B9, z9, X9, p9, f9, g9⟩ := loop len 0 (by omega) .unset (Or.inl rfl) s₁ B (by simpa [copyLocs] using X0) ⟨hB0.1, fun _ _ => rfl, rfl⟩ (Laid.zero _ _ _) c2
  have c11 : Steps p.tables e below (s₁.setTop (entryFrame m #[.ref b, .int (Int32.ofNat o), .ref d, .int (Int32.ofNat q), .int (Int32.ofNat len)] 7)) (T9.setTop (mkF m 46 #[.val (.ref b), .val (.int (Int32.ofNat (o + len))), .val (.ref d), .val (.int (Int32.ofNat (q + len))), .val (.int (Int32.ofNat len)), .val (.int (Int32.ofNat len)), z9] [.int (Int32.ofNat len)])) := g9.trans (by
    refine XS.iload X9.here hexec rfl (hb hbytes d3) rfl ?_
    refine XS.iload X9.here hexec rfl (hb hbytes d5) rfl ?_
    refine XS.icmpYes X9.here hexec rfl (pc0 := 7) rfl (hb hbytes d7) rfl (ii_ge_t (nlt32 (by omega) (Nat.le_refl _))) (by decide) rfl ?_
    refine XS.iload X9.here hexec rfl (hb hbytes d44) rfl ?_
    exact Steps.refl _)
  exact ⟨T9, some (.int (Int32.ofNat len)), _, _, _, X9, by simp, rfl, rfl, (fun h => by cases h), ⟨rfl, B9, p9.from hh0, f9⟩, fun fs hl => c11.trans (X9.ireturnOut hexec hret rfl (Or.inl rfl) (hb hbytes d46) hl)⟩
end Cmp5
namespace Cmp3
def yN : MethodName := ⟨"java/lang/StringUTF16", "compress", "([CII)[B"⟩
abbrev yB : ByteArray := jdk_52_method_16_code
theorem d0 : decode yB 0 = .ok (.iload_n 2, 1) := by decide +kernel
theorem d1 : decode yB 1 = .ok (.newarray .byte, 2) := by decide +kernel
theorem d3 : decode yB 3 = .ok (.astore_n 3, 1) := by decide +kernel
theorem d4 : decode yB 4 = .ok (.aload_n 0, 1) := by decide +kernel
theorem d5 : decode yB 5 = .ok (.iload_n 1, 1) := by decide +kernel
theorem d6 : decode yB 6 = .ok (.aload_n 3, 1) := by decide +kernel
theorem d7 : decode yB 7 = .ok (.iconst 0, 1) := by decide +kernel
theorem d8 : decode yB 8 = .ok (.iload_n 2, 1) := by decide +kernel
theorem d9 : decode yB 9 = .ok (.invokestatic 115, 3) := by decide +kernel
theorem d12 : decode yB 12 = .ok (.istore 4, 2) := by decide +kernel
theorem d14 : decode yB 14 = .ok (.iload 4, 2) := by decide +kernel
theorem d16 : decode yB 16 = .ok (.iload_n 2, 1) := by decide +kernel
theorem d17 : decode yB 17 = .ok (.if_icmp (.eq) 40, 3) := by decide +kernel
theorem d57 : decode yB 57 = .ok (.aload_n 3, 1) := by decide +kernel
theorem d58 : decode yB 58 = .ok (.areturn, 1) := by decide +kernel
def site : List Cond := [.arrayClass .byte, Cmp5.tab] ++ staticW U16 115 Cmp5.yN
def tab : Cond := tabOf yN yB 6 (some (.array .byte)) site
def P (b : Addr) (A : Cell) (o len : Nat) (args : Array Value) (s : State) : Prop := args = #[.ref b, .int (Int32.ofNat o), .int (Int32.ofNat len)] ∧ Ch b A s ∧ o + len ≤ A.slots.size ∧ len ≤ 536870912 ∧ ∀ i, i < len → ¬ 255 < cv A (o + i)
def E (b : Addr) (A : Cell) (o len : Nat) (r : Option Value) (s u : State) : Prop := NewArr .byte "[B" len (fun j => .int (lo8 (cv A (o + j)))) r s u ∧ u.heap.size = s.heap.size + 1
/-- no char of the range above 255: a new byte[] of their low bytes -/
theorem law (l : Launch) (b : Addr) (A : Cell) (o len : Nat) : Law l yN 3 3 1 18 yB 6 (some (.array .byte)) site (P b A o len) (E b A o len) [] 1 len := by
  refine Law.of_walk (plainFor_of_name (by decide +kernel)) (by decide +kernel) (by decide +kernel) (by decide) (fun _ _ h => by rw [h.1]; rfl) (fun _ U U' hal hh h => ⟨h.1, h.2.1.mv hal hh, h.2.2⟩) (fun r U U' V V' h1 hal h2 h => ⟨NewArr.mv r U U' V V' h1 hal h2 h.1, by rw [h1, h2]; exact h.2⟩) ?_
  intro p e s m args below meth c s₁ X0 hexec hbytes hml hret hlk hnm hown hh0 W hP
  obtain ⟨rfl, hA, l1, l2, hp⟩ := hP
  have a31 := hA.1.2.2.2
  have c1 : Steps p.tables e below (s₁.setTop (entryFrame m #[.ref b, .int (Int32.ofNat o), .int (Int32.ofNat len)] 6)) (s₁.setTop (mkF m 0 #[.val (.ref b), .val (.int (Int32.ofNat o)), .val (.int (Int32.ofNat len)), .unset, .unset, .unset] [])) := entry rfl
  have c2 : Steps p.tables e below (s₁.setTop (entryFrame m #[.ref b, .int (Int32.ofNat o), .int (Int32.ofNat len)] 6)) (s₁.setTop (mkF m 1 #[.val (.ref b), .val (.int (Int32.ofNat o)), .val (.int (Int32.ofNat len)), .unset, .unset, .unset] [.int (Int32.ofNat len)])) := c1.trans (by
    refine XS.iloadN X0.here hexec rfl (hb hbytes d0) rfl ?_
    exact Steps.refl _)
  obtain ⟨T3, B3, X3, ba3, bs3, bv3, bh3, bf3, st3⟩ := X0.anew hexec (atype := .byte) (wk W (.arrayClass .byte)) rfl (by show len * 1 ≤ _; omega) (by omega) (g := (mkF m 1 #[.val (.ref b), .val (.int (Int32.ofNat o)), .val (.int (Int32.ofNat len)), .unset, .unset, .unset] [.int (Int32.ofNat len)])) rfl (hb hbytes d1) (rest := []) rfl (Nat.le_refl _) (by show 0 + len ≤ len; omega)
  rw [hh0] at ba3 st3
  have kp3 : XT.Kept s T3 := (XT.Kept.of_eq hh0).push bh3
  have hA3 := hA.keep X3.warmed.alike (kp3 _ _ hA.1.1)
  have hne : b ≠ s.heap.size := hA.1.ne
  have c4 : Steps p.tables e below (s₁.setTop (entryFrame m #[.ref b, .int (Int32.ofNat o), .int (Int32.ofNat len)] 6)) (T3.setTop (mkF m 3 #[.val (.ref b), .val (.int (Int32.ofNat o)), .val (.int (Int32.ofNat len)), .unset, .unset, .unset] [.ref s.heap.size])) := c2.trans (st3 _ (Steps.refl _))
  have c5 : Steps p.tables e below (s₁.setTop (entryFrame m #[.ref b, .int (Int32.ofNat o), .int (Int32.ofNat len)] 6)) (T3.setTop (mkF m 9 #[.val (.ref b), .val (.int (Int32.ofNat o)), .val (.int (Int32.ofNat len)), .val (.ref s.heap.size), .unset, .unset] [.int (Int32.ofNat len), .int 0, .ref s.heap.size, .int (Int32.ofNat o), .ref b])) := c4.trans (by
    refine XS.astoreN X3.here hexec rfl (hb hbytes d3) rfl rfl rfl ?_
    refine XS.aloadN X3.here hexec rfl (hb hbytes d4) rfl rfl ?_
    refine XS.iloadN X3.here hexec rfl (hb hbytes d5) rfl ?_
    refine XS.aloadN X3.here hexec rfl (hb hbytes d6) rfl rfl ?_
    refine iconstV X3.here hexec rfl 0 (hb hbytes d7) (by decide) ?_
    refine XS.iloadN X3.here hexec rfl (hb hbytes d8) rfl ?_
    exact Steps.refl _)
  obtain ⟨v6, T6, X6, E6, g6⟩ := X3.callS hexec (Cmp5.law l b A s.heap.size B3 o 0 len) hown (wks W (staticW U16 115 Cmp5.yN)) (wk W Cmp5.tab) (W := 0) (Nat.le_of_ble_eq_true rfl) (Nat.le_of_ble_eq_true rfl) (Nat.le_refl _) (by show 0 + len + 0 ≤ len; omega) (g := (mkF m 9 #[.val (.ref b), .val (.int (Int32.ofNat o)), .val (.int (Int32.ofNat len)), .val (.ref s.heap.size), .unset, .unset] [.int (Int32.ofNat len), .int (Int32.ofNat 0), .ref s.heap.size, .int (Int32.ofNat o), .ref b])) rfl (by rw [hml]; rfl) c5 (argsL := [.ref b, .int (Int32.ofNat o), .ref s.heap.size, .int (Int32.ofNat 0), .int (Int32.ofNat len)]) (rest := []) rfl rfl (by show 2 * 0 + 0 ≤ _; decide) (hb hbytes d9) (⟨rfl, hA3, ba3, hne, l1, by rw [bs3]; simp, hp⟩)
  obtain ⟨rfl, B6, p6, f6⟩ := E6
  have c7 : Steps p.tables e below (s₁.setTop (entryFrame m #[.ref b, .int (Int32.ofNat o), .int (Int32.ofNat len)] 6)) (T6.setTop (mkF m 12 #[.val (.ref b), .val (.int (Int32.ofNat o)), .val (.int (Int32.ofNat len)), .val (.ref s.heap.size), .unset, .unset] [.int (Int32.ofNat len)])) := g6
  have c8 : Steps p.tables e below (s₁.setTop (entryFrame m #[.ref b, .int (Int32.ofNat o), .int (Int32.ofNat len)] 6)) (T6.setTop (mkF m 58 #[.val (.ref b), .val (.int (Int32.ofNat o)), .val (.int (Int32.ofNat len)), .val (.ref s.heap.size), .val (.int (Int32.ofNat len)), .unset] [.ref s.heap.size])) := c7.trans (by
    refine XS.istore X6.here hexec rfl (hb hbytes d12) rfl rfl ?_
    refine XS.iload X6.here hexec rfl (hb hbytes d14) rfl ?_
    refine XS.iloadN X6.here hexec rfl (hb hbytes d16) rfl ?_
    refine XS.icmpYes X6.here hexec rfl (pc0 := 17) rfl (hb hbytes d17) rfl (ii_eq_t rfl) (by decide) rfl ?_
    refine XS.aloadN X6.here hexec rfl (hb hbytes d57) rfl rfl ?_
    exact Steps.refl _)
  have X8 := X6.wide (L' := []) (cells' := 1) (slots' := len) (fun x hx hlt => by
    simp only [List.nil_append, copyLocs, List.mem_map, List.mem_range] at hx
    obtain ⟨i, -, rfl⟩ := hx
    exact absurd hlt (Nat.lt_irrefl _)) (Nat.le_refl _) (by omega)
  exact ⟨T6, some (.ref s.heap.size), _, _, _, X8, rfl, rfl, rfl, (fun h => by cases h), ⟨⟨rfl, B6, ba3.like (X3.warmed.alike.symm.trans X6.warmed.alike) p6.1 f6.1 f6.2.1 f6.2.2.1, f6.2.1.trans bv3, by rw [X6.warmed.alike.findClass, f6.1]; exact bf3, by rw [f6.2.2.1, bs3]; simp, fun j hj => by rw [f6.2.2.2 j, if_pos (by omega)]; rfl, kp3.put p6 (Nat.le_refl _)⟩, by rw [p6.2.2, bh3, hh0]; simp⟩, fun fs hl => c8.trans (X8.areturnOut hexec rfl hret rfl (hb hbytes d58) hl)⟩
end Cmp3
namespace CodL
def yN : MethodName := ⟨"java/lang/StringUTF16", "coderFromArrayLen", "([BI)B"⟩
abbrev yB : ByteArray := jdk_52_method_15_code
theorem d0 : decode yB 0 = .ok (.iload_n 1, 1) := by decide +kernel
theorem d1 : decode yB 1 = .ok (.aload_n 0, 1) := by decide +kernel
theorem d2 : decode yB 2 = .ok (.arraylength, 1) := by decide +kernel
theorem d3 : decode yB 3 = .ok (.isub, 1) := by decide +kernel
theorem d4 : decode yB 4 = .ok (.bipush 31, 2) := by decide +kernel
theorem d6 : decode yB 6 = .ok (.iushr, 1) := by decide +kernel
theorem d7 : decode yB 7 = .ok (.i2b, 1) := by decide +kernel
theorem d8 : decode yB 8 = .ok (.ireturn, 1) := by decide +kernel
def site : List Cond := []
def tab : Cond := tabOf yN yB 2 (some .byte) site
def P (d : Addr) (B : Cell) (args : Array Value) (s : State) : Prop := args = #[.ref d, .int (Int32.ofNat B.slots.size)] ∧ Arr .byte d B s
def E (r : Option Value) (s u : State) : Prop := XT.PureE (some (.int 0)) r s u
/-- an array as long as the number of chars: LATIN1 -/
theorem law (l : Launch) (d : Addr) (B : Cell) : Law l yN 2 2 0 0 yB 2 (some .byte) site (P d B) E [] 0 0 := by
  refine Law.of_walk (plainFor_of_name (by decide +kernel)) (by decide +kernel) (by decide +kernel) (by decide) (fun _ _ h => by rw [h.1]; rfl) (fun _ U U' hal hh h => ⟨h.1, h.2.mv hal hh⟩) (fun r U U' V V' h1 hal h2 h => XT.PureE.mv r U U' V V' h1 hal h2 h) ?_
  intro p e s m args below meth c s₁ X0 hexec hbytes hml hret hlk hnm hown hh0 W hP
  obtain ⟨rfl, hB⟩ := hP
  have hB0 := hB.mv X0.warmed.alike hh0
  have c1 : Steps p.tables e below (s₁.setTop (entryFrame m #[.ref d, .int (Int32.ofNat B.slots.size)] 2)) (s₁.setTop (mkF m 0 #[.val (.ref d), .val (.int (Int32.ofNat B.slots.size))] [])) := entry rfl
  have c2 : Steps p.tables e below (s₁.setTop (entryFrame m #[.ref d, .int (Int32.ofNat B.slots.size)] 2)) (s₁.setTop (mkF m 2 #[.val (.ref d), .val (.int (Int32.ofNat B.slots.size))] [.ref d, .int (Int32.ofNat B.slots.size)])) := c1.trans (by
    refine XS.iloadN X0.here hexec rfl (hb hbytes d0) rfl ?_
    refine XS.aloadN X0.here hexec rfl (hb hbytes d1) rfl rfl ?_
    exact Steps.refl _)
  have c3 : Steps p.tables e below (s₁.setTop (entryFrame m #[.ref d, .int (Int32.ofNat B.slots.size)] 2)) (s₁.setTop (mkF m 8 #[.val (.ref d), .val (.int (Int32.ofNat B.slots.size))] [.int (lo8 (ushr (Int32.ofNat B.slots.size - Int32.ofNat B.slots.size) 31))])) := c2.trans (by
    refine X0.alen hexec hB0 rfl rfl (hb hbytes d2) ?_
    refine XS.isub X0.here hexec rfl (hb hbytes d3) rfl ?_
    refine bipushV X0.here hexec rfl 31 (hb hbytes d4) (by decide) ?_
    refine iushr X0.here hexec rfl (hb hbytes d6) rfl ?_
    refine i2b X0.here hexec rfl (hb hbytes d7) rfl ?_
    exact Steps.refl _)
  have e0 : lo8 (ushr (Int32.ofNat B.slots.size - Int32.ofNat B.slots.size) 31) = 0 := by rw [Int32.sub_self]; decide
  rw [e0] at c3
  exact ⟨s₁, some (.int 0), _, _, _, X0, rfl, rfl, rfl, (fun h => by cases h), ⟨rfl, hh0⟩, fun fs hl => c3.trans (X0.ireturnOut hexec hret rfl (Or.inr (Or.inr (Or.inl rfl))) (hb hbytes d8) hl)⟩
end CodL
/-- the String at a is Latin-1 over a new byte[] (the heap's one new cell): the low bytes of the len chars of A from o on; every cell but a is kept -/
def Got (a : Addr) (D : Cell) (fV fC : Field) (A : Cell) (o len : Nat) (r : Option Value) (s u : State) : Prop := r = none ∧ ∃ D' V : Cell, Blank "java/lang/String" a D' u ∧ Same D D' [fV.slot, fC.slot] ∧ D'.slots[fV.slot]? = some (.ref s.heap.size) ∧ D'.slots[fC.slot]? = some (.int 0) ∧ Arr .byte s.heap.size V u ∧ V.vm = .none ∧ u.vm.findClass "[B" = some V.cls ∧ V.slots.size = len ∧ (∀ j, j < len → V.slots[j]? = some (.int (lo8 (cv A (o + j))))) ∧ (∀ (y : Addr) (c : Cell), y ≠ a → s.heap[y]? = some c → u.heap[y]? = some c) ∧ u.heap.size = s.heap.size + 1
theorem Got.mv {a : Addr} {D A : Cell} {fV fC : Field} {o len : Nat} : ∀ r (U U' V V' : State), U'.heap = U.heap → V.vm.Alike V'.vm → V'.heap = V.heap → Got a D fV fC A o len r U V → Got a D fV fC A o len r U' V' :=
  fun r U U' V V' h1 hal h2 ⟨e0, D', X, a1, a2, a3, a4, a5, a6, a7, a8, a9, a10, a11⟩ => ⟨e0, D', X, a1.mv hal h2, a2, by rw [h1]; exact a3, a4, by rw [h1]; exact a5.mv hal h2, a6, by rw [hal.findClass]; exact a7, a8, a9, by rw [h1, h2]; exact a10, by rw [h1, h2]; exact a11⟩
namespace New4
def yN : MethodName := ⟨"java/lang/String", "<init>", "([CIILjava/lang/Void;)V"⟩
abbrev yB : ByteArray := jdk_42_method_149_code
theorem d0 : decode yB 0 = .ok (.aload_n 0, 1) := by decide +kernel
theorem d1 : decode yB 1 = .ok (.invokespecial 1, 3) := by decide +kernel
theorem d4 : decode yB 4 = .ok (.iload_n 3, 1) := by decide +kernel
theorem d5 : decode yB 5 = .ok (.ifCond (.ne) 22, 3) := by decide +kernel
theorem d27 : decode yB 27 = .ok (.getstatic 38, 3) := by decide +kernel
theorem d30 : decode yB 30 = .ok (.ifCond (.eq) 28, 3) := by decide +kernel
theorem d33 : decode yB 33 = .ok (.aload_n 1, 1) := by decide +kernel
theorem d34 : decode yB 34 = .ok (.iload_n 2, 1) := by decide +kernel
theorem d35 : decode yB 35 = .ok (.iload_n 3, 1) := by decide +kernel
theorem d36 : decode yB 36 = .ok (.invokestatic 177, 3) := by decide +kernel
theorem d39 : decode yB 39 = .ok (.astore 5, 2) := by decide +kernel
theorem d41 : decode yB 41 = .ok (.aload_n 0, 1) := by decide +kernel
theorem d42 : decode yB 42 = .ok (.aload 5, 2) := by decide +kernel
theorem d44 : decode yB 44 = .ok (.iload_n 3, 1) := by decide +kernel
theorem d45 : decode yB 45 = .ok (.invokestatic 47, 3) := by decide +kernel
theorem d48 : decode yB 48 = .ok (.putfield 15, 3) := by decide +kernel
theorem d51 : decode yB 51 = .ok (.aload_n 0, 1) := by decide +kernel
theorem d52 : decode yB 52 = .ok (.aload 5, 2) := by decide +kernel
theorem d54 : decode yB 54 = .ok (.putfield 9, 3) := by decide +kernel
theorem d57 : decode yB 57 = .ok (.return_, 1) := by decide +kernel
def site : List Cond := [.fieldLink "java/lang/String" 38 "java/lang/String" "COMPACT_STRINGS" "Z", Cmp3.tab, CodL.tab, .laysFinal "java/lang/String" "java/lang/String" "value" "[B", .fieldLink "java/lang/String" 9 "java/lang/String" "value" "[B", .laysFinal "java/lang/String" "java/lang/String" "coder" "B", .fieldLink "java/lang/String" 15 "java/lang/String" "coder" "B"] ++ objW "java/lang/String" 1 ++ staticW "java/lang/String" 177 Cmp3.yN ++ staticW "java/lang/String" 47 CodL.yN
def tab : Cond := tabOf yN yB 6 none site
def P (a : Addr) (D : Cell) (fV fC : Field) (b : Addr) (A : Cell) (z : Int32) (o len : Nat) (args : Array Value) (s : State) : Prop := args = #[.ref a, .ref b, .int (Int32.ofNat o), .int (Int32.ofNat len), .null] ∧ Blank "java/lang/String" a D s ∧ Found "java/lang/String" "value" "[B" fV s ∧ Found "java/lang/String" "coder" "B" fC s ∧ Ch b A s ∧ StaticIs s "java/lang/String" "COMPACT_STRINGS" "Z" (.int z) ∧ ¬ z = 0 ∧ 0 < len ∧ o + len ≤ A.slots.size ∧ len ≤ 536870912 ∧ ∀ i, i < len → ¬ 255 < cv A (o + i)
def E (a : Addr) (D : Cell) (fV fC : Field) (A : Cell) (o len : Nat) (r : Option Value) (s u : State) : Prop := Got a D fV fC A o len r s u
/-- len > 0, no char of the range above 255: a Latin-1 String of their low bytes -/
theorem law (l : Launch) (a : Addr) (D : Cell) (fV fC : Field) (b : Addr) (A : Cell) (z : Int32) (o len : Nat) : Law l yN 5 4 2 35 yB 6 none site (P a D fV fC b A z o len) (E a D fV fC A o len) [⟨a, fC.slot⟩, ⟨a, fV.slot⟩] 1 len := by
  refine Law.of_walk (plainFor_of_name (by decide +kernel)) (by decide +kernel) (by decide +kernel) (by decide) (fun _ _ h => by rw [h.1]; rfl) (fun _ U U' hal hh h => ⟨h.1, h.2.1.mv hal hh, h.2.2.1.al hal, h.2.2.2.1.al hal, h.2.2.2.2.1.mv hal hh, h.2.2.2.2.2.1.there hal hh, h.2.2.2.2.2.2⟩) (fun r U U' V V' h1 hal h2 h => Got.mv r U U' V V' h1 hal h2 h) ?_
  intro p e s m args below meth c s₁ X0 hexec hbytes hml hret hlk hnm hown hh0 W hP
  obtain ⟨rfl, hB, f1, f2, hA, s1, hz, l0, l1, l2, hp⟩ := hP
  have a31 := hA.1.2.2.2
  have c1 : Steps p.tables e below (s₁.setTop (entryFrame m #[.ref a, .ref b, .int (Int32.ofNat o), .int (Int32.ofNat len), .null] 6)) (s₁.setTop (mkF m 0 #[.val (.ref a), .val (.ref b), .val (.int (Int32.ofNat o)), .val (.int (Int32.ofNat len)), .val .null, .unset] [])) := entry rfl
  have c2 : Steps p.tables e below (s₁.setTop (entryFrame m #[.ref a, .ref b, .int (Int32.ofNat o), .int (Int32.ofNat len), .null] 6)) (s₁.setTop (mkF m 1 #[.val (.ref a), .val (.ref b), .val (.int (Int32.ofNat o)), .val (.int (Int32.ofNat len)), .val .null, .unset] [.ref a])) := c1.trans (by
    refine XS.aloadN X0.here hexec rfl (hb hbytes d0) rfl rfl ?_
    exact Steps.refl _)
  obtain ⟨T3, X3, q3, st3⟩ := X0.oinit hexec hown (wks W (objW "java/lang/String" 1)) (g := (mkF m 1 #[.val (.ref a), .val (.ref b), .val (.int (Int32.ofNat o)), .val (.int (Int32.ofNat len)), .val .null, .unset] [.ref a])) rfl (by rw [hml]; rfl) (rest := []) rfl (hb hbytes d1) (W := 0) (by show 2 * 0 + 0 ≤ _; decide) (Nat.le_of_ble_eq_true rfl) (Nat.le_of_ble_eq_true rfl)
  have hh3 := q3.trans hh0
  have c4 : Steps p.tables e below (s₁.setTop (entryFrame m #[.ref a, .ref b, .int (Int32.ofNat o), .int (Int32.ofNat len), .null] 6)) (T3.setTop (mkF m 27 #[.val (.ref a), .val (.ref b), .val (.int (Int32.ofNat o)), .val (.int (Int32.ofNat len)), .val .null, .unset] [])) := (c2.trans (st3 _ (Steps.refl _))).trans (by
    refine XS.iloadN X3.here hexec rfl (hb hbytes d4) rfl ?_
    refine XS.ifYes X3.here hexec rfl (pc0 := 5) rfl (hb hbytes d5) rfl (i0_ne_t (nz32 (by omega) l0)) (by decide) rfl ?_
    exact Steps.refl _)
  obtain ⟨T5, X5, q5, st5⟩ := X3.sget hexec hown (wk W (.fieldLink "java/lang/String" 38 "java/lang/String" "COMPACT_STRINGS" "Z")) s1 (fun _ _ h => by rw [hh3]; exact h) (g := (mkF m 27 #[.val (.ref a), .val (.ref b), .val (.int (Int32.ofNat o)), .val (.int (Int32.ofNat len)), .val .null, .unset] [])) rfl (hb hbytes d27)
  have hh5 := q5.trans hh3
  have c6 : Steps p.tables e below (s₁.setTop (entryFrame m #[.ref a, .ref b, .int (Int32.ofNat o), .int (Int32.ofNat len), .null] 6)) (T5.setTop (mkF m 30 #[.val (.ref a), .val (.ref b), .val (.int (Int32.ofNat o)), .val (.int (Int32.ofNat len)), .val .null, .unset] [.int z])) := c4.trans (st5 _ (Steps.refl _))
  have c7 : Steps p.tables e below (s₁.setTop (entryFrame m #[.ref a, .ref b, .int (Int32.ofNat o), .int (Int32.ofNat len), .null] 6)) (T5.setTop (mkF m 36 #[.val (.ref a), .val (.ref b), .val (.int (Int32.ofNat o)), .val (.int (Int32.ofNat len)), .val .null, .unset] [.int (Int32.ofNat len), .int (Int32.ofNat o), .ref b])) := c6.trans (by
    refine XS.ifNo X5.here hexec rfl (hb hbytes d30) rfl (i0_eq_f hz) ?_
    refine XS.aloadN X5.here hexec rfl (hb hbytes d33) rfl rfl ?_
    refine XS.iloadN X5.here hexec rfl (hb hbytes d34) rfl ?_
    refine XS.iloadN X5.here hexec rfl (hb hbytes d35) rfl ?_
    exact Steps.refl _)
  obtain ⟨v8, T8, X8, E8, g8⟩ := X5.callS hexec (Cmp3.law l b A o len) hown (wks W (staticW "java/lang/String" 177 Cmp3.yN)) (wk W Cmp3.tab) (W := 0) (Nat.le_of_ble_eq_true rfl) (Nat.le_of_ble_eq_true rfl) (Nat.le_refl _) (by show 0 + len ≤ len; omega) (g := (mkF m 36 #[.val (.ref a), .val (.ref b), .val (.int (Int32.ofNat o)), .val (.int (Int32.ofNat len)), .val .null, .unset] [.int (Int32.ofNat len), .int (Int32.ofNat o), .ref b])) rfl (by rw [hml]; rfl) c7 (argsL := [.ref b, .int (Int32.ofNat o), .int (Int32.ofNat len)]) (rest := []) rfl rfl (by show 2 * 0 + 0 ≤ _; decide) (hb hbytes d36) (⟨rfl, hA.mv X5.warmed.alike hh5, l1, l2, hp⟩)
  obtain ⟨e8, z8⟩ := E8
  obtain ⟨rfl, N, n1, n2, n3, n4, n5, n6⟩ := NewArr.mv _ T5 s _ _ hh5.symm (Vm.Alike.refl _) rfl e8
  rw [hh5] at z8
  have hB1 := hB.keep X8.warmed.alike (n6 _ _ hB.1)
  have hne : s.heap.size ≠ a := (Nat.ne_of_lt (Array.getElem?_eq_some_iff.mp hB.1).1).symm
  have c9 : Steps p.tables e below (s₁.setTop (entryFrame m #[.ref a, .ref b, .int (Int32.ofNat o), .int (Int32.ofNat len), .null] 6)) (T8.setTop (mkF m 39 #[.val (.ref a), .val (.ref b), .val (.int (Int32.ofNat o)), .val (.int (Int32.ofNat len)), .val .null, .unset] [.ref s.heap.size])) := g8
  have c10 : Steps p.tables e below (s₁.setTop (entryFrame m #[.ref a, .ref b, .int (Int32.ofNat o), .int (Int32.ofNat len), .null] 6)) (T8.setTop (mkF m 45 #[.val (.ref a), .val (.ref b), .val (.int (Int32.ofNat o)), .val (.int (Int32.ofNat len)), .val .null, .val (.ref s.heap.size)] [.int (Int32.ofNat N.slots.size), .ref s.heap.size, .ref a])) := by
    have hc : Steps p.tables e below (s₁.setTop (entryFrame m #[.ref a, .ref b, .int (Int32.ofNat o), .int (Int32.ofNat len), .null] 6)) (T8.setTop (mkF m 45 #[.val (.ref a), .val (.ref b), .val (.int (Int32.ofNat o)), .val (.int (Int32.ofNat len)), .val .null, .val (.ref s.heap.size)] [.int (Int32.ofNat len), .ref s.heap.size, .ref a])) := c9.trans (by
      refine XS.astore X8.here hexec rfl (hb hbytes d39) rfl rfl rfl ?_
      refine XS.aloadN X8.here hexec rfl (hb hbytes d41) rfl rfl ?_
      refine XS.aload X8.here hexec rfl (hb hbytes d42) rfl rfl ?_
      refine XS.iloadN X8.here hexec rfl (hb hbytes d44) rfl ?_
      exact Steps.refl _)
    rw [n4]; exact hc
  obtain ⟨v11, T11, X11, E11, g11⟩ := X8.callS hexec (CodL.law l s.heap.size N) hown (wks W (staticW "java/lang/String" 47 CodL.yN)) (wk W CodL.tab) (W := 1) (Nat.le_of_ble_eq_true rfl) (Nat.le_of_ble_eq_true rfl) (Nat.le_refl _) (by show 0 + len + 0 ≤ len; omega) (g := (mkF m 45 #[.val (.ref a), .val (.ref b), .val (.int (Int32.ofNat o)), .val (.int (Int32.ofNat len)), .val .null, .val (.ref s.heap.size)] [.int (Int32.ofNat N.slots.size), .ref s.heap.size, .ref a])) rfl (by rw [hml]; rfl) c10 (argsL := [.ref s.heap.size, .int (Int32.ofNat N.slots.size)]) (rest := [.ref a]) rfl rfl (by show 2 * 0 + (1 + 0) ≤ _; decide) (hb hbytes d45) (⟨rfl, n1⟩)
  obtain ⟨rfl, q11⟩ := E11
  have hB11 := hB1.mv (X8.warmed.alike.symm.trans X11.warmed.alike) q11
  have c12 : Steps p.tables e below (s₁.setTop (entryFrame m #[.ref a, .ref b, .int (Int32.ofNat o), .int (Int32.ofNat len), .null] 6)) (T11.setTop (mkF m 48 #[.val (.ref a), .val (.ref b), .val (.int (Int32.ofNat o)), .val (.int (Int32.ofNat len)), .val .null, .val (.ref s.heap.size)] [.int 0, .ref a])) := g11
  obtain ⟨T13, X13, p13, bl13, sl13, st13⟩ := X11.finit hexec hown (wk W (.fieldLink "java/lang/String" 15 "java/lang/String" "coder" "B")) (Or.inr ⟨_, (wk W (.laysFinal "java/lang/String" "java/lang/String" "coder" "B"))⟩) (Or.inl ⟨rfl, hnm⟩) f2 (Or.inl rfl) hB11 (t := .byte) (by decide +kernel) rfl (g := (mkF m 48 #[.val (.ref a), .val (.ref b), .val (.int (Int32.ofNat o)), .val (.int (Int32.ofNat len)), .val .null, .val (.ref s.heap.size)] [.int 0, .ref a])) rfl (rest := []) rfl (hb hbytes d48)
  have c14 : Steps p.tables e below (s₁.setTop (entryFrame m #[.ref a, .ref b, .int (Int32.ofNat o), .int (Int32.ofNat len), .null] 6)) (T13.setTop (mkF m 54 #[.val (.ref a), .val (.ref b), .val (.int (Int32.ofNat o)), .val (.int (Int32.ofNat len)), .val .null, .val (.ref s.heap.size)] [.ref s.heap.size, .ref a])) := (c12.trans (st13 _ (Steps.refl _))).trans (by
    refine XS.aloadN X13.here hexec rfl (hb hbytes d51) rfl rfl ?_
    refine XS.aload X13.here hexec rfl (hb hbytes d52) rfl rfl ?_
    exact Steps.refl _)
  obtain ⟨T15, X15, p15, bl15, sl15, st15⟩ := X13.finit hexec hown (wk W (.fieldLink "java/lang/String" 9 "java/lang/String" "value" "[B")) (Or.inr ⟨_, (wk W (.laysFinal "java/lang/String" "java/lang/String" "value" "[B"))⟩) (Or.inl ⟨rfl, hnm⟩) f1 (Or.inl rfl) bl13 (t := (.array .byte)) (by decide +kernel) rfl (g := (mkF m 54 #[.val (.ref a), .val (.ref b), .val (.int (Int32.ofNat o)), .val (.int (Int32.ofNat len)), .val .null, .val (.ref s.heap.size)] [.ref s.heap.size, .ref a])) rfl (rest := []) rfl (hb hbytes d54)
  have c16 : Steps p.tables e below (s₁.setTop (entryFrame m #[.ref a, .ref b, .int (Int32.ofNat o), .int (Int32.ofNat len), .null] 6)) (T15.setTop (mkF m 57 #[.val (.ref a), .val (.ref b), .val (.int (Int32.ofNat o)), .val (.int (Int32.ofNat len)), .val .null, .val (.ref s.heap.size)] [])) := c14.trans (st15 _ (Steps.refl _))
  have ap := apart (Or.inr ⟨_, (wk W (.laysFinal "java/lang/String" "java/lang/String" "value" "[B"))⟩) (Or.inr ⟨_, (wk W (.laysFinal "java/lang/String" "java/lang/String" "coder" "B"))⟩) f1 f2 (t₁ := .array .byte) (t₂ := .byte) (by decide +kernel) (by decide +kernel) (by decide)
  have al := X8.warmed.alike.symm.trans X15.warmed.alike
  have n7 : T11.heap[s.heap.size]? = some N := by rw [q11]; exact n1.1
  exact ⟨T15, none, _, _, _, X15, by simp, rfl, by omega, (fun _ => rfl), ⟨rfl, _, N, bl15, ((Same.refl D _).set _ (by simp)).set _ (by simp), sl15, (Cell.slots_setSlot_ne _ ap).trans sl13, n1.keep al (p15.other hne (p13.other hne n7)), n2, by rw [al.findClass]; exact n3, n4, n5, fun y c h1 h2 => p15.other h1 (p13.other h1 (by rw [q11]; exact n6 y c h2)), by rw [p15.2.2, p13.2.2, q11]; exact z8⟩, fun fs hl => c16.trans (X15.returnOut hexec hret (hb hbytes d57) hl)⟩
end New4
namespace New1
def yN : MethodName := ⟨"java/lang/String", "<init>", "([C)V"⟩
abbrev yB : ByteArray := jdk_42_method_3_code
theorem d0 : decode yB 0 = .ok (.aload_n 0, 1) := by decide +kernel
theorem d1 : decode yB 1 = .ok (.aload_n 1, 1) := by decide +kernel
theorem d2 : decode yB 2 = .ok (.iconst 0, 1) := by decide +kernel
theorem d3 : decode yB 3 = .ok (.aload_n 1, 1) := by decide +kernel
theorem d4 : decode yB 4 = .ok (.arraylength, 1) := by decide +kernel
theorem d5 : decode yB 5 = .ok (.aconst_null, 1) := by decide +kernel
theorem d6 : decode yB 6 = .ok (.invokespecial 27, 3) := by decide +kernel
theorem d9 : decode yB 9 = .ok (.return_, 1) := by decide +kernel
def site : List Cond := [New4.tab] ++ initW "java/lang/String" 27 New4.yN
def tab : Cond := tabOf yN yB 2 none site
def P (a : Addr) (D : Cell) (fV fC : Field) (b : Addr) (A : Cell) (z : Int32) (args : Array Value) (s : State) : Prop := args = #[.ref a, .ref b] ∧ Blank "java/lang/String" a D s ∧ Found "java/lang/String" "value" "[B" fV s ∧ Found "java/lang/String" "coder" "B" fC s ∧ Ch b A s ∧ StaticIs s "java/lang/String" "COMPACT_STRINGS" "Z" (.int z) ∧ ¬ z = 0 ∧ 0 < A.slots.size ∧ A.slots.size ≤ 536870912 ∧ ∀ i, i < A.slots.size → ¬ 255 < cv A i
def E (a : Addr) (D : Cell) (fV fC : Field) (A : Cell) (r : Option Value) (s u : State) : Prop := Got a D fV fC A 0 A.slots.size r s u
/-- new String(chars), not empty, no char above 255: a Latin-1 String of their low bytes -/
theorem law (l : Launch) (a : Addr) (D : Cell) (fV fC : Field) (b : Addr) (A : Cell) (z : Int32) : Law l yN 2 1 3 52 yB 2 none site (P a D fV fC b A z) (E a D fV fC A) [⟨a, fC.slot⟩, ⟨a, fV.slot⟩] 1 A.slots.size := by
  refine Law.of_walk (plainFor_of_name (by decide +kernel)) (by decide +kernel) (by decide +kernel) (by decide) (fun _ _ h => by rw [h.1]; rfl) (fun _ U U' hal hh h => ⟨h.1, h.2.1.mv hal hh, h.2.2.1.al hal, h.2.2.2.1.al hal, h.2.2.2.2.1.mv hal hh, h.2.2.2.2.2.1.there hal hh, h.2.2.2.2.2.2⟩) (fun r U U' V V' h1 hal h2 h => Got.mv r U U' V V' h1 hal h2 h) ?_
  intro p e s m args below meth c s₁ X0 hexec hbytes hml hret hlk hnm hown hh0 W hP
  obtain ⟨rfl, hB, f1, f2, hA, s1, hz, l0, l2, hp⟩ := hP
  have c1 : Steps p.tables e below (s₁.setTop (entryFrame m #[.ref a, .ref b] 2)) (s₁.setTop (mkF m 0 #[.val (.ref a), .val (.ref b)] [])) := entry rfl
  have c2 : Steps p.tables e below (s₁.setTop (entryFrame m #[.ref a, .ref b] 2)) (s₁.setTop (mkF m 6 #[.val (.ref a), .val (.ref b)] [.null, .int (Int32.ofNat A.slots.size), .int 0, .ref b, .ref a])) := c1.trans (by
    refine XS.aloadN X0.here hexec rfl (hb hbytes d0) rfl rfl ?_
    refine XS.aloadN X0.here hexec rfl (hb hbytes d1) rfl rfl ?_
    refine iconstV X0.here hexec rfl 0 (hb hbytes d2) (by decide) ?_
    refine XS.aloadN X0.here hexec rfl (hb hbytes d3) rfl rfl ?_
    refine X0.alen hexec (hA.1.mv X0.warmed.alike hh0) rfl rfl (hb hbytes d4) ?_
    refine XS.aconstNull X0.here hexec rfl (hb hbytes d5) ?_
    exact Steps.refl _)
  obtain ⟨v3, T3, X3, E3, g3⟩ := X0.callN hexec (New4.law l a D fV fC b A z 0 A.slots.size) rfl hown (wks W (initW "java/lang/String" 27 New4.yN)) (W New4.tab (by simp only [site, List.mem_cons, List.mem_append, true_or, or_true])) (W := 0) (Nat.le_of_ble_eq_true rfl) (Nat.le_of_ble_eq_true rfl) (Nat.le_refl _) (by show 0 + A.slots.size ≤ A.slots.size; omega) (g := (mkF m 6 #[.val (.ref a), .val (.ref b)] [.null, .int (Int32.ofNat A.slots.size), .int (Int32.ofNat 0), .ref b, .ref a])) rfl (by rw [hml]; rfl) c2 (argsL := [.ref b, .int (Int32.ofNat 0), .int (Int32.ofNat A.slots.size), .null]) (rest := []) rfl rfl (by show 2 * 0 + 0 ≤ _; decide) (hb hbytes d6) (⟨rfl, hB.mv X0.warmed.alike hh0, f1.al X0.warmed.alike, f2.al X0.warmed.alike, hA.mv X0.warmed.alike hh0, s1.there X0.warmed.alike hh0, hz, l0, by omega, l2, fun i hi => by rw [Nat.zero_add]; exact hp i hi⟩)
  have e0 := Got.mv _ s₁ s _ _ hh0.symm (Vm.Alike.refl _) rfl E3
  obtain rfl := e0.1
  have c4 : Steps p.tables e below (s₁.setTop (entryFrame m #[.ref a, .ref b] 2)) (T3.setTop (mkF m 9 #[.val (.ref a), .val (.ref b)] [])) := g3
  exact ⟨T3, none, _, _, _, X3, by simp, rfl, by omega, (fun _ => rfl), e0, fun fs hl => c4.trans (X3.returnOut hexec hret (hb hbytes d9) hl)⟩
theorem pays {l : Launch} {R : Room} {p : Program} {e : Env} {below : List Frame} {s : State} {sargs : Array Value} {len W : Nat} (a : Addr) (D : Cell) (fV fC : Field) (b : Addr) (A : Cell) (z : Int32) (htab : tab.before sargs s = true) (hfr : 4 ≤ R.frames) (hlo : W + 65 ≤ R.locals) :
    Back l R p e below s sargs yN len W (fun A₁ a₁ => A₁.cells + 1 ≤ R.cells ∧ A₁.slots + A.slots.size ≤ R.slots ∧ P a D fV fC b A z a₁ A₁.U) (fun A₁ _ v₁ B₁ => E a D fV fC A v₁ A₁.U B₁.U ∧ B₁.locs = A₁.locs ++ [⟨a, fC.slot⟩, ⟨a, fV.slot⟩] ∧ B₁.cells = A₁.cells + 1 ∧ B₁.slots = A₁.slots + A.slots.size) :=
  (law l a D fV fC b A z).pays htab hfr (by omega)
end New1
end StrChars
namespace StrChars.Road
open Jvm Sem ClassFile Op Lib Jvm.Stand Jvm.Free Jvm.Free.XT
open Jvm.Lib.Cold (StaticIs)
abbrev ST : String := "java/lang/String"
/-- every table word that New1's law asks, flat -/
abbrev words : List Jvm.Cond := [.code New1.yN New1.yB 2 none, .initialized ST, .methodLink ST 27 New4.yN, .instanceMethod New4.yN,
  .code New4.yN New4.yB 6 none, .fieldLink ST 38 ST "COMPACT_STRINGS" "Z", .laysFinal ST ST "value" "[B", .fieldLink ST 9 ST "value" "[B", .laysFinal ST ST "coder" "B", .fieldLink ST 15 ST "coder" "B",
  .methodLink ST 1 Lib.objectInit, .instanceMethod Lib.objectInit, .code Lib.objectInit ⟨#[0xb1]⟩ 1 none, .methodLink ST 177 Cmp3.yN, .static Cmp3.yN, .methodLink ST 47 CodL.yN, .static CodL.yN,
  .code Cmp3.yN Cmp3.yB 6 (some (.array .byte)), .initialized U16, .arrayClass .byte, .methodLink U16 115 Cmp5.yN, .static Cmp5.yN, .code Cmp5.yN Cmp5.yB 7 (some .int), .code CodL.yN CodL.yB 2 (some .byte)]
theorem tab_of {a : Array Value} {s : State} (h : ∀ w ∈ words, w.before a s = true) : New1.tab.before a s = true := by
  have h5 : Cmp5.tab.before a s = true := unparts (wk h (.code Cmp5.yN Cmp5.yB 7 (some .int))) (wks h (.initialized Cmp5.yN.cls :: Cmp5.site))
  have hc : CodL.tab.before a s = true := unparts (wk h (.code CodL.yN CodL.yB 2 (some .byte))) (wks h (.initialized CodL.yN.cls :: CodL.site))
  have q5 : ∀ w ∈ Cmp5.tab :: words, w.before a s = true := fun w hw => (List.mem_cons.mp hw).elim (fun e => e ▸ h5) (h w)
  have h3 : Cmp3.tab.before a s = true := unparts (wk q5 (.code Cmp3.yN Cmp3.yB 6 (some (.array .byte)))) (wks q5 (.initialized Cmp3.yN.cls :: Cmp3.site))
  have q3 : ∀ w ∈ Cmp3.tab :: CodL.tab :: words, w.before a s = true := fun w hw => (List.mem_cons.mp hw).elim (fun e => e ▸ h3) fun hw => (List.mem_cons.mp hw).elim (fun e => e ▸ hc) (h w)
  have h4 : New4.tab.before a s = true := unparts (wk q3 (.code New4.yN New4.yB 6 none)) (wks q3 (.initialized New4.yN.cls :: New4.site))
  have q4 : ∀ w ∈ New4.tab :: words, w.before a s = true := fun w hw => (List.mem_cons.mp hw).elim (fun e => e ▸ h4) (h w)
  exact unparts (wk q4 (.code New1.yN New1.yB 2 none)) (wks q4 (.initialized New1.yN.cls :: New1.site))
/-- the words ride from the start Z to the walk's own state -/
theorem moved {Z s : State} {a0 args : Array Value} (hZ : Z.Warmed39 s.vm) (hw : ∀ d ∈ words, d.before a0 Z = true) : ∀ d ∈ words, d.before args s = true := fun d hd => by
  have q := hw d hd
  have t : ∀ d ∈ words, d = .arrayClass .byte ∨ (d.onTables && d.keepsFace) = true := by decide +kernel
  rcases t d hd with rfl | t
  · exact RoadKit.mvA hZ q
  · exact RoadKit.mv hZ q t
/-- WHAT COMES BACK, over the tables of the start Z: h the heap at the call, h' behind it -/
def Q (Z : State) (x : Addr) (A : Cell) (h : Heap) (v : Option Value) (h' : Heap) (L : List Loc) : Prop := v = none ∧ (∀ y ∈ L, y.base = x) ∧ RoadKit.Keep h h' [x] ∧ h'.size = h.size + 1 ∧ RoadKit.Exa Z h' x ST ∧ RoadKit.Fld Z h' x ST "value" "[B" (.ref h.size) ∧ RoadKit.Fld Z h' x ST "coder" "B" (.int 0) ∧
  (∃ V : Cell, RoadKit.Arr Z h' h.size V .byte ∧ V.vm = .none ∧ Z.vm.findClass "[B" = some V.cls ∧ V.slots.size = A.slots.size ∧ ∀ j, j < A.slots.size → V.slots[j]? = some (.int (lo8 (cv A j)))) ∧
  ∀ (O n d : String) (w : Value), RoadKit.Fld Z h x O n d w → RoadKit.slotOf Z O n d ≠ RoadKit.slotOf Z ST "value" "[B" → RoadKit.slotOf Z O n d ≠ RoadKit.slotOf Z ST "coder" "B" → RoadKit.Fld Z h' x O n d w
/-- **new String(chars) AT A CALL, IN THE ROAD'S FORM**: for specialBack behind newO: x the fresh String, b the char[] with the cell A -/
theorem back {p : Program} {l : Launch} {e : Env} {R : Room} {s : State} {args : Array Value} {below : List Frame} {len W : Nat} {Z : State} {a0 : Array Value} {h : Heap} (hZ : Z.Warmed39 s.vm) (hw : ∀ d ∈ words, d.before a0 Z = true) {kI : Nat} (wi : (Jvm.Cond.instantiable ST kI).before a0 Z = true)
    {x b : Addr} {A : Cell} {z : Int32} {v0 c0 : Value} (E : RoadKit.Exa Z h x ST) (V : RoadKit.Fld Z h x ST "value" "[B" v0) (C : RoadKit.Fld Z h x ST "coder" "B" c0) (K : RoadKit.Arr Z h b A .char) (hty : Typed .char A) (S : RoadKit.Sta Z h ST "COMPACT_STRINGS" "Z" (.int z)) (hz : ¬ z = 0)
    (l0 : 0 < A.slots.size) (l2 : A.slots.size ≤ 536870912) (hp : ∀ i, i < A.slots.size → ¬ 255 < cv A i) (hfr : 4 ≤ R.frames) (hlo : W + 65 ≤ R.locals) :
    Back l R p e below s args New1.yN len W (fun P a => a = #[.ref x, .ref b] ∧ P.U.heap = h ∧ P.cells + 1 ≤ R.cells ∧ P.slots + A.slots.size ≤ R.slots)
      (fun P _ v B => ∃ L, Q Z x A h v B.U.heap L ∧ B.locs = P.locs ++ L ∧ B.cells = P.cells + 1 ∧ B.slots = P.slots + A.slots.size) := by
  intro m meth c P g ig mk a X hg hsize hdg hW hn hp'
  obtain ⟨rfl, rfl, r1, r2⟩ := hp'
  have al : Z.vm.Alike P.U.vm := hZ.alike.trans X.warmed.alike
  obtain ⟨D, cfV, kV, iV, fV, hD, gV, stV, knV, obV, asV, slV⟩ := id V
  obtain ⟨D', cfC, kC, iC, fC, hD', gC, stC, -, -, asC, slC⟩ := id C
  cases hD.symm.trans hD'
  obtain ⟨D2, kD, e1, e2, e3, e4, e5⟩ := id E
  cases hD.symm.trans e1
  obtain ⟨c2, k2, i1, i2, i3, -⟩ := Cond.instantiable_spec wi
  cases e2.symm.trans i1
  cases e3.symm.trans i2
  obtain ⟨kU, u1, u2⟩ := al.2.2 _ _ e3
  have hB : Blank ST x D P.U := ⟨hD, ⟨knV, fun q hq => by rw [hq] at obV; cases obV⟩, by rw [al.findClass]; exact e2, kU, u1, by rw [u2]; exact i3, by rw [u2]; exact e5 i3⟩
  have F1 : Found ST "value" "[B" fV P.U := ⟨SBG.found_only al ⟨cfV, kV, iV, gV⟩, stV⟩
  have F2 : Found ST "coder" "B" fC P.U := ⟨SBG.found_only al ⟨cfC, kC, iC, gC⟩, stC⟩
  have hA : Ch b A P.U := ⟨⟨K.1, State.isArrayOf_alike al K.2.1, K.2.2, by omega⟩, hty⟩
  have hS : StaticIs P.U ST "COMPACT_STRINGS" "Z" (.int z) := by
    obtain ⟨cfS, iS, kS, fS, st, cS, t1, t2, t3, t4, t5, t6, t7⟩ := S
    exact StaticIs.there (s := { Z with heap := P.U.heap }) ⟨cfS, iS, kS, fS, st, cS, t1, t2, t3, t4, t5, (fun q => by rw [q] at t6; cases t6), t7⟩ al rfl
  obtain ⟨v, B, X', ⟨⟨hv, E', V', q1, q2, q3, q4, q5, q6, q7, q8, q9, q10, q11⟩, hl, hc, hs⟩, st⟩ := New1.pays x D fV fC b A z (tab_of (moved hZ hw)) hfr hlo m meth c P g ig mk _ X hg hsize hdg hW hn ⟨r1, r2, rfl, hB, F1, F2, hA, hS, hz, l0, l2, hp⟩
  have al' : Z.vm.Alike B.U.vm := hZ.alike.trans X'.warmed.alike
  have hsz : E'.slots.size = D.slots.size := by
    obtain ⟨-, -, -, kB, w1, w2, w3⟩ := q1
    obtain ⟨kB', y1, y2⟩ := al'.2.2 _ _ e3
    rw [q2.2.1] at w1
    cases w1.symm.trans y1
    rw [w3, e5 i3, y2]
  refine ⟨v, B, X', ⟨_, ⟨hv, ?_, ⟨by omega, fun y cy hy hn' => q10 y cy (by simpa using hn') hy, fun y cy hy => ?_⟩, q11, ⟨E', _, q1.1, by rw [q2.2.1]; exact e2, by rw [q2.2.1]; exact e3, by rw [q2.1]; exact obV, fun _ => by rw [hsz]; exact e5 i3⟩,
    ⟨E', cfV, kV, iV, fV, q1.1, gV, stV, by rw [q2.1]; exact knV, by rw [q2.1]; exact obV, by rw [q2.2.1]; exact asV, q3⟩, ⟨E', cfC, kC, iC, fC, q1.1, gC, stC, by rw [q2.1]; exact knV, by rw [q2.1]; exact obV, by rw [q2.2.1]; exact asC, q4⟩,
    ⟨V', ⟨q5.1, State.isArrayOf_alike al'.symm q5.2.1, q5.2.2.1⟩, q6, by rw [← al'.findClass]; exact q7, q8, fun j hj => by have := q9 j hj; rwa [Nat.zero_add] at this⟩, fun O n d w F n1 n2 => ?_⟩, hl, hc, hs⟩, st⟩
  · intro y hy
    simp only [List.mem_cons, List.not_mem_nil, or_false] at hy
    rcases hy with rfl | rfl <;> rfl
  · by_cases q : y = x
    · subst q
      cases hD.symm.trans hy
      exact ⟨E', q1.1, q2.2.1, q2.1, hsz⟩
    · exact ⟨cy, q10 y cy q hy, rfl, rfl, rfl⟩
  · obtain ⟨D3, cf, k, i, f, g1, g2, g3, g4, g5, g6, g7⟩ := F
    cases hD.symm.trans g1
    simp only [RoadKit.slotOf, g2, gV, gC, Option.map_some, Option.getD_some] at n1 n2
    exact ⟨E', cf, k, i, f, q1.1, g2, g3, by rw [q2.1]; exact g4, by rw [q2.1]; exact g5, by rw [q2.2.1]; exact g6, by rw [q2.2.2 f.slot (by simp [n1, n2])]; exact g7⟩
end StrChars.Road
namespace StrChars.Road
open Jvm Sem ClassFile Op Lib Jvm.Stand Jvm.Free Jvm.Free.XT
/-- WHAT COMES BACK, the byte[] as a list of values -/
def QA (Z : State) (x : Addr) (zn : Int32) (cs : List Int32) (h : Heap) (v : Option Value) (h' : Heap) (L : List Loc) : Prop := v = none ∧ (∀ y ∈ L, y.base = x) ∧ RoadKit.Keep h h' [x] ∧ h'.size = h.size + 1 ∧ RoadKit.Exa Z h' x ST ∧ RoadKit.Fld Z h' x ST "value" "[B" (.ref h.size) ∧ RoadKit.Fld Z h' x ST "coder" "B" (.int 0) ∧
  (∃ kb, Z.vm.findClass "[B" = some kb ∧ RoadKit.Arv Z h' h.size kb .byte zn (cs.map fun c => .int (lo8 c)) (.int 0)) ∧
  ∀ (O n d : String) (w : Value), RoadKit.Fld Z h x O n d w → RoadKit.slotOf Z O n d ≠ RoadKit.slotOf Z ST "value" "[B" → RoadKit.slotOf Z O n d ≠ RoadKit.slotOf Z ST "coder" "B" → RoadKit.Fld Z h' x O n d w
/-- **new String(chars) AT A CALL, THE ARRAYS AS LISTS**: the char[] at b holds cs, not empty, no char above 255 -/
theorem backArv {p : Program} {l : Launch} {e : Env} {R : Room} {s : State} {args : Array Value} {below : List Frame} {len W : Nat} {Z : State} {a0 : Array Value} {h : Heap} (hZ : Z.Warmed39 s.vm) (hw : ∀ d ∈ words, d.before a0 Z = true) {kI : Nat} (wi : (Jvm.Cond.instantiable ST kI).before a0 Z = true)
    {x b : Addr} {k : ClassId} {zn z : Int32} {cs : List Int32} {dv v0 c0 : Value} (E : RoadKit.Exa Z h x ST) (V : RoadKit.Fld Z h x ST "value" "[B" v0) (C : RoadKit.Fld Z h x ST "coder" "B" c0) (K : RoadKit.Arv Z h b k .char zn (cs.map Value.int) dv) (S : RoadKit.Sta Z h ST "COMPACT_STRINGS" "Z" (.int z)) (hz : ¬ z = 0)
    (hlen : zn.toNatClampNeg = cs.length) (h0 : 0 < cs.length) (hbig : cs.length ≤ 536870912) (hall : ∀ c ∈ cs, ¬ 255 < c) (hfr : 4 ≤ R.frames) (hlo : W + 65 ≤ R.locals) :
    Back l R p e below s args New1.yN len W (fun P a => a = #[.ref x, .ref b] ∧ P.U.heap = h ∧ P.cells + 1 ≤ R.cells ∧ P.slots + cs.length ≤ R.slots)
      (fun P _ v B => ∃ L, QA Z x zn cs h v B.U.heap L ∧ B.locs = P.locs ++ L ∧ B.cells = P.cells + 1 ∧ B.slots = P.slots + cs.length) := by
  obtain ⟨A, K1, K2, K3, K4, K5, K6⟩ := K
  have e : A.slots.size = cs.length := K3.trans hlen
  have hat : ∀ (i : Nat) (hi : i < cs.length), A.slots[i]? = some (.int cs[i]) := fun i hi => by rw [K5 i (by omega)]; simp [List.getD_eq_getElem?_getD, hi]
  have hcv : ∀ (i : Nat) (hi : i < cs.length), cv A i = cs[i] := fun i hi => by unfold cv; rw [hat i hi]
  have hty : Typed .char A := fun i v hv => by
    have hi : i < A.slots.size := (Array.getElem?_eq_some_iff.mp hv).1
    have q := K5 i hi
    rw [hv] at q
    rw [Option.some.inj q]
    exact K6 i hi
  refine Back.mono (back hZ hw wi E V C K1 hty S hz (by omega) (by omega) (fun i hi => by rw [hcv i (by omega)]; exact hall _ (List.getElem_mem _)) hfr hlo) (fun P a hp => ⟨hp.1, hp.2.1, hp.2.2.1, by rw [e]; exact hp.2.2.2⟩) (fun P a v B hp hq => ?_)
  obtain ⟨L, ⟨q1, q2, q3, q4, q5, q6, q7, ⟨V', v1, v2, v3, v4, v5⟩, q9⟩, hl, hc, hs⟩ := hq
  refine ⟨L, ⟨q1, q2, q3, q4, q5, q6, q7, ⟨V'.cls, v3, V', v1, rfl, by rw [v4, e, hlen], K4, fun i hi => ?_, fun i hi => ?_⟩, q9⟩, hl, hc, by rw [hs, e]⟩
  · have hi' : i < cs.length := by omega
    rw [v5 i (by omega), hcv i hi']; simp [List.getD_eq_getElem?_getD, hi']
  · have hi' : i < cs.length := by omega
    simp only [List.getD_eq_getElem?_getD, List.getElem?_map, List.getElem?_eq_getElem hi', Option.map_some, Option.getD_some]
    exact fits_lo8 _
end StrChars.Road
namespace StrChars.Road
open Jvm Sem ClassFile Op Lib Jvm.Stand Jvm.Free Jvm.Free.XT
/-- WHAT COMES BACK, in the writer's own shape -/
def QV (Z : State) (x : Addr) (N : Int32) (bs : List Int32) (h : Heap) (n0 : Nat) (v : Option Value) (h' : Heap) (L : List Loc) : Prop := v = none ∧ RoadKit.Fr n0 L ∧ RoadKit.Keep h h' [x] ∧ RoadKit.Exa Z h' x ST ∧ RoadKit.Fld Z h' x ST "coder" "B" (.int 0) ∧
  ∃ (t : Addr) (kb : ClassId), n0 ≤ t ∧ h.size ≤ t ∧ ¬ t = x ∧ RoadKit.Fld Z h' x ST "value" "[B" (.ref t) ∧ RoadKit.Arv Z h' t kb .byte N (bs.map Value.int) (.int 0)
/-- **new String(chars) AT A CALL, FOR THE WRITER**: a char[] of n known ints, each 0 to 255 -/
theorem backV {p : Program} {l : Launch} {e : Env} {R : Room} {s : State} {args : Array Value} {below : List Frame} {len W : Nat} {Z : State} {a0 : Array Value} {h : Heap} (hZ : Z.Warmed39 s.vm) (hw : ∀ d ∈ words, d.before a0 Z = true) {kI : Nat} (wi : (Jvm.Cond.instantiable ST kI).before a0 Z = true)
    {x b : Addr} {kC : ClassId} {cs bs : List Int32} {d v0 c0 : Value} {z N : Int32} {n n0 : Nat} (hx0 : n0 ≤ x) (hh0 : n0 ≤ h.size) (E : RoadKit.Exa Z h x ST) (V : RoadKit.Fld Z h x ST "value" "[B" v0) (C : RoadKit.Fld Z h x ST "coder" "B" c0) (K : RoadKit.Arv Z h b kC .char N (cs.map Value.int) d) (S : RoadKit.Sta Z h ST "COMPACT_STRINGS" "Z" (.int z)) (hz : ¬ z = 0)
    (hn : cs.length = n) (hN : N = Int32.ofNat n) (l0 : 0 < n) (l2 : n ≤ 4000) (hp : ∀ c ∈ cs, ¬ c < 0 ∧ ¬ (255 : Int32) < c) (hb : bs = cs.map (fun c => c.toInt8.toInt32)) (hfr : 4 ≤ R.frames) (hlo : W + 65 ≤ R.locals) :
    Back l R p e below s args (⟨"java/lang/String", "<init>", "([C)V"⟩ : MethodName) len W (fun P a => a = #[.ref x, .ref b] ∧ P.U.heap = h ∧ P.cells + 1 ≤ R.cells ∧ P.slots + n ≤ R.slots)
      (fun P _ v B => ∃ L, QV Z x N bs h n0 v B.U.heap L ∧ B.locs = P.locs ++ L ∧ B.cells = P.cells + 1 ∧ B.slots = P.slots + n) := by
  subst hn hN hb
  refine Back.mono (backArv hZ hw wi E V C K S hz (n32 (by omega)) l0 (by omega) (fun c hc => (hp c hc).2) hfr hlo) (fun P a hp => hp) (fun P a v B hp hq => ?_)
  obtain ⟨L, ⟨q1, q2, q3, q4, q5, q6, q7, ⟨kb, v1, v2⟩, q9⟩, hl, hc, hs⟩ := hq
  exact ⟨L, ⟨q1, fun y hy => by rw [q2 y hy]; exact hx0, q3, q5, q7, h.size, kb, hh0, Nat.le_refl _, Nat.ne_of_gt E.lt, q6, by rw [List.map_map]; exact v2⟩, hl, hc, hs⟩
end StrChars.Road
namespace StrChars
open Jvm Sem ClassFile Op Lib Jvm.Stand Jvm.Free.XT Jvm.Free.ALB Jvm.Free.JM Jvm.Free
open Jvm.Lib.Cold (StaticIs)
def hi8 (x : Int32) : Int32 := lo8 (x >>> ((8 : Int32) &&& 31))
theorem shr0 (c : Int32) : c >>> ((0 : Int32) &&& 31) = c := by
  have e : ((0 : Int32) &&& 31) = 0 := by decide
  rw [e]
  apply Int32.toBitVec_inj.mp
  rw [Int32.toBitVec_shiftRight]
  have e1 : ((0 : Int32).toBitVec.smod 32) = 0#32 := by decide
  rw [e1, BitVec.sshiftRight_eq']
  exact BitVec.sshiftRight_zero
end StrChars
namespace StrChars
open Jvm Sem ClassFile Op Lib Jvm.Stand Jvm.Free.XT Jvm.Free.ALB Jvm.Free.JM Jvm.Free
open Jvm.Lib.Cold (StaticIs)
theorem shr1 {n : Nat} (h : 2 * n < 2 ^ 31) : Int32.ofNat (2 * n) >>> ((1 : Int32) &&& 31) = Int32.ofNat n := by
  have e : ((1 : Int32) &&& 31) = 1 := by decide
  rw [e]
  apply Int32.toBitVec_inj.mp
  rw [Int32.toBitVec_shiftRight]
  have e1 : ((1 : Int32).toBitVec.smod 32) = 1#32 := by decide
  have hm : (BitVec.ofNat 32 (2 * n)).toNat = 2 * n := by rw [BitVec.toNat_ofNat, Nat.mod_eq_of_lt (by omega)]
  rw [e1, BitVec.sshiftRight_eq']
  apply BitVec.eq_of_toNat_eq
  show ((BitVec.ofNat 32 (2 * n)).sshiftRight 1).toNat = (BitVec.ofNat 32 n).toNat
  rw [BitVec.toNat_sshiftRight_of_msb_false (by rw [BitVec.msb_eq_false_iff_two_mul_lt, hm]; omega), hm, BitVec.toNat_ofNat, Nat.shiftRight_eq_div_pow]
  omega
/-- the array's cell V codes the n chars f 0 .. f (n - 1) by the coder cd, as the JDK does: coder 1 just where some char is above 255 -/
def Cod (cd : Int32) (n : Nat) (f : Nat → Int32) (V : Cell) : Prop := (cd = 0 ∧ V.slots.size = n ∧ ∀ j, j < n → V.slots[j]? = some (.int (lo8 (f j))) ∧ ¬ 255 < f j) ∨ (cd = 1 ∧ V.slots.size = 2 * n ∧ (∀ j, j < n → V.slots[2 * j]? = some (.int (lo8 (f j))) ∧ V.slots[2 * j + 1]? = some (.int (hi8 (f j)))) ∧ ∃ j, j < n ∧ 255 < f j)
theorem Cod.cd {cd : Int32} {n : Nat} {f : Nat → Int32} {V : Cell} (h : Cod cd n f V) : cd = 0 ∨ cd = 1 := h.imp (fun q => q.1) fun q => q.1
theorem Cod.len {cd : Int32} {n : Nat} {f : Nat → Int32} {V : Cell} (h : Cod cd n f V) (hs : V.slots.size < 2 ^ 31) : Int32.ofNat V.slots.size >>> (cd &&& 31) = Int32.ofNat n := by
  rcases h with ⟨rfl, h, -⟩ | ⟨rfl, h, -⟩
  · rw [shr0, h]
  · rw [h, shr1 (by omega)]
/-- **x is a String of the n chars f 0 .. f (n - 1)**, Latin-1 or UTF-16; its array at t has the cell V -/
def Txt (x t : Addr) (V : Cell) (cd : Int32) (n : Nat) (f : Nat → Int32) (U : State) : Prop := Exact "java/lang/String" x U ∧ Has x "java/lang/String" "value" "[B" (.ref t) U ∧ Has x "java/lang/String" "coder" "B" (.int cd) U ∧ XT.Arr .byte t V U ∧ Cod cd n f V ∧ ∀ j, j < n → ¬ f j < 0 ∧ ¬ 65535 < f j
theorem Txt.mv {x t : Addr} {V : Cell} {cd : Int32} {n : Nat} {f : Nat → Int32} {U U' : State} (h : Txt x t V cd n f U) (hal : U.vm.Alike U'.vm) (hh : U'.heap = U.heap) : Txt x t V cd n f U' := ⟨h.1.mv hal hh, h.2.1.mv hal hh, h.2.2.1.mv hal hh, h.2.2.2.1.mv hal hh, h.2.2.2.2⟩
namespace Cdr
def yN : MethodName := ⟨"java/lang/String", "coder", "()B"⟩
abbrev yB : ByteArray := jdk_42_method_152_code
theorem d0 : decode yB 0 = .ok (.getstatic 38, 3) := by decide +kernel
theorem d3 : decode yB 3 = .ok (.ifCond (.eq) 10, 3) := by decide +kernel
theorem d6 : decode yB 6 = .ok (.aload_n 0, 1) := by decide +kernel
theorem d7 : decode yB 7 = .ok (.getfield 15, 3) := by decide +kernel
theorem d10 : decode yB 10 = .ok (.goto 4, 3) := by decide +kernel
theorem d14 : decode yB 14 = .ok (.ireturn, 1) := by decide +kernel
def site : List Cond := [.fieldLink "java/lang/String" 38 "java/lang/String" "COMPACT_STRINGS" "Z", .fieldLink "java/lang/String" 15 "java/lang/String" "coder" "B"]
def tab : Cond := tabOf yN yB 1 (some .byte) site
def P (x : Addr) (cd z : Int32) (args : Array Value) (s : State) : Prop := args = #[.ref x] ∧ Has x "java/lang/String" "coder" "B" (.int cd) s ∧ (cd = 0 ∨ cd = 1) ∧ StaticIs s "java/lang/String" "COMPACT_STRINGS" "Z" (.int z) ∧ ¬ z = 0
def E (cd : Int32) (r : Option Value) (s u : State) : Prop := XT.PureE (some (.int cd)) r s u
theorem law (l : Launch) (x : Addr) (cd z : Int32) : Law l yN 1 0 0 0 yB 1 (some .byte) site (P x cd z) (E cd) [] 0 0 := by
  refine Law.of_walk (plainFor_of_name (by decide +kernel)) (by decide +kernel) (by decide +kernel) (by decide) (fun _ _ h => by rw [h.1]; rfl) (fun _ U U' hal hh h => ⟨h.1, h.2.1.mv hal hh, h.2.2.1, h.2.2.2.1.there hal hh, h.2.2.2.2⟩) (fun r U U' V V' h1 hal h2 h => XT.PureE.mv r U U' V V' h1 hal h2 h) ?_
  intro p e s m args below meth c s₁ X0 hexec hbytes hml hret hlk hnm hown hh0 W hP
  obtain ⟨rfl, hx, hc, s1, hz⟩ := hP
  have c1 : Steps p.tables e below (s₁.setTop (entryFrame m #[.ref x] 1)) (s₁.setTop (mkF m 0 #[.val (.ref x)] [])) := entry rfl
  obtain ⟨T2, X2, q2, st2⟩ := X0.sget hexec hown (wk W (.fieldLink "java/lang/String" 38 "java/lang/String" "COMPACT_STRINGS" "Z")) s1 (fun _ _ h => by rw [hh0]; exact h) (g := (mkF m 0 #[.val (.ref x)] [])) rfl (hb hbytes d0)
  have hh2 := q2.trans hh0
  have c3 : Steps p.tables e below (s₁.setTop (entryFrame m #[.ref x] 1)) (T2.setTop (mkF m 7 #[.val (.ref x)] [.ref x])) := (c1.trans (st2 _ (Steps.refl _))).trans (by
    refine XS.ifNo X2.here hexec rfl (hb hbytes d3) rfl (i0_eq_f hz) ?_
    refine XS.aloadN X2.here hexec rfl (hb hbytes d6) rfl rfl ?_
    exact Steps.refl _)
  obtain ⟨T4, X4, q4, st4⟩ := X2.hget hexec hown (wk W (.fieldLink "java/lang/String" 15 "java/lang/String" "coder" "B")) (hx.mv X2.warmed.alike hh2) (g := (mkF m 7 #[.val (.ref x)] [.ref x])) rfl (rest := []) rfl (hb hbytes d7)
  have c5 : Steps p.tables e below (s₁.setTop (entryFrame m #[.ref x] 1)) (T4.setTop (mkF m 14 #[.val (.ref x)] [.int cd])) := (c3.trans (st4 _ (Steps.refl _))).trans (by
    refine XS.goto X4.here hexec rfl (pc0 := 10) rfl (hb hbytes d10) (by decide) rfl ?_
    exact Steps.refl _)
  exact ⟨T4, some (.int cd), _, _, _, X4, rfl, rfl, rfl, (fun h => by cases h), ⟨rfl, q4.trans hh2⟩, fun fs hl => c5.trans (X4.ireturnOut hexec hret (by rcases hc with rfl | rfl <;> rfl) (Or.inr (Or.inr (Or.inl rfl))) (hb hbytes d14) hl)⟩
end Cdr
namespace Len
def yN : MethodName := ⟨"java/lang/String", "length", "()I"⟩
abbrev yB : ByteArray := jdk_42_method_54_code
theorem d0 : decode yB 0 = .ok (.aload_n 0, 1) := by decide +kernel
theorem d1 : decode yB 1 = .ok (.getfield 9, 3) := by decide +kernel
theorem d4 : decode yB 4 = .ok (.arraylength, 1) := by decide +kernel
theorem d5 : decode yB 5 = .ok (.aload_n 0, 1) := by decide +kernel
theorem d6 : decode yB 6 = .ok (.invokevirtual 335, 3) := by decide +kernel
theorem d9 : decode yB 9 = .ok (.ishr, 1) := by decide +kernel
theorem d10 : decode yB 10 = .ok (.ireturn, 1) := by decide +kernel
def site : List Cond := [.fieldLink "java/lang/String" 9 "java/lang/String" "value" "[B", Cdr.tab] ++ virtW "java/lang/String" 335 "java/lang/String" Cdr.yN Cdr.yN
def tab : Cond := tabOf yN yB 1 (some .int) site
def P (x t : Addr) (V : Cell) (cd : Int32) (n : Nat) (f : Nat → Int32) (z : Int32) (args : Array Value) (s : State) : Prop := args = #[.ref x] ∧ Txt x t V cd n f s ∧ StaticIs s "java/lang/String" "COMPACT_STRINGS" "Z" (.int z) ∧ ¬ z = 0
def E (n : Nat) (r : Option Value) (s u : State) : Prop := XT.PureE (some (.int (Int32.ofNat n))) r s u
/-- length() of a String of n chars, in either coding -/
theorem law (l : Launch) (x t : Addr) (V : Cell) (cd : Int32) (n : Nat) (f : Nat → Int32) (z : Int32) : Law l yN 1 0 1 13 yB 1 (some .int) site (P x t V cd n f z) (E n) [] 0 0 := by
  refine Law.of_walk (plainFor_of_name (by decide +kernel)) (by decide +kernel) (by decide +kernel) (by decide) (fun _ _ h => by rw [h.1]; rfl) (fun _ U U' hal hh h => ⟨h.1, h.2.1.mv hal hh, h.2.2.1.there hal hh, h.2.2.2⟩) (fun r U U' V V' h1 hal h2 h => XT.PureE.mv r U U' V V' h1 hal h2 h) ?_
  intro p e s m args below meth c s₁ X0 hexec hbytes hml hret hlk hnm hown hh0 W hP
  obtain ⟨rfl, hx, s1, hz⟩ := hP
  have v31 := hx.2.2.2.1.2.2.2
  have c1 : Steps p.tables e below (s₁.setTop (entryFrame m #[.ref x] 1)) (s₁.setTop (mkF m 1 #[.val (.ref x)] [.ref x])) := Steps.trans (entry rfl) (by
    show Steps p.tables e below (s₁.setTop (mkF m 0 #[.val (.ref x)] [])) _
    refine XS.aloadN X0.here hexec rfl (hb hbytes d0) rfl rfl ?_
    exact Steps.refl _)
  obtain ⟨T2, X2, q2, st2⟩ := X0.hget hexec hown (wk W (.fieldLink "java/lang/String" 9 "java/lang/String" "value" "[B")) (hx.mv X0.warmed.alike hh0).2.1 (g := (mkF m 1 #[.val (.ref x)] [.ref x])) rfl (rest := []) rfl (hb hbytes d1)
  have hh2 := q2.trans hh0
  have hx2 := hx.mv X2.warmed.alike hh2
  have c3 : Steps p.tables e below (s₁.setTop (entryFrame m #[.ref x] 1)) (T2.setTop (mkF m 6 #[.val (.ref x)] [.ref x, .int (Int32.ofNat V.slots.size)])) := (c1.trans (st2 _ (Steps.refl _))).trans (by
    refine X2.alen hexec hx2.2.2.2.1 rfl rfl (hb hbytes d4) ?_
    refine XS.aloadN X2.here hexec rfl (hb hbytes d5) rfl rfl ?_
    exact Steps.refl _)
  obtain ⟨v4, T4, X4, E4, g4⟩ := X2.callV hexec (Cdr.law l x cd z) hown (wks W (virtW "java/lang/String" 335 "java/lang/String" Cdr.yN Cdr.yN)) rfl (by decide) (wk W Cdr.tab) (W := 1) (Nat.le_of_ble_eq_true rfl) (Nat.le_of_ble_eq_true rfl) (Nat.le_refl _) (Nat.le_refl _) (hx2.1.fc X2.warmed.alike) hx2.1.is (g := (mkF m 6 #[.val (.ref x)] [.ref x, .int (Int32.ofNat V.slots.size)])) rfl (by rw [hml]; rfl) c3 (argsL := []) (rest := [.int (Int32.ofNat V.slots.size)]) rfl rfl (by show 2 * 0 + (1 + 0) ≤ _; decide) (hb hbytes d6) (⟨rfl, hx2.2.2.1, hx.2.2.2.2.1.cd, s1.there X2.warmed.alike hh2, hz⟩)
  obtain ⟨rfl, q4⟩ := E4
  have c5 : Steps p.tables e below (s₁.setTop (entryFrame m #[.ref x] 1)) (T4.setTop (mkF m 10 #[.val (.ref x)] [.int (Int32.ofNat V.slots.size >>> (cd &&& 31))])) := Steps.trans g4 (by
    refine ishr X4.here hexec rfl (hb hbytes d9) rfl ?_
    exact Steps.refl _)
  rw [hx.2.2.2.2.1.len v31] at c5
  exact ⟨T4, some (.int (Int32.ofNat n)), _, _, _, X4, rfl, rfl, rfl, (fun h => by cases h), ⟨rfl, q4.trans hh2⟩, fun fs hl => c5.trans (X4.ireturnOut hexec hret rfl (Or.inl rfl) (hb hbytes d10) hl)⟩
theorem pays {l : Launch} {R : Room} {p : Program} {e : Env} {below : List Frame} {s : State} {sargs : Array Value} {len W : Nat} (x t : Addr) (V : Cell) (cd : Int32) (n : Nat) (f : Nat → Int32) (z : Int32) (htab : tab.before sargs s = true) (hfr : 2 ≤ R.frames) (hlo : W + 25 ≤ R.locals) :
    Back l R p e below s sargs yN len W (fun A₁ a₁ => A₁.cells + 0 ≤ R.cells ∧ A₁.slots + 0 ≤ R.slots ∧ P x t V cd n f z a₁ A₁.U) (fun A₁ _ v₁ B₁ => E n v₁ A₁.U B₁.U ∧ B₁.locs = A₁.locs ++ [] ∧ B₁.cells = A₁.cells + 0 ∧ B₁.slots = A₁.slots + 0) :=
  (law l x t V cd n f z).pays htab hfr (by omega)
end Len
end StrChars
namespace StrChars.Road
open Jvm Sem ClassFile Op Lib Jvm.Stand Jvm.Free Jvm.Free.XT
open Jvm.Lib.Cold (StaticIs)
theorem consq {a : Array Value} {s : State} {c : Jvm.Cond} {L : List Jvm.Cond} (h0 : c.before a s = true) (h : ∀ w ∈ L, w.before a s = true) : ∀ w ∈ c :: L, w.before a s = true := fun w hw => (List.mem_cons.mp hw).elim (fun e => e ▸ h0) (h w)
/-- the words of String.length(), either coding -/
abbrev wordsLen : List Jvm.Cond := [.code Len.yN Len.yB 1 (some .int), .initialized ST, .fieldLink ST 9 ST "value" "[B", .fieldLink ST 38 ST "COMPACT_STRINGS" "Z", .fieldLink ST 15 ST "coder" "B", .code Cdr.yN Cdr.yB 1 (some .byte), .methodLink ST 335 Cdr.yN, .declares Cdr.yN, .selects ST Cdr.yN Cdr.yN, .instanceMethod Cdr.yN]
theorem tabLen_of {a : Array Value} {s : State} (h : ∀ w ∈ wordsLen, w.before a s = true) : Len.tab.before a s = true := by
  have hc : Cdr.tab.before a s = true := unparts (wk h (.code Cdr.yN Cdr.yB 1 (some .byte))) (wks h (.initialized Cdr.yN.cls :: Cdr.site))
  have q := consq hc h
  exact unparts (wk q (.code Len.yN Len.yB 1 (some .int))) (wks q (.initialized Len.yN.cls :: Len.site))
theorem movedLen {Z s : State} {a0 args : Array Value} (hZ : Z.Warmed39 s.vm) (hw : ∀ d ∈ wordsLen, d.before a0 Z = true) : ∀ d ∈ wordsLen, d.before args s = true := fun d hd => by
  have q := hw d hd
  have t : ∀ d ∈ wordsLen, d = .arrayClass .byte ∨ (d.onTables && d.keepsFace) = true := by decide +kernel
  rcases t d hd with rfl | t
  · exact RoadKit.mvA hZ q
  · exact RoadKit.mv hZ q t
/-- the bytes of the chars cs, low before high -/
def wideBytes : List Int32 → List Value
  | [] => []
  | c :: cs => .int (lo8 c) :: .int (hi8 c) :: wideBytes cs
theorem wide_lo (d : Value) : ∀ (cs : List Int32) (j : Nat), j < cs.length → (wideBytes cs).getD (2 * j) d = .int (lo8 (cs.getD j 0))
  | [], j, h => absurd h (Nat.not_lt_zero j)
  | c :: cs, 0, _ => rfl
  | c :: cs, j + 1, h => by
    have q := wide_lo d cs j (by simpa using h)
    rw [show 2 * (j + 1) = 2 * j + 1 + 1 from by omega]
    simpa [wideBytes] using q
theorem wide_hi (d : Value) : ∀ (cs : List Int32) (j : Nat), j < cs.length → (wideBytes cs).getD (2 * j + 1) d = .int (hi8 (cs.getD j 0))
  | [], j, h => absurd h (Nat.not_lt_zero j)
  | c :: cs, 0, _ => rfl
  | c :: cs, j + 1, h => by
    have q := wide_hi d cs j (by simpa using h)
    rw [show 2 * (j + 1) + 1 = 2 * j + 1 + 1 + 1 from by omega]
    simpa [wideBytes] using q
theorem low_at (d : Value) (cs : List Int32) (j : Nat) (h : j < cs.length) : (cs.map fun c => Value.int (lo8 c)).getD j d = .int (lo8 (cs.getD j 0)) := by
  simp [List.getD_eq_getElem?_getD, h]
/-- an array of N2 bytes vs codes the chars cs by the coder cd -/
def CodA (cs : List Int32) (cd N2 : Int32) (vs : List Value) : Prop := (cd = 0 ∧ N2 = Int32.ofNat cs.length ∧ vs = (cs.map fun c => Value.int (lo8 c)) ∧ ∀ c ∈ cs, ¬ 255 < c) ∨ (cd = 1 ∧ N2 = Int32.ofNat (2 * cs.length) ∧ vs = wideBytes cs ∧ ∃ c ∈ cs, 255 < c)
theorem CodA.cod {cs : List Int32} {cd N2 : Int32} {vs : List Value} {V : Cell} (h : CodA cs cd N2 vs) (hn : 2 * cs.length < 2 ^ 31) (hs : V.slots.size = N2.toNatClampNeg) (hv : RoadKit.Has V vs (.int 0)) : Cod cd cs.length (fun j => cs.getD j 0) V := by
  rcases h with ⟨rfl, rfl, rfl, h⟩ | ⟨rfl, rfl, rfl, c, hc, hw⟩
  · rw [n32 (by omega)] at hs
    exact Or.inl ⟨rfl, hs, fun j hj => ⟨by rw [hv j (by omega), low_at _ _ _ hj], by
      have e : cs.getD j 0 = cs[j] := by simp [List.getD_eq_getElem?_getD, hj]
      show ¬ 255 < cs.getD j 0
      rw [e]; exact h _ (List.getElem_mem _)⟩⟩
  · rw [n32 (by omega)] at hs
    obtain ⟨j, hj, rfl⟩ := List.getElem_of_mem hc
    exact Or.inr ⟨rfl, hs, fun j hj => ⟨by rw [hv _ (by omega), wide_lo _ _ _ hj], by rw [hv _ (by omega), wide_hi _ _ _ hj]⟩, j, hj, by
      have e : cs.getD j 0 = cs[j] := by simp [List.getD_eq_getElem?_getD, hj]
      show 255 < cs.getD j 0
      rw [e]; exact hw⟩
/-- an object of exactly java/lang/String, its two fields found: as the laws ask it -/
theorem strObj {Z U : State} {a0 : Array Value} {kI : Nat} (wi : (Jvm.Cond.instantiable ST kI).before a0 Z = true) (al : Z.vm.Alike U.vm) {x : Addr} {v0 c0 : Value} (E : RoadKit.Exa Z U.heap x ST) (V : RoadKit.Fld Z U.heap x ST "value" "[B" v0) (C : RoadKit.Fld Z U.heap x ST "coder" "B" c0) :
    ∃ (D : Cell) (fV fC : Field), Blank ST x D U ∧ Found ST "value" "[B" fV U ∧ Found ST "coder" "B" fC U ∧ D.slots[fV.slot]? = some v0 ∧ D.slots[fC.slot]? = some c0 ∧ RoadKit.slotOf Z ST "value" "[B" = fV.slot ∧ RoadKit.slotOf Z ST "coder" "B" = fC.slot := by
  obtain ⟨D, cfV, kV, iV, fV, hD, gV, stV, knV, obV, asV, slV⟩ := V
  obtain ⟨D', cfC, kC, iC, fC, hD', gC, stC, -, -, asC, slC⟩ := C
  cases hD.symm.trans hD'
  obtain ⟨D2, kD, e1, e2, e3, e4, e5⟩ := E
  cases hD.symm.trans e1
  obtain ⟨c2, k2, i1, i2, i3, -⟩ := Cond.instantiable_spec wi
  cases e2.symm.trans i1
  cases e3.symm.trans i2
  obtain ⟨kU, u1, u2⟩ := al.2.2 _ _ e3
  exact ⟨D, fV, fC, ⟨hD, ⟨knV, fun q hq => by rw [hq] at obV; cases obV⟩, by rw [al.findClass]; exact e2, kU, u1, by rw [u2]; exact i3, by rw [u2]; exact e5 i3⟩, ⟨SBG.found_only al ⟨cfV, kV, iV, gV⟩, stV⟩, ⟨SBG.found_only al ⟨cfC, kC, iC, gC⟩, stC⟩, slV, slC, by simp [RoadKit.slotOf, gV], by simp [RoadKit.slotOf, gC]⟩
theorem sta_is {Z U : State} (al : Z.vm.Alike U.vm) {C n d : String} {v : Value} (S : RoadKit.Sta Z U.heap C n d v) : StaticIs U C n d v := by
  obtain ⟨cfS, iS, kS, fS, st, cS, t1, t2, t3, t4, t5, t6, t7⟩ := S
  exact StaticIs.there (s := { Z with heap := U.heap }) ⟨cfS, iS, kS, fS, st, cS, t1, t2, t3, t4, t5, (fun q => by rw [q] at t6; cases t6), t7⟩ al rfl
/-- **length() OF SUCH A STRING** -/
theorem lenW {p : Program} {l : Launch} {e : Env} {R : Room} {s : State} {args : Array Value} {below : List Frame} {len W : Nat} {Z : State} {a0 : Array Value} {h : Heap} (hZ : Z.Warmed39 s.vm) (hw : ∀ d ∈ wordsLen, d.before a0 Z = true) {kI : Nat} (wi : (Jvm.Cond.instantiable ST kI).before a0 Z = true)
    {x t : Addr} {kb : ClassId} {cs : List Int32} {cd N2 z : Int32} {vs : List Value} (E : RoadKit.Exa Z h x ST) (V : RoadKit.Fld Z h x ST "value" "[B" (.ref t)) (C : RoadKit.Fld Z h x ST "coder" "B" (.int cd)) (K : RoadKit.Arv Z h t kb .byte N2 vs (.int 0)) (hc : CodA cs cd N2 vs) (hb : ∀ c ∈ cs, ¬ c < 0 ∧ ¬ (65535 : Int32) < c)
    (S : RoadKit.Sta Z h ST "COMPACT_STRINGS" "Z" (.int z)) (hz : ¬ z = 0) (l2 : cs.length ≤ 4000) (hfr : 2 ≤ R.frames) (hlo : W + 25 ≤ R.locals) :
    Back l R p e below s args (⟨"java/lang/String", "length", "()I"⟩ : MethodName) len W (fun P a => a = #[.ref x] ∧ P.U.heap = h ∧ P.cells + 0 ≤ R.cells ∧ P.slots + 0 ≤ R.slots)
      (fun P _ v B => ∃ L, (v = some (.int (Int32.ofNat cs.length)) ∧ L = [] ∧ B.U.heap = h) ∧ B.locs = P.locs ++ L ∧ B.cells = P.cells + 0 ∧ B.slots = P.slots + 0) := by
  obtain ⟨A, K1, K2, K3, K4, K5, K6⟩ := K
  have hcod := hc.cod (by omega) K3 K5
  intro m meth c P g ig mk a X hg hsize hdg hW hn hp'
  obtain ⟨rfl, rfl, r1, r2⟩ := hp'
  have al : Z.vm.Alike P.U.vm := hZ.alike.trans X.warmed.alike
  obtain ⟨D, fV, fC, hB, F1, F2, g1, g2, -, -⟩ := strObj wi al E V C
  have hx : Txt x t A cd cs.length (fun j => cs.getD j 0) P.U := ⟨⟨_, hB.2.2.1, D, hB.1, rfl, by cases q : D.vm <;> first | rfl | exact absurd q (hB.2.1.2 _)⟩, Has.of hB F1 g1, Has.of hB F2 g2, ⟨K1.1, State.isArrayOf_alike al K1.2.1, K1.2.2, by rcases hcod with ⟨-, q, -⟩ | ⟨-, q, -⟩ <;> omega⟩, hcod, fun j hj => by
    have e : cs.getD j 0 = cs[j] := by simp [List.getD_eq_getElem?_getD, hj]
    show ¬ cs.getD j 0 < 0 ∧ ¬ 65535 < cs.getD j 0
    rw [e]; exact hb _ (List.getElem_mem _)⟩
  obtain ⟨v, B, X', ⟨⟨hv, hh⟩, hl, hk, hs⟩, st⟩ := Len.pays x t A cd cs.length (fun j => cs.getD j 0) z (tabLen_of (movedLen hZ hw)) hfr hlo m meth c P g ig mk _ X hg hsize hdg hW hn ⟨r1, r2, rfl, hx, sta_is al S, hz⟩
  exact ⟨v, B, X', ⟨[], ⟨hv, rfl, hh⟩, hl, hk, hs⟩, st⟩
end StrChars.Road
namespace StrChars
open Jvm Sem ClassFile Op Lib Jvm.Stand Jvm.Free.XT Jvm.Free.ALB Jvm.Free.JM Jvm.Free
open Jvm.Lib.Cold (StaticIs)
namespace Emp
def yN : MethodName := ⟨"java/lang/String", "isEmpty", "()Z"⟩
abbrev yB : ByteArray := jdk_42_method_55_code
theorem d0 : decode yB 0 = .ok (.aload_n 0, 1) := by decide +kernel
theorem d1 : decode yB 1 = .ok (.getfield 9, 3) := by decide +kernel
theorem d4 : decode yB 4 = .ok (.arraylength, 1) := by decide +kernel
theorem d5 : decode yB 5 = .ok (.ifCond (.ne) 7, 3) := by decide +kernel
theorem d8 : decode yB 8 = .ok (.iconst 1, 1) := by decide +kernel
theorem d9 : decode yB 9 = .ok (.goto 4, 3) := by decide +kernel
theorem d12 : decode yB 12 = .ok (.iconst 0, 1) := by decide +kernel
theorem d13 : decode yB 13 = .ok (.ireturn, 1) := by decide +kernel
def site : List Cond := [.fieldLink "java/lang/String" 9 "java/lang/String" "value" "[B"]
def tab : Cond := tabOf yN yB 1 (some .boolean) site
def P (x t : Addr) (V : Cell) (cd : Int32) (n : Nat) (f : Nat → Int32) (args : Array Value) (s : State) : Prop := args = #[.ref x] ∧ Txt x t V cd n f s
def E (n : Nat) (r : Option Value) (s u : State) : Prop := XT.PureE (some (.int (if n = 0 then 1 else 0))) r s u
/-- isEmpty() of a String of n chars -/
theorem law (l : Launch) (x t : Addr) (V : Cell) (cd : Int32) (n : Nat) (f : Nat → Int32) : Law l yN 1 0 0 0 yB 1 (some .boolean) site (P x t V cd n f) (E n) [] 0 0 := by
  refine Law.of_walk (plainFor_of_name (by decide +kernel)) (by decide +kernel) (by decide +kernel) (by decide) (fun _ _ h => by rw [h.1]; rfl) (fun _ U U' hal hh h => ⟨h.1, h.2.mv hal hh⟩) (fun r U U' V V' h1 hal h2 h => XT.PureE.mv r U U' V V' h1 hal h2 h) ?_
  intro p e s m args below meth c s₁ X0 hexec hbytes hml hret hlk hnm hown hh0 W hP
  obtain ⟨rfl, hx⟩ := hP
  have v31 := hx.2.2.2.1.2.2.2
  have c1 : Steps p.tables e below (s₁.setTop (entryFrame m #[.ref x] 1)) (s₁.setTop (mkF m 1 #[.val (.ref x)] [.ref x])) := Steps.trans (entry rfl) (by
    show Steps p.tables e below (s₁.setTop (mkF m 0 #[.val (.ref x)] [])) _
    refine XS.aloadN X0.here hexec rfl (hb hbytes d0) rfl rfl ?_
    exact Steps.refl _)
  obtain ⟨T2, X2, q2, st2⟩ := X0.hget hexec hown (wk W (.fieldLink "java/lang/String" 9 "java/lang/String" "value" "[B")) (hx.mv X0.warmed.alike hh0).2.1 (g := (mkF m 1 #[.val (.ref x)] [.ref x])) rfl (rest := []) rfl (hb hbytes d1)
  have hh2 := q2.trans hh0
  have hx2 := hx.mv X2.warmed.alike hh2
  have c3 : Steps p.tables e below (s₁.setTop (entryFrame m #[.ref x] 1)) (T2.setTop (mkF m 5 #[.val (.ref x)] [.int (Int32.ofNat V.slots.size)])) := (c1.trans (st2 _ (Steps.refl _))).trans (by
    refine X2.alen hexec hx2.2.2.2.1 rfl rfl (hb hbytes d4) ?_
    exact Steps.refl _)
  have hz : V.slots.size = 0 ↔ n = 0 := by
    rcases hx.2.2.2.2.1 with ⟨-, q, -⟩ | ⟨-, q, -⟩ <;> omega
  by_cases h0 : n = 0
  · have c4 : Steps p.tables e below (s₁.setTop (entryFrame m #[.ref x] 1)) (T2.setTop (mkF m 13 #[.val (.ref x)] [.int 1])) := c3.trans (by
      refine XS.ifNo X2.here hexec rfl (hb hbytes d5) rfl (i0_ne_f (by rw [hz.mpr h0]; rfl)) ?_
      refine iconstV X2.here hexec rfl 1 (hb hbytes d8) (by decide) ?_
      refine XS.goto X2.here hexec rfl (pc0 := 9) rfl (hb hbytes d9) (by decide) rfl ?_
      exact Steps.refl _)
    exact ⟨T2, some (.int 1), _, _, _, X2, rfl, rfl, rfl, (fun h => by cases h), ⟨by rw [if_pos h0], hh2⟩, fun fs hl => c4.trans (X2.ireturnOut hexec hret rfl (Or.inr (Or.inl rfl)) (hb hbytes d13) hl)⟩
  · have c4 : Steps p.tables e below (s₁.setTop (entryFrame m #[.ref x] 1)) (T2.setTop (mkF m 13 #[.val (.ref x)] [.int 0])) := c3.trans (by
      refine XS.ifYes X2.here hexec rfl (pc0 := 5) rfl (hb hbytes d5) rfl (i0_ne_t (nz32 v31 (by omega))) (by decide) rfl ?_
      refine iconstV X2.here hexec rfl 0 (hb hbytes d12) (by decide) ?_
      exact Steps.refl _)
    exact ⟨T2, some (.int 0), _, _, _, X2, rfl, rfl, rfl, (fun h => by cases h), ⟨by rw [if_neg h0], hh2⟩, fun fs hl => c4.trans (X2.ireturnOut hexec hret rfl (Or.inr (Or.inl rfl)) (hb hbytes d13) hl)⟩
theorem pays {l : Launch} {R : Room} {p : Program} {e : Env} {below : List Frame} {s : State} {sargs : Array Value} {len W : Nat} (x t : Addr) (V : Cell) (cd : Int32) (n : Nat) (f : Nat → Int32) (htab : tab.before sargs s = true) (hfr : 1 ≤ R.frames) (hlo : W + 12 ≤ R.locals) :
    Back l R p e below s sargs yN len W (fun A₁ a₁ => A₁.cells + 0 ≤ R.cells ∧ A₁.slots + 0 ≤ R.slots ∧ P x t V cd n f a₁ A₁.U) (fun A₁ _ v₁ B₁ => E n v₁ A₁.U B₁.U ∧ B₁.locs = A₁.locs ++ [] ∧ B₁.cells = A₁.cells + 0 ∧ B₁.slots = A₁.slots + 0) :=
  (law l x t V cd n f).pays htab hfr (by omega)
end Emp
end StrChars
namespace StrChars.Road
open Jvm Sem ClassFile Op Lib Jvm.Stand Jvm.Free Jvm.Free.XT
open Jvm.Lib.Cold (StaticIs)
/-- the words of String.isEmpty() -/
abbrev wordsEmp : List Jvm.Cond := [.code Emp.yN Emp.yB 1 (some .boolean), .initialized ST, .fieldLink ST 9 ST "value" "[B"]
theorem tabEmp_of {a : Array Value} {s : State} (h : ∀ w ∈ wordsEmp, w.before a s = true) : Emp.tab.before a s = true := unparts (wk h (.code Emp.yN Emp.yB 1 (some .boolean))) (wks h (.initialized Emp.yN.cls :: Emp.site))
theorem movedEmp {Z s : State} {a0 args : Array Value} (hZ : Z.Warmed39 s.vm) (hw : ∀ d ∈ wordsEmp, d.before a0 Z = true) : ∀ d ∈ wordsEmp, d.before args s = true := fun d hd => by
  have t : ∀ d ∈ wordsEmp, (d.onTables && d.keepsFace) = true := by decide +kernel
  exact RoadKit.mv hZ (hw d hd) (t d hd)
/-- the road's facts of a String, as the laws ask it -/
theorem txt_of {Z U : State} {a0 : Array Value} {kI : Nat} (wi : (Jvm.Cond.instantiable ST kI).before a0 Z = true) (al : Z.vm.Alike U.vm) {x t : Addr} {kb : ClassId} {cs : List Int32} {cd N2 : Int32} {vs : List Value} (E : RoadKit.Exa Z U.heap x ST) (V : RoadKit.Fld Z U.heap x ST "value" "[B" (.ref t)) (C : RoadKit.Fld Z U.heap x ST "coder" "B" (.int cd)) (K : RoadKit.Arv Z U.heap t kb .byte N2 vs (.int 0)) (hc : CodA cs cd N2 vs) (hb : ∀ c ∈ cs, ¬ c < 0 ∧ ¬ (65535 : Int32) < c) (l2 : cs.length ≤ 4000) :
    ∃ A, Txt x t A cd cs.length (fun j => cs.getD j 0) U := by
  obtain ⟨A, K1, K2, K3, K4, K5, K6⟩ := K
  have hcod := hc.cod (by omega) K3 K5
  obtain ⟨D, fV, fC, hB, F1, F2, g1, g2, -, -⟩ := strObj wi al E V C
  exact ⟨A, ⟨_, hB.2.2.1, D, hB.1, rfl, by cases q : D.vm <;> first | rfl | exact absurd q (hB.2.1.2 _)⟩, Has.of hB F1 g1, Has.of hB F2 g2, ⟨K1.1, State.isArrayOf_alike al K1.2.1, K1.2.2, by rcases hcod with ⟨-, q, -⟩ | ⟨-, q, -⟩ <;> omega⟩, hcod, fun j hj => by
    have e : cs.getD j 0 = cs[j] := by simp [List.getD_eq_getElem?_getD, hj]
    show ¬ cs.getD j 0 < 0 ∧ ¬ 65535 < cs.getD j 0
    rw [e]; exact hb _ (List.getElem_mem _)⟩
/-- **isEmpty() OF SUCH A STRING** -/
theorem empW {p : Program} {l : Launch} {e : Env} {R : Room} {s : State} {args : Array Value} {below : List Frame} {len W : Nat} {Z : State} {a0 : Array Value} {h : Heap} (hZ : Z.Warmed39 s.vm) (hw : ∀ d ∈ wordsEmp, d.before a0 Z = true) {kI : Nat} (wi : (Jvm.Cond.instantiable ST kI).before a0 Z = true)
    {x t : Addr} {kb : ClassId} {cs : List Int32} {cd N2 : Int32} {vs : List Value} (E : RoadKit.Exa Z h x ST) (V : RoadKit.Fld Z h x ST "value" "[B" (.ref t)) (C : RoadKit.Fld Z h x ST "coder" "B" (.int cd)) (K : RoadKit.Arv Z h t kb .byte N2 vs (.int 0)) (hc : CodA cs cd N2 vs) (hb : ∀ c ∈ cs, ¬ c < 0 ∧ ¬ (65535 : Int32) < c) (l2 : cs.length ≤ 4000) (hfr : 1 ≤ R.frames) (hlo : W + 12 ≤ R.locals) :
    Back l R p e below s args (⟨"java/lang/String", "isEmpty", "()Z"⟩ : MethodName) len W (fun P a => a = #[.ref x] ∧ P.U.heap = h ∧ P.cells + 0 ≤ R.cells ∧ P.slots + 0 ≤ R.slots)
      (fun P _ v B => ∃ L, (v = some (.int (if cs.length = 0 then 1 else 0)) ∧ L = [] ∧ B.U.heap = h) ∧ B.locs = P.locs ++ L ∧ B.cells = P.cells + 0 ∧ B.slots = P.slots + 0) := by
  intro m meth c P g ig mk a X hg hsize hdg hW hn hp'
  obtain ⟨rfl, rfl, r1, r2⟩ := hp'
  have al : Z.vm.Alike P.U.vm := hZ.alike.trans X.warmed.alike
  obtain ⟨A, hx⟩ := txt_of wi al E V C K hc hb l2
  obtain ⟨v, B, X', ⟨⟨hv, hh⟩, hl, hk, hs⟩, st⟩ := Emp.pays x t A cd cs.length (fun j => cs.getD j 0) (tabEmp_of (movedEmp hZ hw)) hfr hlo m meth c P g ig mk _ X hg hsize hdg hW hn ⟨r1, r2, rfl, hx⟩
  exact ⟨v, B, X', ⟨[], ⟨hv, rfl, hh⟩, hl, hk, hs⟩, st⟩
end StrChars.Road
namespace StrChars.Road
open Jvm Sem ClassFile Op Lib Jvm.Stand Jvm.Free Jvm.Free.XT
open Jvm.Lib.Cold (StaticIs)
/-- what backV says of its String, as the contracts of this text ask it: cs's low bytes, coder 0 -/
theorem codOf {cs : List Int32} {n : Nat} (hn : cs.length = n) (hb : ∀ c ∈ cs, ¬ 255 < c) : CodA cs 0 (Int32.ofNat n) ((cs.map lo8).map Value.int) := Or.inl ⟨rfl, by rw [hn], by simp [List.map_map, Function.comp_def], hb⟩
end StrChars.Road
end Jvm.Pilot.@@N@@
namespace Jvm.Pilot.@@N@@
open Jvm Jvm.ClassFile Sem Op Lib Jvm.Free Jvm.Stand Jvm.LawKit Jvm.RoadKit Bundle Jvm.OwnK Jvm.Pilot.@@N@@.Jvm.D
def EL1 : List (String × Nat) := [("java/lang/String", 7), ("pentrewick/api/UserContext", 38), ("pentrewick/api/UserContext", 53), ("pentrewick/api/UserContext", 65)]
def Env1 (Z : State) (a0 : Array Value) : Prop := (∀ d ∈ tables_1, d.before a0 Z = true) ∧ EW Z a0 EL1 ∧ (∃ z : Int32, Sta Z Z.heap "java/lang/String" "COMPACT_STRINGS" "Z" (.int z) ∧ ¬ z = 0) ∧ (∃ es sys : Addr, Sta Z Z.heap "java/util/ImmutableCollections" "EMPTY_SET" "Ljava/util/ImmutableCollections$SetN;" (.ref es) ∧ Exa Z Z.heap es "java/util/ImmutableCollections$SetN" ∧ Sta Z Z.heap "pentrewick/api/UserContext" "SYSTEM" "Lpentrewick/api/UserContext;" (.ref sys) ∧ Exa Z Z.heap sys "pentrewick/api/UserContext" ∧ Fld Z Z.heap sys "pentrewick/api/UserContext" "m_userId" "Ljava/lang/String;" .null ∧ Fld Z Z.heap sys "pentrewick/api/UserContext" "m_roles" "Ljava/util/Set;" (.ref es) ∧ Fld Z Z.heap sys "pentrewick/api/UserContext" "m_privileged" "Z" (.int 0))
theorem wd {Z : State} {a0 : Array Value} (G : Env1 Z a0) (i : Nat) {d : Jvm.Cond} (h : tables_1[i]? = some d) : d.before a0 Z = true := G.1 d (List.mem_of_getElem? h)
theorem wS_in : ∀ a ∈ Bundle.stringAtoms, a ∈ tables_1 := by decide +kernel
theorem wS {Z : State} {a0 : Array Value} (G : Env1 Z a0) : ∀ a ∈ Bundle.stringAtoms, a.before a0 Z = true := fun a ha => G.1 a (wS_in a ha)
abbrev STN : String := "java/lang/String"
/-- a String that spells the chars cs -/
def Str (Z : State) (h : Heap) (a : Addr) (cs : List Int32) : Prop := ∃ (b : Addr) (kb : ClassId) (cd N2 : Int32) (vs : List Value), Exa Z h a STN ∧ Fld Z h a STN "value" "[B" (.ref b) ∧ Fld Z h a STN "coder" "B" (.int cd) ∧ Arv Z h b kb .byte N2 vs (.int 0) ∧ StrChars.Road.CodA cs cd N2 vs ∧ (∀ c ∈ cs, ¬ c < 0 ∧ ¬ (65535 : Int32) < c) ∧ cs.length ≤ 4000
theorem Str.ext {Z : State} {h h' : Heap} {a : Addr} {cs : List Int32} (F : Str Z h a cs) (E : Ext h h') : Str Z h' a cs := by
  obtain ⟨b, kb, cd, N2, vs, f1, f2, f3, f4, r⟩ := F
  exact ⟨b, kb, cd, N2, vs, f1.ext E, f2.ext E, f3.ext E, f4.ext E, r⟩
theorem Str.exa {Z : State} {h : Heap} {a : Addr} {cs : List Int32} (F : Str Z h a cs) : Exa Z h a STN := by obtain ⟨b, kb, cd, N2, vs, f1, -⟩ := F; exact f1
theorem Str.lt {Z : State} {h : Heap} {a : Addr} {cs : List Int32} (F : Str Z h a cs) : a < h.size := F.exa.lt
theorem le16 {cs : List Int32} (h : ∀ c ∈ cs, ¬ c < 0 ∧ ¬ (255 : Int32) < c) : ∀ c ∈ cs, ¬ c < 0 ∧ ¬ (65535 : Int32) < c := fun c hc => ⟨(h c hc).1, fun q => (h c hc).2 (Int32.lt_trans (by decide) q)⟩
theorem and255 (x : Int32) : ¬ (x &&& 255) < 0 ∧ ¬ (255 : Int32) < (x &&& 255) := by
  have h := c_and x 255 (by decide)
  have e : (255 : Int32).toInt = 255 := by decide
  have e0 : (0 : Int32).toInt = 0 := by decide
  rw [Int32.lt_iff_toInt_lt, Int32.lt_iff_toInt_lt, e, e0]; omega
theorem wBackV : ∀ d ∈ StrChars.Road.words, d ∈ tables_1 := by decide +kernel
theorem pays_str {l : Launch} {R : Room} {Z : State} {a0 : Array Value} {sf : List Addr} {W : Nat} (G : Env1 Z a0) {x b : Addr} {kc : ClassId} (cs : List Int32) {d v0 c0 : Value} {N : Int32} (n : Nat) (h : Heap) (E : Exa Z h x STN) (V : Fld Z h x STN "value" "[B" v0) (C : Fld Z h x STN "coder" "B" c0) (K : Arv Z h b kc .char N (cs.map Value.int) d)
    (hn : cs.length = n) (hN : N = Int32.ofNat n) (l0 : 0 < n) (l2 : n ≤ 4000) (hp : ∀ c ∈ cs, ¬ c < 0 ∧ ¬ (255 : Int32) < c) (hsf : x ∈ sf) (hfr : 4 ≤ R.frames) (hlo : W + 65 ≤ R.locals) :
    Pays l R Z a0 EL1 sf (⟨"java/lang/String", "<init>", "([C)V"⟩ : MethodName) 3 W #[.ref x, .ref b] h 1 n (fun v h' => v = none ∧ Keep h h' [x] ∧ Str Z h' x cs) := by
  obtain ⟨z, hS, hz⟩ := G.2.2.1
  refine Pays.of_back (ws := [x]) (fun p e below s args hZ hE hsz => StrChars.Road.backV (n0 := Z.heap.size) (bs := cs.map (fun c => c.toInt8.toInt32)) hZ (fun d hd => G.1 d (wBackV d hd)) (kI := 4) (wd G 6 rfl) (hsz x hsf) hE.1 E V C K (hS.ext hE) hz hn hN l0 l2 hp rfl hfr hlo) (allS hsf all0) ?_
  intro v h' L hE q
  obtain ⟨q1, q2, q3, q4, q5, t, kb, -, -, -, q6, q7⟩ := q
  refine ⟨q2, q3, q1, q3, t, kb, 0, N, _, q4, q6, q5, q7, ?_, le16 hp, by omega⟩
  subst hN
  exact StrChars.Road.codOf hn (fun c hc => (hp c hc).2)
theorem wLen : ∀ d ∈ StrChars.Road.wordsLen, d ∈ tables_1 := by decide +kernel
theorem pays_len {l : Launch} {R : Room} {Z : State} {a0 : Array Value} {sf : List Addr} {W : Nat} (G : Env1 Z a0) {x : Addr} {cs : List Int32} (h : Heap) (F : Str Z h x cs) (hfr : 2 ≤ R.frames) (hlo : W + 25 ≤ R.locals) :
    Pays l R Z a0 EL1 sf (⟨"java/lang/String", "length", "()I"⟩ : MethodName) 3 W #[.ref x] h 0 0 (fun v h' => v = some (.int (Int32.ofNat cs.length)) ∧ h = h') := by
  obtain ⟨z, hS, hz⟩ := G.2.2.1
  obtain ⟨b, kb, cd, N2, vs, f1, f2, f3, f4, f5, f6, f7⟩ := F
  refine Pays.of_back (ws := []) (QL := fun v h' L => v = some (.int (Int32.ofNat cs.length)) ∧ L = [] ∧ h' = h) (fun p e below s args hZ hE hsz => StrChars.Road.lenW hZ (fun d hd => G.1 d (wLen d hd)) (kI := 4) (wd G 6 rfl) f1 f2 f3 f4 f5 f6 (hS.ext hE) hz f7 hfr hlo) all0 ?_
  intro v h' L hE q
  obtain ⟨q1, q2, q3⟩ := q
  subst q2 q3
  exact ⟨Fr.nil _, Keep.refl _ _, q1, rfl⟩
theorem wEmp : ∀ d ∈ StrChars.Road.wordsEmp, d ∈ tables_1 := by decide +kernel
theorem pays_emp {l : Launch} {R : Room} {Z : State} {a0 : Array Value} {sf : List Addr} {W : Nat} (G : Env1 Z a0) {x : Addr} {cs : List Int32} (h : Heap) (F : Str Z h x cs) (hfr : 1 ≤ R.frames) (hlo : W + 12 ≤ R.locals) :
    Pays l R Z a0 EL1 sf (⟨"java/lang/String", "isEmpty", "()Z"⟩ : MethodName) 3 W #[.ref x] h 0 0 (fun v h' => v = some (.int (if cs.length = 0 then 1 else 0)) ∧ h = h') := by
  obtain ⟨b, kb, cd, N2, vs, f1, f2, f3, f4, f5, f6, f7⟩ := F
  refine Pays.of_back (ws := []) (QL := fun v h' L => v = some (.int (if cs.length = 0 then 1 else 0)) ∧ L = [] ∧ h' = h) (fun p e below s args hZ hE hsz => StrChars.Road.empW hZ (fun d hd => G.1 d (wEmp d hd)) (kI := 4) (wd G 6 rfl) f1 f2 f3 f4 f5 f6 f7 hfr hlo) all0 ?_
  intro v h' L hE q
  obtain ⟨q1, q2, q3⟩ := q
  subst q2 q3
  exact ⟨Fr.nil _, Keep.refl _ _, q1, rfl⟩
theorem narrow_obj (C : String) (v : Value) : narrow (.object C) v = v := by cases v <;> rfl
theorem fits_obj {C : String} {v : Value} (h : v.isRef = true) : fits (.object C) v = true := by cases v <;> simp_all [Value.isRef, fits]
theorem narrow_bool {r : Int32} (h : r = 0 ∨ r = 1) : narrow .boolean (.int r) = .int r := by rcases h with rfl | rfl <;> rfl
theorem fits_bool {r : Int32} (h : r = 0 ∨ r = 1) : fits .boolean (.int r) = true := by rcases h with rfl | rfl <;> rfl
theorem and3 (x : Int32) : (x &&& 3) = 0 ∨ (x &&& 3) = 1 ∨ (x &&& 3) = 2 ∨ (x &&& 3) = 3 := by
  have h := c_and x 3 (by decide)
  have e : (3 : Int32).toInt = 3 := by decide
  rw [e] at h
  obtain ⟨i, hi, q⟩ := toInt_cases (n := 4) h.1 (by omega) (by decide)
  rw [q]
  match i, hi with
  | 0, _ => decide
  | 1, _ => decide
  | 2, _ => decide
  | 3, _ => decide
theorem and1 (x : Int32) : (x &&& 1) = 0 ∨ (x &&& 1) = 1 := and_one x
theorem mask31 (x : Int32) : 0 ≤ (x &&& 2147483647).toInt := (c_and x 2147483647 (by decide)).1
theorem rem3 (x : Int32) : ((x &&& 2147483647) % 3) = 0 ∨ ((x &&& 2147483647) % 3) = 1 ∨ ((x &&& 2147483647) % 3) = 2 := by
  have h := (c_iremV (x &&& 2147483647) 3).1 (mask31 x) (by decide)
  have e : (3 : Int32).toInt = 3 := by decide
  rw [e] at h
  obtain ⟨i, hi, q⟩ := toInt_cases (n := 3) h.1 (by omega) (by decide)
  rw [q]
  match i, hi with
  | 0, _ => decide
  | 1, _ => decide
  | 2, _ => decide
theorem nar255 {u : Int32} (h : ¬ u < 0 ∧ ¬ (255 : Int32) < u) : nar .char u = u := by
  have q := c_i2c u
  refine Int32.toInt_inj.mp ?_
  rw [Int32.lt_iff_toInt_lt, Int32.lt_iff_toInt_lt] at h
  have e : (255 : Int32).toInt = 255 := by decide
  have e0 : (0 : Int32).toInt = 0 := by decide
  rw [e, e0] at h
  show u.toUInt32.toUInt16.toUInt32.toInt32.toInt = u.toInt
  omega
theorem narb (u : Int32) : nar .byte (u.toInt8.toInt32) = u.toInt8.toInt32 := by
  have h1 := c_i2b (u.toInt8.toInt32)
  have h2 := c_i2b u
  refine Int32.toInt_inj.mp ?_
  show (u.toInt8.toInt32).toInt8.toInt32.toInt = _
  omega
theorem lo8z {c : Int32} (h : ¬ c < 0 ∧ ¬ (255 : Int32) < c) (h0 : ¬ c = 0) : ¬ c.toInt8.toInt32 = 0 := fun q => by
  have h1 := c_i2b c
  rw [q] at h1
  rw [Int32.lt_iff_toInt_lt, Int32.lt_iff_toInt_lt] at h
  have e : (255 : Int32).toInt = 255 := by decide
  have e0 : (0 : Int32).toInt = 0 := by decide
  rw [e, e0] at h; rw [e0] at h1
  exact h0 (Int32.toInt_inj.mp (by rw [e0]; omega))
theorem d3_0 : decode jdk_42_method_149_code 0 = .ok (.aload_n 0, 1) := by decide +kernel
theorem d3_1 : decode jdk_42_method_149_code 1 = .ok (.invokespecial 1, 3) := by decide +kernel
theorem d3_4 : decode jdk_42_method_149_code 4 = .ok (.iload_n 3, 1) := by decide +kernel
theorem d3_5 : decode jdk_42_method_149_code 5 = .ok (.ifCond .ne 22, 3) := by decide +kernel
theorem d3_8 : decode jdk_42_method_149_code 8 = .ok (.aload_n 0, 1) := by decide +kernel
theorem d3_9 : decode jdk_42_method_149_code 9 = .ok (.ldc 7, 2) := by decide +kernel
theorem d3_11 : decode jdk_42_method_149_code 11 = .ok (.getfield 9, 3) := by decide +kernel
theorem d3_14 : decode jdk_42_method_149_code 14 = .ok (.putfield 9, 3) := by decide +kernel
theorem d3_17 : decode jdk_42_method_149_code 17 = .ok (.aload_n 0, 1) := by decide +kernel
theorem d3_18 : decode jdk_42_method_149_code 18 = .ok (.ldc 7, 2) := by decide +kernel
theorem d3_20 : decode jdk_42_method_149_code 20 = .ok (.getfield 15, 3) := by decide +kernel
theorem d3_23 : decode jdk_42_method_149_code 23 = .ok (.putfield 15, 3) := by decide +kernel
theorem d3_26 : decode jdk_42_method_149_code 26 = .ok (.return_, 1) := by decide +kernel
theorem pn_java_lang_String : plainName "java/lang/String" = true := by first | (simp [plainName, overriddenIn]; done) | decide +kernel
theorem ef_ct_si4e (x : Addr) (b : Addr) (v0 : Value) (c0 : Value) (m : MethodId) : entryFrame m #[(.ref x), (.ref b), (.int (0 : Int32)), (.int (0 : Int32)), Value.null] 6 = mkF m 0 #[.val (.ref x), .val (.ref b), .val (.int (0 : Int32)), .val (.int (0 : Int32)), .val Value.null, .unset] [] := by first | (simp [entryFrame, mkF, argsToLocals, Value.category]; done) | rfl
set_option maxRecDepth 65536 in
set_option maxHeartbeats 4000000 in
theorem ct_si4e {l : Launch} {Z : State} {a0 : Array Value} (G : Env1 Z a0) (x : Addr) (b : Addr) (v0 : Value) (c0 : Value) (h0 : Heap) (A : Exa Z h0 x STN) (F0 : Fld Z h0 x STN "value" "[B" v0) (F1 : Fld Z h0 x STN "coder" "B" c0) :
    Ct l Z EL1 [x] [] (⟨"java/lang/String", "<init>", "([CIILjava/lang/Void;)V"⟩ : MethodName) jdk_42_method_149_code 6 none ({ frames := 1, cells := 4, slots := 8, locals := 12 } : Room) #[(.ref x), (.ref b), (.int (0 : Int32)), (.int (0 : Int32)), Value.null] h0 (fun v h => v = none ∧ Keep h0 h [x] ∧ Str Z h x []) := by
  refine Ct.of_seg (a0 := a0) (plainFor_of_name pn_java_lang_String) G.2.1 (ef_ct_si4e x b v0 c0) ?_
  refine Seg.aloadN d3_0 rfl rfl (pc' := 1) rfl ?_
  refine Seg.initO (wd G 15 rfl) (wd G 16 rfl) (wd G 17 rfl) rfl d3_1 (pc' := 4) rfl (by decide) (W := 0) (Nat.le_of_eq rfl) (by decide) ?_
  refine Seg.iloadN d3_4 rfl (pc' := 5) rfl ?_
  refine Seg.ifN d3_5 (by decide) (pc' := 8) rfl ?_
  refine Seg.aloadN d3_8 rfl rfl (pc' := 9) rfl ?_
  refine Seg.ldcS (text := "") (vs := []) (z := 0) (nn := 0) (wd G 18 rfl) (wS G) (by decide) (by decide +kernel) (by decide) (by decide) d3_9 (pc' := 11) rfl (by decide) (by decide) (k' := 2) (n' := 4) rfl rfl (by decide) (by decide) ?_
  intro a_1 h_10 b_2 kb_3 E_4 A_5 F_6 F_7 A_8 ne_9
  refine Seg.getF (host := "") (Or.inl (wd G 24 rfl)) Via.refl F_7 d3_11 (pc' := 14) rfl ?_
  have F_11 := F0.ext E_4
  have F_12 := A.ext E_4
  refine Seg.putF (host := "") (ty := (.array .byte)) (v' := (.ref b_2)) (wd G 24 rfl) Via.refl F_11 F_12 (Or.inr ⟨(wd G 20 rfl), rfl, rfl⟩) (wd G 6 rfl) (by decide) rfl rfl (List.mem_of_getElem? (i := 0) rfl) d3_14 (pc' := 17) rfl ?_
  intro h_15 W_13 F_14
  refine Seg.aloadN d3_17 rfl rfl (pc' := 18) rfl ?_
  refine Seg.ldcS (text := "") (vs := []) (z := 0) (nn := 0) (wd G 18 rfl) (wS G) (by decide) (by decide +kernel) (by decide) (by decide) d3_18 (pc' := 20) rfl (by decide) (by decide) (k' := 4) (n' := 8) rfl rfl (by decide) (by decide) ?_
  intro a_16 h_25 b_17 kb_18 E_19 A_20 F_21 F_22 A_23 ne_24
  refine Seg.getF (host := "") (Or.inl (wd G 25 rfl)) Via.refl F_21 d3_20 (pc' := 23) rfl ?_
  have F_26 := (((F1.ext E_4).other W_13 (Or.inr (slot_ne (Or.inr (wd G 21 rfl)) (Or.inr (wd G 20 rfl)) (by decide) (t := .byte) (t' := (.array .byte)) (by decide) (by decide)))).ext E_19)
  have F_27 := ((F_12.wr W_13).ext E_19)
  refine Seg.putF (host := "") (ty := .byte) (v' := (.int (0 : Int32))) (wd G 25 rfl) Via.refl F_26 F_27 (Or.inr ⟨(wd G 21 rfl), rfl, rfl⟩) (wd G 6 rfl) (by decide) rfl rfl (List.mem_of_getElem? (i := 0) rfl) d3_23 (pc' := 26) rfl ?_
  intro h_30 W_28 F_29
  have F_31 := (F_27.wr W_28)
  have F_32 := ((F_14.ext E_19).other W_28 (Or.inr (slot_ne (Or.inr (wd G 20 rfl)) (Or.inr (wd G 21 rfl)) (by decide) (t := (.array .byte)) (t' := .byte) (by decide) (by decide))))
  have F_33 := (((A_8.keep (Keep.of_wr W_13) (ninS (ne_9 x (List.mem_of_getElem? (i := 0) rfl)).2.symm nin0)).ext E_19).keep (Keep.of_wr W_28) (ninS (ne_9 x (List.mem_of_getElem? (i := 0) rfl)).2.symm nin0))
  exact Seg.ret0 rfl d3_26 (by decide) (by decide) ⟨rfl, (((((Keep.refl h0 [x]).ext E_4).wr W_13 (Or.inl (List.mem_of_getElem? (i := 0) rfl))).ext E_19).wr W_28 (Or.inl (List.mem_of_getElem? (i := 0) rfl))), b_2, kb_3, 0, 0, [], F_31, F_32, F_29, F_33, Or.inl ⟨rfl, rfl, rfl, (fun c q => nomatch q)⟩, (fun c q => nomatch q), (by decide)⟩
theorem d2_0 : decode jdk_42_method_3_code 0 = .ok (.aload_n 0, 1) := by decide +kernel
theorem d2_1 : decode jdk_42_method_3_code 1 = .ok (.aload_n 1, 1) := by decide +kernel
theorem d2_2 : decode jdk_42_method_3_code 2 = .ok (.iconst 0, 1) := by decide +kernel
theorem d2_3 : decode jdk_42_method_3_code 3 = .ok (.aload_n 1, 1) := by decide +kernel
theorem d2_4 : decode jdk_42_method_3_code 4 = .ok (.arraylength, 1) := by decide +kernel
theorem d2_5 : decode jdk_42_method_3_code 5 = .ok (.aconst_null, 1) := by decide +kernel
theorem d2_6 : decode jdk_42_method_3_code 6 = .ok (.invokespecial 27, 3) := by decide +kernel
theorem pd_0 : parseMethodDescriptor "([CIILjava/lang/Void;)V" = some ⟨[(.array .char), .int, .int, (.object "java/lang/Void")], none⟩ := by decide +kernel
theorem d2_9 : decode jdk_42_method_3_code 9 = .ok (.return_, 1) := by decide +kernel
theorem ef_ct_sie (x : Addr) (b : Addr) (v0 : Value) (c0 : Value) (kc : ClassId) (d : Value) (m : MethodId) : entryFrame m #[(.ref x), (.ref b)] 2 = mkF m 0 #[.val (.ref x), .val (.ref b)] [] := by first | (simp [entryFrame, mkF, argsToLocals, Value.category]; done) | rfl
set_option maxRecDepth 65536 in
set_option maxHeartbeats 4000000 in
theorem ct_sie {l : Launch} {Z : State} {a0 : Array Value} (G : Env1 Z a0) (x : Addr) (b : Addr) (v0 : Value) (c0 : Value) (kc : ClassId) (d : Value) (h0 : Heap) (A : Exa Z h0 x STN) (F0 : Fld Z h0 x STN "value" "[B" v0) (F1 : Fld Z h0 x STN "coder" "B" c0) (Ab : Arv Z h0 b kc .char 0 [] d) :
    Ct l Z EL1 [x] [] (⟨"java/lang/String", "<init>", "([C)V"⟩ : MethodName) jdk_42_method_3_code 2 none ({ frames := 2, cells := 4, slots := 8, locals := 29 } : Room) #[(.ref x), (.ref b)] h0 (fun v h => v = none ∧ Keep h0 h [x] ∧ Str Z h x []) := by
  refine Ct.of_seg (a0 := a0) (plainFor_of_name pn_java_lang_String) G.2.1 (ef_ct_sie x b v0 c0 kc d) ?_
  refine Seg.aloadN d2_0 rfl rfl (pc' := 1) rfl ?_
  refine Seg.aloadN d2_1 rfl rfl (pc' := 2) rfl ?_
  refine Seg.iconst (v := 0) d2_2 (by decide) (pc' := 3) rfl ?_
  refine Seg.aloadN d2_3 rfl rfl (pc' := 4) rfl ?_
  refine Seg.alen Ab d2_4 (pc' := 5) rfl ?_
  refine Seg.anull d2_5 (pc' := 6) rfl ?_
  refine Seg.callN (y' := (⟨"java/lang/String", "<init>", "([CIILjava/lang/Void;)V"⟩ : MethodName)) (a := x) rfl (wd G 11 rfl) (wd G 12 rfl) (wd G 14 rfl) ⟨by decide, by decide⟩ (Pays.of_ct (W := 0) (ct_si4e G x b v0 c0 h0 A F0 F1) (allS (List.mem_of_getElem? (i := 0) rfl) all0) (wd G 14 rfl) (wd G 7 rfl) (by decide) (by decide) rfl rfl) (argsL := [(.ref b), (.int (0 : Int32)), (.int (0 : Int32)), Value.null]) (rest := []) rfl (lenOf pd_0 rfl) rfl (Nat.le_of_eq rfl) rfl d2_6 (pc' := 9) rfl (k' := 4) (n' := 8) rfl rfl (by decide) (by decide) ?_
  intro v_1 h_4 sz_2 q_3
  obtain ⟨rfl, K, F⟩ := q_3
  exact Seg.ret0 rfl d2_9 (by decide) (by decide) ⟨rfl, K, F⟩
theorem d6_0 : decode jdk_43_method_3_code 0 = .ok (.iload_n 0, 1) := by decide +kernel
theorem d6_1 : decode jdk_43_method_3_code 1 = .ok (.sipush 255, 3) := by decide +kernel
theorem d6_4 : decode jdk_43_method_3_code 4 = .ok (.if_icmp .gt 7, 3) := by decide +kernel
theorem d6_7 : decode jdk_43_method_3_code 7 = .ok (.iconst 1, 1) := by decide +kernel
theorem d6_8 : decode jdk_43_method_3_code 8 = .ok (.goto 4, 3) := by decide +kernel
theorem d6_12 : decode jdk_43_method_3_code 12 = .ok (.ireturn, 1) := by decide +kernel
theorem pn_java_lang_StringLatin1 : plainName "java/lang/StringLatin1" = true := by first | (simp [plainName, overriddenIn]; done) | decide +kernel
theorem ef_ct_canEnc (u : Int32) (m : MethodId) : entryFrame m #[(.int u)] 1 = mkF m 0 #[.val (.int u)] [] := by first | (simp [entryFrame, mkF, argsToLocals, Value.category]; done) | rfl
set_option maxRecDepth 65536 in
set_option maxHeartbeats 4000000 in
theorem ct_canEnc {l : Launch} {Z : State} {a0 : Array Value} (G : Env1 Z a0) (u : Int32) (h0 : Heap) (hc : ¬ u < 0 ∧ ¬ (255 : Int32) < u) :
    Ct l Z EL1 [] [] (⟨"java/lang/StringLatin1", "canEncode", "(C)Z"⟩ : MethodName) jdk_43_method_3_code 1 (some .boolean) ({ frames := 0, cells := 0, slots := 0, locals := 0 } : Room) #[(.int u)] h0 (fun v h => v = some (.int 1) ∧ h0 = h) := by
  refine Ct.of_seg (a0 := a0) (plainFor_of_name pn_java_lang_StringLatin1) G.2.1 (ef_ct_canEnc u) ?_
  refine Seg.iloadN d6_0 rfl (pc' := 1) rfl ?_
  refine Seg.sipush (v := 255) d6_1 (by decide) (pc' := 4) rfl ?_
  refine Seg.icN d6_4 (XT.ii_gt_f hc.2) (pc' := 7) rfl ?_
  refine Seg.iconst (v := 1) d6_7 (by decide) (pc' := 8) rfl ?_
  refine Seg.goto (pc' := 12) d6_8 (by decide) (by decide) ?_
  exact Seg.retN (t := .boolean) (w := (1 : Int32)) rfl (by decide) (by decide) d6_12 (by decide) (by decide) ⟨rfl, rfl⟩
theorem d7_0 : decode jdk_43_method_46_code 0 = .ok (.iconst 1, 1) := by decide +kernel
theorem d7_1 : decode jdk_43_method_46_code 1 = .ok (.newarray .byte, 2) := by decide +kernel
theorem d7_3 : decode jdk_43_method_46_code 3 = .ok (.dup, 1) := by decide +kernel
theorem d7_4 : decode jdk_43_method_46_code 4 = .ok (.iconst 0, 1) := by decide +kernel
theorem d7_5 : decode jdk_43_method_46_code 5 = .ok (.iload_n 0, 1) := by decide +kernel
theorem d7_6 : decode jdk_43_method_46_code 6 = .ok (.i2b, 1) := by decide +kernel
theorem d7_7 : decode jdk_43_method_46_code 7 = .ok (.bastore, 1) := by decide +kernel
theorem d7_8 : decode jdk_43_method_46_code 8 = .ok (.areturn, 1) := by decide +kernel
theorem ef_ct_toB (u : Int32) (m : MethodId) : entryFrame m #[(.int u)] 1 = mkF m 0 #[.val (.int u)] [] := by first | (simp [entryFrame, mkF, argsToLocals, Value.category]; done) | rfl
set_option maxRecDepth 65536 in
set_option maxHeartbeats 4000000 in
theorem ct_toB {l : Launch} {Z : State} {a0 : Array Value} (G : Env1 Z a0) (u : Int32) (h0 : Heap) :
    Ct l Z EL1 [] [] (⟨"java/lang/StringLatin1", "toBytes", "(C)[B"⟩ : MethodName) jdk_43_method_46_code 1 (some (.array .byte)) ({ frames := 0, cells := 1, slots := 1, locals := 0 } : Room) #[(.int u)] h0 (fun v h => ∃ (r : Addr) (kc : ClassId), v = some (.ref r) ∧ Ext h0 h ∧ h0.size ≤ r ∧ Arv Z h r kc .byte 1 [.int (u).toInt8.toInt32] (.int 0)) := by
  refine Ct.of_seg (a0 := a0) (plainFor_of_name pn_java_lang_StringLatin1) G.2.1 (ef_ct_toB u) ?_
  refine Seg.iconst (v := 1) d7_0 (by decide) (pc' := 1) rfl ?_
  refine Seg.newP (ty := .byte) (dv := (.int 0)) rfl rfl (wd G 19 rfl) d7_1 (pc' := 3) rfl (by decide) (cap := 1) (by decide) (by decide) (k' := 1) (n' := 1) rfl rfl (by decide) (by decide) ?_
  intro b_1 h_3 k_b_1 E_2 e_b_1 l_b_1 A_b_1
  replace A_b_1 : Arv Z h_3 b_1 k_b_1 .byte (1 : Int32) [(.int (0 : Int32))] (.int 0) := A_b_1.pad (pad_rep [] (.int 0) 1)
  refine Seg.dup d7_3 rfl (pc' := 4) rfl ?_
  refine Seg.iconst (v := 0) d7_4 (by decide) (pc' := 5) rfl ?_
  refine Seg.iloadN d7_5 rfl (pc' := 6) rfl ?_
  refine Seg.i2b (v := (u).toInt8.toInt32) d7_6 rfl (pc' := 7) rfl ?_
  refine Seg.bastore (v' := (u).toInt8.toInt32) (i := 0) A_b_1 ⟨by decide, by decide⟩ rfl (Nat.le_of_ble_eq_true rfl) (narb u) (List.mem_of_getElem? (i := 0) rfl) d7_7 (pc' := 8) rfl ?_
  intro h_6 W_4 A_5
  replace A_5 : Arv Z h_6 b_1 k_b_1 .byte (1 : Int32) [(.int (u).toInt8.toInt32)] (.int 0) := A_5
  have E_7 : Ext h0 h_6 := ext_wr E_2 W_4 (Nat.le_trans (ext_rfl _).1 (Nat.le_of_eq e_b_1))
  exact Seg.retA rfl rfl rfl d7_8 (by decide) (by decide) ⟨b_1, k_b_1, rfl, E_7, (Nat.le_of_eq e_b_1), A_5⟩
theorem d8_0 : decode jdk_42_method_151_code 0 = .ok (.aload_n 0, 1) := by decide +kernel
theorem d8_1 : decode jdk_42_method_151_code 1 = .ok (.invokespecial 1, 3) := by decide +kernel
theorem d8_4 : decode jdk_42_method_151_code 4 = .ok (.aload_n 0, 1) := by decide +kernel
theorem d8_5 : decode jdk_42_method_151_code 5 = .ok (.aload_n 1, 1) := by decide +kernel
theorem d8_6 : decode jdk_42_method_151_code 6 = .ok (.putfield 9, 3) := by decide +kernel
theorem d8_9 : decode jdk_42_method_151_code 9 = .ok (.aload_n 0, 1) := by decide +kernel
theorem d8_10 : decode jdk_42_method_151_code 10 = .ok (.iload_n 2, 1) := by decide +kernel
theorem d8_11 : decode jdk_42_method_151_code 11 = .ok (.putfield 15, 3) := by decide +kernel
theorem d8_14 : decode jdk_42_method_151_code 14 = .ok (.return_, 1) := by decide +kernel
theorem ef_ct_sibb (x : Addr) (b : Addr) (v0 : Value) (c0 : Value) (m : MethodId) : entryFrame m #[(.ref x), (.ref b), (.int (0 : Int32))] 3 = mkF m 0 #[.val (.ref x), .val (.ref b), .val (.int (0 : Int32))] [] := by first | (simp [entryFrame, mkF, argsToLocals, Value.category]; done) | rfl
set_option maxRecDepth 65536 in
set_option maxHeartbeats 4000000 in
theorem ct_sibb {l : Launch} {Z : State} {a0 : Array Value} (G : Env1 Z a0) (x : Addr) (b : Addr) (v0 : Value) (c0 : Value) (h0 : Heap) (A : Exa Z h0 x STN) (F0 : Fld Z h0 x STN "value" "[B" v0) (F1 : Fld Z h0 x STN "coder" "B" c0) :
    Ct l Z EL1 [x] [] (⟨"java/lang/String", "<init>", "([BB)V"⟩ : MethodName) jdk_42_method_151_code 3 none ({ frames := 1, cells := 0, slots := 0, locals := 12 } : Room) #[(.ref x), (.ref b), (.int (0 : Int32))] h0 (fun v h => v = none ∧ Keep h0 h [x] ∧ Fld Z h x STN "value" "[B" (.ref b) ∧ Fld Z h x STN "coder" "B" (.int 0)) := by
  refine Ct.of_seg (a0 := a0) (plainFor_of_name pn_java_lang_String) G.2.1 (ef_ct_sibb x b v0 c0) ?_
  refine Seg.aloadN d8_0 rfl rfl (pc' := 1) rfl ?_
  refine Seg.initO (wd G 15 rfl) (wd G 16 rfl) (wd G 17 rfl) rfl d8_1 (pc' := 4) rfl (by decide) (W := 0) (Nat.le_of_eq rfl) (by decide) ?_
  refine Seg.aloadN d8_4 rfl rfl (pc' := 5) rfl ?_
  refine Seg.aloadN d8_5 rfl rfl (pc' := 6) rfl ?_
  refine Seg.putF (host := "") (ty := (.array .byte)) (v' := (.ref b)) (wd G 24 rfl) Via.refl F0 A (Or.inr ⟨(wd G 20 rfl), rfl, rfl⟩) (wd G 6 rfl) (by decide) rfl rfl (List.mem_of_getElem? (i := 0) rfl) d8_6 (pc' := 9) rfl ?_
  intro h_3 W_1 F_2
  refine Seg.aloadN d8_9 rfl rfl (pc' := 10) rfl ?_
  refine Seg.iloadN d8_10 rfl (pc' := 11) rfl ?_
  have F_4 := (F1.other W_1 (Or.inr (slot_ne (Or.inr (wd G 21 rfl)) (Or.inr (wd G 20 rfl)) (by decide) (t := .byte) (t' := (.array .byte)) (by decide) (by decide))))
  have F_5 := (A.wr W_1)
  refine Seg.putF (host := "") (ty := .byte) (v' := (.int (0 : Int32))) (wd G 25 rfl) Via.refl F_4 F_5 (Or.inr ⟨(wd G 21 rfl), rfl, rfl⟩) (wd G 6 rfl) (by decide) rfl rfl (List.mem_of_getElem? (i := 0) rfl) d8_11 (pc' := 14) rfl ?_
  intro h_8 W_6 F_7
  have F_9 := (F_2.other W_6 (Or.inr (slot_ne (Or.inr (wd G 20 rfl)) (Or.inr (wd G 21 rfl)) (by decide) (t := (.array .byte)) (t' := .byte) (by decide) (by decide))))
  exact Seg.ret0 rfl d8_14 (by decide) (by decide) ⟨rfl, (((Keep.refl h0 [x]).wr W_1 (Or.inl (List.mem_of_getElem? (i := 0) rfl))).wr W_6 (Or.inl (List.mem_of_getElem? (i := 0) rfl))), F_9, F_7⟩
theorem d5_0 : decode jdk_42_method_139_code 0 = .ok (.getstatic 38, 3) := by decide +kernel
theorem d5_3 : decode jdk_42_method_139_code 3 = .ok (.ifCond .eq 23, 3) := by decide +kernel
theorem d5_6 : decode jdk_42_method_139_code 6 = .ok (.iload_n 0, 1) := by decide +kernel
theorem d5_7 : decode jdk_42_method_139_code 7 = .ok (.invokestatic 1015, 3) := by decide +kernel
theorem pd_1 : parseMethodDescriptor "(C)Z" = some ⟨[.char], some .boolean⟩ := by decide +kernel
theorem d5_10 : decode jdk_42_method_139_code 10 = .ok (.ifCond .eq 16, 3) := by decide +kernel
theorem d5_13 : decode jdk_42_method_139_code 13 = .ok (.new 10, 3) := by decide +kernel
theorem d5_16 : decode jdk_42_method_139_code 16 = .ok (.dup, 1) := by decide +kernel
theorem d5_17 : decode jdk_42_method_139_code 17 = .ok (.iload_n 0, 1) := by decide +kernel
theorem d5_18 : decode jdk_42_method_139_code 18 = .ok (.invokestatic 1018, 3) := by decide +kernel
theorem pd_2 : parseMethodDescriptor "(C)[B" = some ⟨[.char], some (.array .byte)⟩ := by decide +kernel
theorem d5_21 : decode jdk_42_method_139_code 21 = .ok (.iconst 0, 1) := by decide +kernel
theorem d5_22 : decode jdk_42_method_139_code 22 = .ok (.invokespecial 209, 3) := by decide +kernel
theorem pd_3 : parseMethodDescriptor "([BB)V" = some ⟨[(.array .byte), .byte], none⟩ := by decide +kernel
theorem d5_25 : decode jdk_42_method_139_code 25 = .ok (.areturn, 1) := by decide +kernel
theorem ef_ct_vof (u : Int32) (m : MethodId) : entryFrame m #[(.int u)] 1 = mkF m 0 #[.val (.int u)] [] := by first | (simp [entryFrame, mkF, argsToLocals, Value.category]; done) | rfl
set_option maxRecDepth 65536 in
set_option maxHeartbeats 4000000 in
theorem ct_vof {l : Launch} {Z : State} {a0 : Array Value} (G : Env1 Z a0) (u : Int32) (h0 : Heap) (hc : ¬ u < 0 ∧ ¬ (255 : Int32) < u) :
    Ct l Z EL1 [] [] (⟨"java/lang/String", "valueOf", "(C)Ljava/lang/String;"⟩ : MethodName) jdk_42_method_139_code 1 (some (.object "java/lang/String")) ({ frames := 2, cells := 2, slots := 5, locals := 27 } : Room) #[(.int u)] h0 (fun v h => ∃ r, v = some (.ref r) ∧ Ext h0 h ∧ Str Z h r [u]) := by
  refine Ct.of_seg (a0 := a0) (plainFor_of_name pn_java_lang_String) G.2.1 (ef_ct_vof u) ?_
  obtain ⟨zc, Sc, hz⟩ := G.2.2.1
  refine Seg.getS (wd G 29 rfl) Via.refl Sc d5_0 (pc' := 3) rfl ?_
  refine Seg.ifN d5_3 (XT.i0_eq_f hz) (pc' := 6) rfl ?_
  refine Seg.iloadN d5_6 rfl (pc' := 7) rfl ?_
  refine Seg.callS (y' := (⟨"java/lang/StringLatin1", "canEncode", "(C)Z"⟩ : MethodName)) (wd G 30 rfl) (wd G 31 rfl) (wd G 32 rfl) (wd G 33 rfl) ⟨by decide, by decide⟩ (Pays.of_ct (W := 0) (ct_canEnc G u h0 hc) all0 (wd G 33 rfl) (wd G 32 rfl) (by decide) (by decide) rfl rfl) (argsL := [(.int u)]) (rest := []) rfl (lenOf pd_1 rfl) rfl (Nat.le_of_eq rfl) rfl d5_7 (pc' := 10) rfl (k' := 0) (n' := 0) rfl rfl (by decide) (by decide) ?_
  intro v_1 h_4 sz_2 q_3
  obtain ⟨rfl, rfl⟩ := q_3
  refine Seg.ifN d5_10 (by decide) (pc' := 13) rfl ?_
  refine Seg.newO (wd G 34 rfl) (wd G 6 rfl) (wd G 7 rfl) d5_13 (pc' := 16) rfl (k' := 1) (n' := 4) rfl rfl (by decide) (by decide) ?_
  intro b_5 h_7 E_6 e_b_5 l_b_5 A_b_5 D_b_5
  have F_value_b_5 : Fld Z h_7 b_5 "java/lang/String" "value" "[B" Value.null := D_b_5 (Or.inr (wd G 20 rfl)) (ty := (.array .byte)) (by decide)
  have F_coder_b_5 : Fld Z h_7 b_5 "java/lang/String" "coder" "B" (.int (0 : Int32)) := D_b_5 (Or.inr (wd G 21 rfl)) (ty := .byte) (by decide)
  refine Seg.dup d5_16 rfl (pc' := 17) rfl ?_
  refine Seg.iloadN d5_17 rfl (pc' := 18) rfl ?_
  refine Seg.callS (y' := (⟨"java/lang/StringLatin1", "toBytes", "(C)[B"⟩ : MethodName)) (wd G 35 rfl) (wd G 36 rfl) (wd G 32 rfl) (wd G 37 rfl) ⟨by decide, by decide⟩ (Pays.of_ct (W := 2) (ct_toB G u h_7) all0 (wd G 37 rfl) (wd G 32 rfl) (by decide) (by decide) rfl rfl) (argsL := [(.int u)]) (rest := [(.ref b_5), (.ref b_5)]) rfl (lenOf pd_2 rfl) rfl (Nat.le_of_eq rfl) rfl d5_18 (pc' := 21) rfl (k' := 2) (n' := 5) rfl rfl (by decide) (by decide) ?_
  intro v_8 h_11 sz_9 q_10
  obtain ⟨r1, kc1, rfl, E91, g91, A91⟩ := q_10
  refine Seg.iconst (v := 0) d5_21 (by decide) (pc' := 22) rfl ?_
  have F_12 := A_b_5.ext E91
  have F_13 := F_value_b_5.ext E91
  have F_14 := F_coder_b_5.ext E91
  refine Seg.callN (y' := (⟨"java/lang/String", "<init>", "([BB)V"⟩ : MethodName)) (a := b_5) rfl (wd G 38 rfl) (wd G 39 rfl) (wd G 40 rfl) ⟨by decide, by decide⟩ (Pays.of_ct (W := 1) (ct_sibb G b_5 r1 .null (.int 0) h_11 F_12 F_13 F_14) (allS (List.mem_of_getElem? (i := 0) rfl) all0) (wd G 40 rfl) (wd G 7 rfl) (by decide) (by decide) rfl rfl) (argsL := [(.ref r1), (.int (0 : Int32))]) (rest := [(.ref b_5)]) rfl (lenOf pd_3 rfl) rfl (Nat.le_of_eq rfl) rfl d5_22 (pc' := 25) rfl (k' := 2) (n' := 5) rfl rfl (by decide) (by decide) ?_
  intro v_15 h_18 sz_16 q_17
  obtain ⟨rfl, K92, F92, F93⟩ := q_17
  have F_19 := (A91.keep K92 (ninS (Nat.ne_of_gt (Nat.lt_of_lt_of_le l_b_5 (Nat.le_trans (Nat.le_refl _) g91))) nin0))
  have E_20 : Ext h0 h_11 := ext_tr E_6 E91
  have E_21 : Ext h0 h_18 := ext_kp E_20 K92 (allS (Nat.le_trans (ext_rfl _).1 (Nat.le_of_eq e_b_5)) all0)
  have F_22 := (F_12.keep K92)
  exact Seg.retA rfl rfl rfl d5_25 (by decide) (by decide) ⟨b_5, rfl, E_21, r1, kc1, 0, 1, _, F_22, F92, F93, F_19, StrChars.Road.codOf (cs := [u]) rfl (fun c hc' => by cases List.mem_singleton.mp hc'; exact hc.2), le16 (fun c hc' => by cases List.mem_singleton.mp hc'; exact hc), (by decide : 1 ≤ 4000)⟩
theorem d18_0 : decode jdk_31_method_11_code 0 = .ok (.aload_n 0, 1) := by decide +kernel
theorem d18_1 : decode jdk_31_method_11_code 1 = .ok (.ifnonnull 12, 3) := by decide +kernel
theorem d18_13 : decode jdk_31_method_11_code 13 = .ok (.aload_n 0, 1) := by decide +kernel
theorem d18_14 : decode jdk_31_method_11_code 14 = .ok (.areturn, 1) := by decide +kernel
theorem pn_java_util_Objects : plainName "java/util/Objects" = true := by first | (simp [plainName, overriddenIn]; done) | decide +kernel
theorem ef_ct_req (a : Addr) (b : Addr) (m : MethodId) : entryFrame m #[(.ref a), (.ref b)] 2 = mkF m 0 #[.val (.ref a), .val (.ref b)] [] := by first | (simp [entryFrame, mkF, argsToLocals, Value.category]; done) | rfl
set_option maxRecDepth 65536 in
set_option maxHeartbeats 4000000 in
theorem ct_req {l : Launch} {Z : State} {a0 : Array Value} (G : Env1 Z a0) (a : Addr) (b : Addr) (h0 : Heap) :
    Ct l Z EL1 [] [] (⟨"java/util/Objects", "requireNonNull", "(Ljava/lang/Object;Ljava/lang/String;)Ljava/lang/Object;"⟩ : MethodName) jdk_31_method_11_code 2 (some (.object "java/lang/Object")) ({ frames := 0, cells := 0, slots := 0, locals := 0 } : Room) #[(.ref a), (.ref b)] h0 (fun v h => v = some (.ref a) ∧ h0 = h) := by
  refine Ct.of_seg (a0 := a0) (plainFor_of_name pn_java_util_Objects) G.2.1 (ef_ct_req a b) ?_
  refine Seg.aloadN d18_0 rfl rfl (pc' := 1) rfl ?_
  refine Seg.nonnY (pc' := 13) d18_1 (by decide) (by decide) ?_
  refine Seg.aloadN d18_13 rfl rfl (pc' := 14) rfl ?_
  exact Seg.retA rfl rfl rfl d18_14 (by decide) (by decide) ⟨rfl, rfl⟩
theorem d29_0 : decode jdk_42_method_154_code 0 = .ok (.getstatic 38, 3) := by decide +kernel
theorem d29_3 : decode jdk_42_method_154_code 3 = .ok (.ifCond .eq 14, 3) := by decide +kernel
theorem d29_6 : decode jdk_42_method_154_code 6 = .ok (.aload_n 0, 1) := by decide +kernel
theorem d29_7 : decode jdk_42_method_154_code 7 = .ok (.getfield 15, 3) := by decide +kernel
theorem d29_10 : decode jdk_42_method_154_code 10 = .ok (.ifCond .ne 7, 3) := by decide +kernel
theorem d29_13 : decode jdk_42_method_154_code 13 = .ok (.iconst 1, 1) := by decide +kernel
theorem d29_14 : decode jdk_42_method_154_code 14 = .ok (.goto 4, 3) := by decide +kernel
theorem d29_18 : decode jdk_42_method_154_code 18 = .ok (.ireturn, 1) := by decide +kernel
theorem ef_ct_isL (a : Addr) (m : MethodId) : entryFrame m #[(.ref a)] 1 = mkF m 0 #[.val (.ref a)] [] := by first | (simp [entryFrame, mkF, argsToLocals, Value.category]; done) | rfl
set_option maxRecDepth 65536 in
set_option maxHeartbeats 4000000 in
theorem ct_isL {l : Launch} {Z : State} {a0 : Array Value} (G : Env1 Z a0) (a : Addr) (h0 : Heap) (F : Fld Z h0 a STN "coder" "B" (.int 0)) :
    Ct l Z EL1 [] [] (⟨"java/lang/String", "isLatin1", "()Z"⟩ : MethodName) jdk_42_method_154_code 1 (some .boolean) ({ frames := 0, cells := 0, slots := 0, locals := 0 } : Room) #[(.ref a)] h0 (fun v h => v = some (.int 1) ∧ h0 = h) := by
  refine Ct.of_seg (a0 := a0) (plainFor_of_name pn_java_lang_String) G.2.1 (ef_ct_isL a) ?_
  obtain ⟨zc, Sc, hz⟩ := G.2.2.1
  refine Seg.getS (wd G 29 rfl) Via.refl Sc d29_0 (pc' := 3) rfl ?_
  refine Seg.ifN d29_3 (XT.i0_eq_f hz) (pc' := 6) rfl ?_
  refine Seg.aloadN d29_6 rfl rfl (pc' := 7) rfl ?_
  refine Seg.getF (host := "") (Or.inl (wd G 25 rfl)) Via.refl F d29_7 (pc' := 10) rfl ?_
  refine Seg.ifN d29_10 (by decide) (pc' := 13) rfl ?_
  refine Seg.iconst (v := 1) d29_13 (by decide) (pc' := 14) rfl ?_
  refine Seg.goto (pc' := 18) d29_14 (by decide) (by decide) ?_
  exact Seg.retN (t := .boolean) (w := (1 : Int32)) rfl (by decide) (by decide) d29_18 (by decide) (by decide) ⟨rfl, rfl⟩
theorem d33_0 : decode jdk_43_method_4_code 0 = .ok (.iload_n 0, 1) := by decide +kernel
theorem d33_1 : decode jdk_43_method_4_code 1 = .ok (.ifCond .lt 14, 3) := by decide +kernel
theorem d33_4 : decode jdk_43_method_4_code 4 = .ok (.iload_n 0, 1) := by decide +kernel
theorem d33_5 : decode jdk_43_method_4_code 5 = .ok (.sipush 255, 3) := by decide +kernel
theorem d33_8 : decode jdk_43_method_4_code 8 = .ok (.if_icmp .gt 7, 3) := by decide +kernel
theorem d33_11 : decode jdk_43_method_4_code 11 = .ok (.iconst 1, 1) := by decide +kernel
theorem d33_12 : decode jdk_43_method_4_code 12 = .ok (.goto 4, 3) := by decide +kernel
theorem d33_16 : decode jdk_43_method_4_code 16 = .ok (.ireturn, 1) := by decide +kernel
theorem ef_ct_canE0 (m : MethodId) : entryFrame m #[(.int (0 : Int32))] 1 = mkF m 0 #[.val (.int (0 : Int32))] [] := by first | (simp [entryFrame, mkF, argsToLocals, Value.category]; done) | rfl
set_option maxRecDepth 65536 in
set_option maxHeartbeats 4000000 in
theorem ct_canE0 {l : Launch} {Z : State} {a0 : Array Value} (G : Env1 Z a0) (h0 : Heap) :
    Ct l Z EL1 [] [] (⟨"java/lang/StringLatin1", "canEncode", "(I)Z"⟩ : MethodName) jdk_43_method_4_code 1 (some .boolean) ({ frames := 0, cells := 0, slots := 0, locals := 0 } : Room) #[(.int (0 : Int32))] h0 (fun v h => v = some (.int 1) ∧ h0 = h) := by
  refine Ct.of_seg (a0 := a0) (plainFor_of_name pn_java_lang_StringLatin1) G.2.1 (ef_ct_canE0 ) ?_
  refine Seg.iloadN d33_0 rfl (pc' := 1) rfl ?_
  refine Seg.ifN d33_1 (by decide) (pc' := 4) rfl ?_
  refine Seg.iloadN d33_4 rfl (pc' := 5) rfl ?_
  refine Seg.sipush (v := 255) d33_5 (by decide) (pc' := 8) rfl ?_
  refine Seg.icN d33_8 (by decide) (pc' := 11) rfl ?_
  refine Seg.iconst (v := 1) d33_11 (by decide) (pc' := 12) rfl ?_
  refine Seg.goto (pc' := 16) d33_12 (by decide) (by decide) ?_
  exact Seg.retN (t := .boolean) (w := (1 : Int32)) rfl (by decide) (by decide) d33_16 (by decide) (by decide) ⟨rfl, rfl⟩
theorem d34_0 : decode jdk_29_method_65_code 0 = .ok (.iload_n 0, 1) := by decide +kernel
theorem d34_1 : decode jdk_29_method_65_code 1 = .ok (.iload_n 1, 1) := by decide +kernel
theorem d34_2 : decode jdk_29_method_65_code 2 = .ok (.if_icmp .lt 7, 3) := by decide +kernel
theorem d34_5 : decode jdk_29_method_65_code 5 = .ok (.iload_n 0, 1) := by decide +kernel
theorem d34_6 : decode jdk_29_method_65_code 6 = .ok (.goto 4, 3) := by decide +kernel
theorem d34_10 : decode jdk_29_method_65_code 10 = .ok (.ireturn, 1) := by decide +kernel
theorem pf_java_lang_Math_max__II_I : plainFor (⟨"java/lang/Math", "max", "(II)I"⟩ : MethodName) = true := by decide +kernel
theorem ef_ct_max00 (m : MethodId) : entryFrame m #[(.int (0 : Int32)), (.int (0 : Int32))] 2 = mkF m 0 #[.val (.int (0 : Int32)), .val (.int (0 : Int32))] [] := by first | (simp [entryFrame, mkF, argsToLocals, Value.category]; done) | rfl
set_option maxRecDepth 65536 in
set_option maxHeartbeats 4000000 in
theorem ct_max00 {l : Launch} {Z : State} {a0 : Array Value} (G : Env1 Z a0) (h0 : Heap) :
    Ct l Z EL1 [] [] (⟨"java/lang/Math", "max", "(II)I"⟩ : MethodName) jdk_29_method_65_code 2 (some .int) ({ frames := 0, cells := 0, slots := 0, locals := 0 } : Room) #[(.int (0 : Int32)), (.int (0 : Int32))] h0 (fun v h => v = some (.int 0) ∧ h0 = h) := by
  refine Ct.of_seg (a0 := a0) pf_java_lang_Math_max__II_I G.2.1 (ef_ct_max00 ) ?_
  refine Seg.iloadN d34_0 rfl (pc' := 1) rfl ?_
  refine Seg.iloadN d34_1 rfl (pc' := 2) rfl ?_
  refine Seg.icN d34_2 (by decide) (pc' := 5) rfl ?_
  refine Seg.iloadN d34_5 rfl (pc' := 6) rfl ?_
  refine Seg.goto (pc' := 10) d34_6 (by decide) (by decide) ?_
  exact Seg.retI rfl d34_10 (by decide) (by decide) ⟨rfl, rfl⟩
theorem d35_0 : decode jdk_29_method_69_code 0 = .ok (.iload_n 0, 1) := by decide +kernel
theorem d35_1 : decode jdk_29_method_69_code 1 = .ok (.iload_n 1, 1) := by decide +kernel
theorem d35_2 : decode jdk_29_method_69_code 2 = .ok (.if_icmp .gt 7, 3) := by decide +kernel
theorem d35_5 : decode jdk_29_method_69_code 5 = .ok (.iload_n 0, 1) := by decide +kernel
theorem d35_6 : decode jdk_29_method_69_code 6 = .ok (.goto 4, 3) := by decide +kernel
theorem d35_10 : decode jdk_29_method_69_code 10 = .ok (.ireturn, 1) := by decide +kernel
theorem pf_java_lang_Math_min__II_I : plainFor (⟨"java/lang/Math", "min", "(II)I"⟩ : MethodName) = true := by decide +kernel
theorem ef_ct_minNN (u : Int32) (m : MethodId) : entryFrame m #[(.int u), (.int u)] 2 = mkF m 0 #[.val (.int u), .val (.int u)] [] := by first | (simp [entryFrame, mkF, argsToLocals, Value.category]; done) | rfl
set_option maxRecDepth 65536 in
set_option maxHeartbeats 4000000 in
theorem ct_minNN {l : Launch} {Z : State} {a0 : Array Value} (G : Env1 Z a0) (u : Int32) (h0 : Heap) :
    Ct l Z EL1 [] [] (⟨"java/lang/Math", "min", "(II)I"⟩ : MethodName) jdk_29_method_69_code 2 (some .int) ({ frames := 0, cells := 0, slots := 0, locals := 0 } : Room) #[(.int u), (.int u)] h0 (fun v h => v = some (.int u) ∧ h0 = h) := by
  refine Ct.of_seg (a0 := a0) pf_java_lang_Math_min__II_I G.2.1 (ef_ct_minNN u) ?_
  refine Seg.iloadN d35_0 rfl (pc' := 1) rfl ?_
  refine Seg.iloadN d35_1 rfl (pc' := 2) rfl ?_
  refine Seg.icN d35_2 (XT.ii_gt_f Int32.lt_irrefl) (pc' := 5) rfl ?_
  refine Seg.iloadN d35_5 rfl (pc' := 6) rfl ?_
  refine Seg.goto (pc' := 10) d35_6 (by decide) (by decide) ?_
  exact Seg.retI rfl d35_10 (by decide) (by decide) ⟨rfl, rfl⟩
theorem d36_7 : decode jdk_43_method_23_code 7 = .ok (.iload 5, 2) := by decide +kernel
theorem d36_9 : decode jdk_43_method_23_code 9 = .ok (.iload_n 3, 1) := by decide +kernel
theorem d36_10 : decode jdk_43_method_23_code 10 = .ok (.if_icmp .ge 21, 3) := by decide +kernel
theorem d36_31 : decode jdk_43_method_23_code 31 = .ok (.iconst (-1), 1) := by decide +kernel
theorem d36_32 : decode jdk_43_method_23_code 32 = .ok (.ireturn, 1) := by decide +kernel
theorem d36_13 : decode jdk_43_method_23_code 13 = .ok (.aload_n 0, 1) := by decide +kernel
theorem d36_14 : decode jdk_43_method_23_code 14 = .ok (.iload 5, 2) := by decide +kernel
theorem d36_16 : decode jdk_43_method_23_code 16 = .ok (.baload, 1) := by decide +kernel
theorem d36_17 : decode jdk_43_method_23_code 17 = .ok (.iload 4, 2) := by decide +kernel
theorem d36_19 : decode jdk_43_method_23_code 19 = .ok (.if_icmp .ne 6, 3) := by decide +kernel
theorem d36_25 : decode jdk_43_method_23_code 25 = .ok (.iinc 5 1, 3) := by decide +kernel
theorem d36_28 : decode jdk_43_method_23_code 28 = .ok (.goto (-21), 3) := by decide +kernel
set_option maxRecDepth 65536 in
set_option maxHeartbeats 4000000 in
theorem lp_ioc {l : Launch} {Z : State} {a0 : Array Value} (G : Env1 Z a0) (b : Addr) (kb : ClassId) (cs : List Int32) (h0 : Heap) (K : Arv Z h0 b kb .byte (Int32.ofNat cs.length) (cs.map fun c => Value.int c.toInt8.toInt32) (.int 0)) (hl : cs.length ≤ 4000) (hn : ∀ c ∈ cs, ¬ c.toInt8.toInt32 = 0) (d : Nat) : ∀ i : Nat, i + d = cs.length →
    Seg l Z a0 EL1 (⟨"java/lang/StringLatin1", "indexOfChar", "([BIII)I"⟩ : MethodName) jdk_43_method_23_code 6 (some .int) ({ frames := 0, cells := 0, slots := 0, locals := 0 } : Room) (fun v h => v = some (.int (-1)) ∧ h0 = h) h0 0 0 [] 7 #[.val (.ref b), .val (.int 0), .val (.int 0), .val (.int (Int32.ofNat cs.length)), .val (.int 0), .val (.int (Int32.ofNat i))] [] := by
  induction d with
  | zero =>
    intro i hd
    refine Seg.iload d36_7 rfl (pc' := 9) rfl ?_
    refine Seg.iloadN d36_9 rfl (pc' := 10) rfl ?_
    refine Seg.icY (pc' := 31) d36_10 (XT.ii_ge_t (n32nlt (by omega) (by omega))) (by decide) (by decide) ?_
    refine Seg.iconst (v := -1) d36_31 (by decide) (pc' := 32) rfl ?_
    exact Seg.retI rfl d36_32 (by decide) (by decide) ⟨rfl, rfl⟩
  | succ d ih =>
    intro i hd
    have hi : i < cs.length := by omega
    refine Seg.iload d36_7 rfl (pc' := 9) rfl ?_
    refine Seg.iloadN d36_9 rfl (pc' := 10) rfl ?_
    refine Seg.icN d36_10 (XT.ii_ge_f (n32lt hi (by omega))) (pc' := 13) rfl ?_
    refine Seg.aloadN d36_13 rfl rfl (pc' := 14) rfl ?_
    refine Seg.iload d36_14 rfl (pc' := 16) rfl ?_
    refine Seg.baload (v := (.int (cs.getD i 0).toInt8.toInt32)) K (n32in hi (by omega)) (by rw [n32c (by omega)]; exact getDmap _ _ _ _ _ hi) d36_16 (pc' := 17) rfl ?_
    refine Seg.iload d36_17 rfl (pc' := 19) rfl ?_
    refine Seg.icY (pc' := 25) d36_19 (XT.ii_ne_t (hn _ (by rw [List.getD_eq_getElem?_getD, List.getElem?_eq_getElem hi]; exact List.getElem_mem hi))) (by decide) (by decide) ?_
    refine Seg.iinc (v := 1) (z := (Int32.ofNat (i + 1))) (L' := #[.val (.ref b), .val (.int (0 : Int32)), .val (.int (0 : Int32)), .val (.int (Int32.ofNat cs.length)), .val (.int (0 : Int32)), .val (.int (Int32.ofNat (i + 1)))]) d36_25 (by decide) rfl (n32s i) rfl (pc' := 28) rfl ?_
    refine Seg.goto (pc' := 7) d36_28 (by decide) (by decide) ?_
    exact ih (i + 1) (by omega)
theorem d36_0 : decode jdk_43_method_23_code 0 = .ok (.iload_n 1, 1) := by decide +kernel
theorem d36_1 : decode jdk_43_method_23_code 1 = .ok (.i2b, 1) := by decide +kernel
theorem d36_2 : decode jdk_43_method_23_code 2 = .ok (.istore 4, 2) := by decide +kernel
theorem d36_4 : decode jdk_43_method_23_code 4 = .ok (.iload_n 2, 1) := by decide +kernel
theorem d36_5 : decode jdk_43_method_23_code 5 = .ok (.istore 5, 2) := by decide +kernel
theorem ef_ct_ioc (b : Addr) (kb : ClassId) (cs : List Int32) (m : MethodId) : entryFrame m #[(.ref b), (.int (0 : Int32)), (.int (0 : Int32)), (.int (Int32.ofNat cs.length))] 6 = mkF m 0 #[.val (.ref b), .val (.int (0 : Int32)), .val (.int (0 : Int32)), .val (.int (Int32.ofNat cs.length)), .unset, .unset] [] := by first | (simp [entryFrame, mkF, argsToLocals, Value.category]; done) | rfl
set_option maxRecDepth 65536 in
set_option maxHeartbeats 4000000 in
theorem ct_ioc {l : Launch} {Z : State} {a0 : Array Value} (G : Env1 Z a0) (b : Addr) (kb : ClassId) (cs : List Int32) (h0 : Heap) (K : Arv Z h0 b kb .byte (Int32.ofNat cs.length) (cs.map fun c => Value.int c.toInt8.toInt32) (.int 0)) (hl : cs.length ≤ 4000) (hn : ∀ c ∈ cs, ¬ c.toInt8.toInt32 = 0) :
    Ct l Z EL1 [] [] (⟨"java/lang/StringLatin1", "indexOfChar", "([BIII)I"⟩ : MethodName) jdk_43_method_23_code 6 (some .int) ({ frames := 0, cells := 0, slots := 0, locals := 0 } : Room) #[(.ref b), (.int (0 : Int32)), (.int (0 : Int32)), (.int (Int32.ofNat cs.length))] h0 (fun v h => v = some (.int (-1)) ∧ h0 = h) := by
  refine Ct.of_seg (a0 := a0) (plainFor_of_name pn_java_lang_StringLatin1) G.2.1 (ef_ct_ioc b kb cs) ?_
  refine Seg.iloadN d36_0 rfl (pc' := 1) rfl ?_
  refine Seg.i2b (v := (0 : Int32)) d36_1 (by decide) (pc' := 2) rfl ?_
  refine Seg.istore (L' := #[.val (.ref b), .val (.int (0 : Int32)), .val (.int (0 : Int32)), .val (.int (Int32.ofNat cs.length)), .val (.int (0 : Int32)), .unset]) d36_2 rfl (pc' := 4) rfl ?_
  refine Seg.iloadN d36_4 rfl (pc' := 5) rfl ?_
  refine Seg.istore (L' := #[.val (.ref b), .val (.int (0 : Int32)), .val (.int (0 : Int32)), .val (.int (Int32.ofNat cs.length)), .val (.int (0 : Int32)), .val (.int (0 : Int32))]) d36_5 rfl (pc' := 7) rfl ?_
  exact lp_ioc G b kb cs h0 K hl hn cs.length 0 (by omega)
theorem d32_0 : decode jdk_43_method_22_code 0 = .ok (.iload_n 1, 1) := by decide +kernel
theorem d32_1 : decode jdk_43_method_22_code 1 = .ok (.invokestatic 88, 3) := by decide +kernel
theorem pd_4 : parseMethodDescriptor "(I)Z" = some ⟨[.int], some .boolean⟩ := by decide +kernel
theorem d32_4 : decode jdk_43_method_22_code 4 = .ok (.ifCond .ne 5, 3) := by decide +kernel
theorem d32_9 : decode jdk_43_method_22_code 9 = .ok (.iload_n 2, 1) := by decide +kernel
theorem d32_10 : decode jdk_43_method_22_code 10 = .ok (.iconst 0, 1) := by decide +kernel
theorem d32_11 : decode jdk_43_method_22_code 11 = .ok (.invokestatic 92, 3) := by decide +kernel
theorem pd_5 : parseMethodDescriptor "(II)I" = some ⟨[.int, .int], some .int⟩ := by decide +kernel
theorem d32_14 : decode jdk_43_method_22_code 14 = .ok (.istore_n 2, 1) := by decide +kernel
theorem d32_15 : decode jdk_43_method_22_code 15 = .ok (.iload_n 3, 1) := by decide +kernel
theorem d32_16 : decode jdk_43_method_22_code 16 = .ok (.aload_n 0, 1) := by decide +kernel
theorem d32_17 : decode jdk_43_method_22_code 17 = .ok (.arraylength, 1) := by decide +kernel
theorem d32_18 : decode jdk_43_method_22_code 18 = .ok (.invokestatic 38, 3) := by decide +kernel
theorem d32_21 : decode jdk_43_method_22_code 21 = .ok (.istore_n 3, 1) := by decide +kernel
theorem d32_22 : decode jdk_43_method_22_code 22 = .ok (.iload_n 2, 1) := by decide +kernel
theorem d32_23 : decode jdk_43_method_22_code 23 = .ok (.iload_n 3, 1) := by decide +kernel
theorem d32_24 : decode jdk_43_method_22_code 24 = .ok (.if_icmp .lt 5, 3) := by decide +kernel
theorem d32_29 : decode jdk_43_method_22_code 29 = .ok (.aload_n 0, 1) := by decide +kernel
theorem d32_30 : decode jdk_43_method_22_code 30 = .ok (.iload_n 1, 1) := by decide +kernel
theorem d32_31 : decode jdk_43_method_22_code 31 = .ok (.iload_n 2, 1) := by decide +kernel
theorem d32_32 : decode jdk_43_method_22_code 32 = .ok (.iload_n 3, 1) := by decide +kernel
theorem d32_33 : decode jdk_43_method_22_code 33 = .ok (.invokestatic 95, 3) := by decide +kernel
theorem pd_6 : parseMethodDescriptor "([BIII)I" = some ⟨[(.array .byte), .int, .int, .int], some .int⟩ := by decide +kernel
theorem d32_36 : decode jdk_43_method_22_code 36 = .ok (.ireturn, 1) := by decide +kernel
theorem ef_ct_iol (b : Addr) (kb : ClassId) (cs : List Int32) (m : MethodId) : entryFrame m #[(.ref b), (.int (0 : Int32)), (.int (0 : Int32)), (.int (Int32.ofNat cs.length))] 4 = mkF m 0 #[.val (.ref b), .val (.int (0 : Int32)), .val (.int (0 : Int32)), .val (.int (Int32.ofNat cs.length))] [] := by first | (simp [entryFrame, mkF, argsToLocals, Value.category]; done) | rfl
set_option maxRecDepth 65536 in
set_option maxHeartbeats 4000000 in
theorem ct_iol {l : Launch} {Z : State} {a0 : Array Value} (G : Env1 Z a0) (b : Addr) (kb : ClassId) (cs : List Int32) (h0 : Heap) (K : Arv Z h0 b kb .byte (Int32.ofNat cs.length) (cs.map fun c => Value.int c.toInt8.toInt32) (.int 0)) (hl : cs.length ≤ 4000) (hn : ∀ c ∈ cs, ¬ c.toInt8.toInt32 = 0) (h1 : 0 < cs.length) :
    Ct l Z EL1 [] [] (⟨"java/lang/StringLatin1", "indexOf", "([BIII)I"⟩ : MethodName) jdk_43_method_22_code 4 (some .int) ({ frames := 1, cells := 0, slots := 0, locals := 17 } : Room) #[(.ref b), (.int (0 : Int32)), (.int (0 : Int32)), (.int (Int32.ofNat cs.length))] h0 (fun v h => v = some (.int (-1)) ∧ h0 = h) := by
  refine Ct.of_seg (a0 := a0) (plainFor_of_name pn_java_lang_StringLatin1) G.2.1 (ef_ct_iol b kb cs) ?_
  refine Seg.iloadN d32_0 rfl (pc' := 1) rfl ?_
  refine Seg.callS (y' := (⟨"java/lang/StringLatin1", "canEncode", "(I)Z"⟩ : MethodName)) (wd G 158 rfl) (wd G 159 rfl) (wd G 32 rfl) (wd G 160 rfl) ⟨by decide, by decide⟩ (Pays.of_ct (W := 0) (ct_canE0 G  h0) all0 (wd G 160 rfl) (wd G 32 rfl) (by decide) (by decide) rfl rfl) (argsL := [(.int (0 : Int32))]) (rest := []) rfl (lenOf pd_4 rfl) rfl (Nat.le_of_eq rfl) rfl d32_1 (pc' := 4) rfl (k' := 0) (n' := 0) rfl rfl (by decide) (by decide) ?_
  intro v_1 h_4 sz_2 q_3
  obtain ⟨rfl, rfl⟩ := q_3
  refine Seg.ifY (pc' := 9) d32_4 (by decide) (by decide) (by decide) ?_
  refine Seg.iloadN d32_9 rfl (pc' := 10) rfl ?_
  refine Seg.iconst (v := 0) d32_10 (by decide) (pc' := 11) rfl ?_
  refine Seg.callS (y' := (⟨"java/lang/Math", "max", "(II)I"⟩ : MethodName)) (wd G 161 rfl) (wd G 162 rfl) (wd G 163 rfl) (wd G 164 rfl) ⟨by decide, by decide⟩ (Pays.of_ct (W := 0) (ct_max00 G  h0) all0 (wd G 164 rfl) (wd G 163 rfl) (by decide) (by decide) rfl rfl) (argsL := [(.int (0 : Int32)), (.int (0 : Int32))]) (rest := []) rfl (lenOf pd_5 rfl) rfl (Nat.le_of_eq rfl) rfl d32_11 (pc' := 14) rfl (k' := 0) (n' := 0) rfl rfl (by decide) (by decide) ?_
  intro v_5 h_8 sz_6 q_7
  obtain ⟨rfl, rfl⟩ := q_7
  refine Seg.istoreN (L' := #[.val (.ref b), .val (.int (0 : Int32)), .val (.int (0 : Int32)), .val (.int (Int32.ofNat cs.length))]) d32_14 rfl (pc' := 15) rfl ?_
  refine Seg.iloadN d32_15 rfl (pc' := 16) rfl ?_
  refine Seg.aloadN d32_16 rfl rfl (pc' := 17) rfl ?_
  refine Seg.alen K d32_17 (pc' := 18) rfl ?_
  refine Seg.callS (y' := (⟨"java/lang/Math", "min", "(II)I"⟩ : MethodName)) (wd G 165 rfl) (wd G 166 rfl) (wd G 163 rfl) (wd G 167 rfl) ⟨by decide, by decide⟩ (Pays.of_ct (W := 0) (ct_minNN G (Int32.ofNat cs.length) h0) all0 (wd G 167 rfl) (wd G 163 rfl) (by decide) (by decide) rfl rfl) (argsL := [(.int (Int32.ofNat cs.length)), (.int (Int32.ofNat cs.length))]) (rest := []) rfl (lenOf pd_5 rfl) rfl (Nat.le_of_eq rfl) rfl d32_18 (pc' := 21) rfl (k' := 0) (n' := 0) rfl rfl (by decide) (by decide) ?_
  intro v_9 h_12 sz_10 q_11
  obtain ⟨rfl, rfl⟩ := q_11
  refine Seg.istoreN (L' := #[.val (.ref b), .val (.int (0 : Int32)), .val (.int (0 : Int32)), .val (.int (Int32.ofNat cs.length))]) d32_21 rfl (pc' := 22) rfl ?_
  refine Seg.iloadN d32_22 rfl (pc' := 23) rfl ?_
  refine Seg.iloadN d32_23 rfl (pc' := 24) rfl ?_
  refine Seg.icY (pc' := 29) d32_24 (XT.ii_lt_t (n32lt (i := 0) h1 (by omega))) (by decide) (by decide) ?_
  refine Seg.aloadN d32_29 rfl rfl (pc' := 30) rfl ?_
  refine Seg.iloadN d32_30 rfl (pc' := 31) rfl ?_
  refine Seg.iloadN d32_31 rfl (pc' := 32) rfl ?_
  refine Seg.iloadN d32_32 rfl (pc' := 33) rfl ?_
  refine Seg.callS (y' := (⟨"java/lang/StringLatin1", "indexOfChar", "([BIII)I"⟩ : MethodName)) (wd G 168 rfl) (wd G 169 rfl) (wd G 32 rfl) (wd G 170 rfl) ⟨by decide, by decide⟩ (Pays.of_ct (W := 0) (ct_ioc G b kb cs h0 K hl hn) all0 (wd G 170 rfl) (wd G 32 rfl) (by decide) (by decide) rfl rfl) (argsL := [(.ref b), (.int (0 : Int32)), (.int (0 : Int32)), (.int (Int32.ofNat cs.length))]) (rest := []) rfl (lenOf pd_6 rfl) rfl (Nat.le_of_eq rfl) rfl d32_33 (pc' := 36) rfl (k' := 0) (n' := 0) rfl rfl (by decide) (by decide) ?_
  intro v_13 h_16 sz_14 q_15
  obtain ⟨rfl, rfl⟩ := q_15
  exact Seg.retI rfl d32_36 (by decide) (by decide) ⟨rfl, rfl⟩
theorem d28_0 : decode jdk_42_method_80_code 0 = .ok (.aload_n 0, 1) := by decide +kernel
theorem d28_1 : decode jdk_42_method_80_code 1 = .ok (.invokevirtual 492, 3) := by decide +kernel
theorem pd_7 : parseMethodDescriptor "()Z" = some ⟨[], some .boolean⟩ := by decide +kernel
theorem d28_4 : decode jdk_42_method_80_code 4 = .ok (.ifCond .eq 19, 3) := by decide +kernel
theorem d28_7 : decode jdk_42_method_80_code 7 = .ok (.aload_n 0, 1) := by decide +kernel
theorem d28_8 : decode jdk_42_method_80_code 8 = .ok (.getfield 9, 3) := by decide +kernel
theorem d28_11 : decode jdk_42_method_80_code 11 = .ok (.iload_n 1, 1) := by decide +kernel
theorem d28_12 : decode jdk_42_method_80_code 12 = .ok (.iload_n 2, 1) := by decide +kernel
theorem d28_13 : decode jdk_42_method_80_code 13 = .ok (.aload_n 0, 1) := by decide +kernel
theorem d28_14 : decode jdk_42_method_80_code 14 = .ok (.invokevirtual 505, 3) := by decide +kernel
theorem pd_8 : parseMethodDescriptor "()I" = some ⟨[], some .int⟩ := by decide +kernel
theorem d28_17 : decode jdk_42_method_80_code 17 = .ok (.invokestatic 637, 3) := by decide +kernel
theorem d28_20 : decode jdk_42_method_80_code 20 = .ok (.goto 16, 3) := by decide +kernel
theorem d28_36 : decode jdk_42_method_80_code 36 = .ok (.ireturn, 1) := by decide +kernel
theorem ef_ct_io2 (a : Addr) (cs : List Int32) (m : MethodId) : entryFrame m #[(.ref a), (.int (0 : Int32)), (.int (0 : Int32))] 3 = mkF m 0 #[.val (.ref a), .val (.int (0 : Int32)), .val (.int (0 : Int32))] [] := by first | (simp [entryFrame, mkF, argsToLocals, Value.category]; done) | rfl
set_option maxRecDepth 65536 in
set_option maxHeartbeats 4000000 in
theorem ct_io2 {l : Launch} {Z : State} {a0 : Array Value} (G : Env1 Z a0) (a : Addr) (cs : List Int32) (h0 : Heap) (F : Str Z h0 a cs) (hc : ∀ c ∈ cs, ¬ c < 0 ∧ ¬ (255 : Int32) < c) (hz : ∀ c ∈ cs, ¬ c = 0) (h1 : 0 < cs.length) :
    Ct l Z EL1 [] [] (⟨"java/lang/String", "indexOf", "(II)I"⟩ : MethodName) jdk_42_method_80_code 3 (some .int) ({ frames := 2, cells := 0, slots := 0, locals := 32 } : Room) #[(.ref a), (.int (0 : Int32)), (.int (0 : Int32))] h0 (fun v h => v = some (.int (-1)) ∧ h0 = h) := by
  refine Ct.of_seg (a0 := a0) (plainFor_of_name pn_java_lang_String) G.2.1 (ef_ct_io2 a cs) ?_
  have hl : cs.length ≤ 4000 := by obtain ⟨b, kb, cd, N2, vs, f1, f2, f3, f4, f5, f6, f7⟩ := F; exact f7
  obtain ⟨b, kb, cd, N2, vs, f1, f2, f3, f4, f5, f6, f7⟩ := id F
  obtain ⟨rfl, rfl, rfl⟩ : cd = 0 ∧ N2 = Int32.ofNat cs.length ∧ vs = (cs.map fun c => Value.int c.toInt8.toInt32) := by
    rcases f5 with ⟨q1, q2, q3, -⟩ | ⟨-, -, -, c, hc', q⟩
    · exact ⟨q1, q2, q3⟩
    · exact absurd q (hc c hc').2
  refine Seg.aloadN d28_0 rfl rfl (pc' := 1) rfl ?_
  refine Seg.callV (y' := (⟨"java/lang/String", "isLatin1", "()Z"⟩ : MethodName)) (z := (⟨"java/lang/String", "isLatin1", "()Z"⟩ : MethodName)) (a := a) (wd G 140 rfl) (wd G 141 rfl) (nf_sel (wd G 143 rfl)) (wd G 143 rfl) (wd G 142 rfl) ⟨by decide, by decide⟩ f1 (Pays.of_ct (W := 0) (ct_isL G a h0 f3) all0 (wd G 144 rfl) (wd G 7 rfl) (by decide) (by decide) rfl rfl) (argsL := []) (rest := []) rfl (lenOf pd_7 rfl) rfl (Nat.le_of_eq rfl) rfl d28_1 (pc' := 4) rfl (k' := 0) (n' := 0) rfl rfl (by decide) (by decide) ?_
  intro v_1 h_4 sz_2 q_3
  obtain ⟨rfl, rfl⟩ := q_3
  refine Seg.ifN d28_4 (by decide) (pc' := 7) rfl ?_
  refine Seg.aloadN d28_7 rfl rfl (pc' := 8) rfl ?_
  refine Seg.getF (host := "") (Or.inl (wd G 24 rfl)) Via.refl f2 d28_8 (pc' := 11) rfl ?_
  refine Seg.iloadN d28_11 rfl (pc' := 12) rfl ?_
  refine Seg.iloadN d28_12 rfl (pc' := 13) rfl ?_
  refine Seg.aloadN d28_13 rfl rfl (pc' := 14) rfl ?_
  refine Seg.callV (y' := (⟨"java/lang/String", "length", "()I"⟩ : MethodName)) (z := (⟨"java/lang/String", "length", "()I"⟩ : MethodName)) (a := a) (wd G 145 rfl) (wd G 146 rfl) (nf_sel (wd G 148 rfl)) (wd G 148 rfl) (wd G 147 rfl) ⟨by decide, by decide⟩ f1 (pays_len (W := 3) G h0 F (by decide) (by decide)) (argsL := []) (rest := [(.int (0 : Int32)), (.int (0 : Int32)), (.ref b)]) rfl (lenOf pd_8 rfl) rfl (Nat.le_of_eq rfl) rfl d28_14 (pc' := 17) rfl (k' := 0) (n' := 0) rfl rfl (by decide) (by decide) ?_
  intro v_5 h_8 sz_6 q_7
  obtain ⟨rfl, rfl⟩ := q_7
  refine Seg.callS (y' := (⟨"java/lang/StringLatin1", "indexOf", "([BIII)I"⟩ : MethodName)) (wd G 155 rfl) (wd G 156 rfl) (wd G 32 rfl) (wd G 157 rfl) ⟨by decide, by decide⟩ (Pays.of_ct (W := 0) (ct_iol G b kb cs h0 f4 hl (fun c q => lo8z (hc c q) (hz c q)) h1) all0 (wd G 157 rfl) (wd G 32 rfl) (by decide) (by decide) rfl rfl) (argsL := [(.ref b), (.int (0 : Int32)), (.int (0 : Int32)), (.int (Int32.ofNat cs.length))]) (rest := []) rfl (lenOf pd_6 rfl) rfl (Nat.le_of_eq rfl) rfl d28_17 (pc' := 20) rfl (k' := 0) (n' := 0) rfl rfl (by decide) (by decide) ?_
  intro v_9 h_12 sz_10 q_11
  obtain ⟨rfl, rfl⟩ := q_11
  refine Seg.goto (pc' := 36) d28_20 (by decide) (by decide) ?_
  exact Seg.retI rfl d28_36 (by decide) (by decide) ⟨rfl, rfl⟩
theorem d27_0 : decode jdk_42_method_79_code 0 = .ok (.aload_n 0, 1) := by decide +kernel
theorem d27_1 : decode jdk_42_method_79_code 1 = .ok (.iload_n 1, 1) := by decide +kernel
theorem d27_2 : decode jdk_42_method_79_code 2 = .ok (.iconst 0, 1) := by decide +kernel
theorem d27_3 : decode jdk_42_method_79_code 3 = .ok (.invokevirtual 633, 3) := by decide +kernel
theorem d27_6 : decode jdk_42_method_79_code 6 = .ok (.ireturn, 1) := by decide +kernel
theorem ef_ct_io1 (a : Addr) (cs : List Int32) (m : MethodId) : entryFrame m #[(.ref a), (.int (0 : Int32))] 2 = mkF m 0 #[.val (.ref a), .val (.int (0 : Int32))] [] := by first | (simp [entryFrame, mkF, argsToLocals, Value.category]; done) | rfl
set_option maxRecDepth 65536 in
set_option maxHeartbeats 4000000 in
theorem ct_io1 {l : Launch} {Z : State} {a0 : Array Value} (G : Env1 Z a0) (a : Addr) (cs : List Int32) (h0 : Heap) (F : Str Z h0 a cs) (hc : ∀ c ∈ cs, ¬ c < 0 ∧ ¬ (255 : Int32) < c) (hz : ∀ c ∈ cs, ¬ c = 0) (h1 : 0 < cs.length) :
    Ct l Z EL1 [] [] (⟨"java/lang/String", "indexOf", "(I)I"⟩ : MethodName) jdk_42_method_79_code 2 (some .int) ({ frames := 3, cells := 0, slots := 0, locals := 46 } : Room) #[(.ref a), (.int (0 : Int32))] h0 (fun v h => v = some (.int (-1)) ∧ h0 = h) := by
  refine Ct.of_seg (a0 := a0) (plainFor_of_name pn_java_lang_String) G.2.1 (ef_ct_io1 a cs) ?_
  have f1 := F.exa
  refine Seg.aloadN d27_0 rfl rfl (pc' := 1) rfl ?_
  refine Seg.iloadN d27_1 rfl (pc' := 2) rfl ?_
  refine Seg.iconst (v := 0) d27_2 (by decide) (pc' := 3) rfl ?_
  refine Seg.callV (y' := (⟨"java/lang/String", "indexOf", "(II)I"⟩ : MethodName)) (z := (⟨"java/lang/String", "indexOf", "(II)I"⟩ : MethodName)) (a := a) (wd G 135 rfl) (wd G 136 rfl) (nf_sel (wd G 138 rfl)) (wd G 138 rfl) (wd G 137 rfl) ⟨by decide, by decide⟩ f1 (Pays.of_ct (W := 0) (ct_io2 G a cs h0 F hc hz h1) all0 (wd G 139 rfl) (wd G 7 rfl) (by decide) (by decide) rfl rfl) (argsL := [(.int (0 : Int32)), (.int (0 : Int32))]) (rest := []) rfl (lenOf pd_5 rfl) rfl (Nat.le_of_eq rfl) rfl d27_3 (pc' := 6) rfl (k' := 0) (n' := 0) rfl rfl (by decide) (by decide) ?_
  intro v_1 h_4 sz_2 q_3
  obtain ⟨rfl, rfl⟩ := q_3
  exact Seg.retI rfl d27_6 (by decide) (by decide) ⟨rfl, rfl⟩
theorem d25_0 : decode prog_4_method_19_code 0 = .ok (.aload_n 0, 1) := by decide +kernel
theorem d25_1 : decode prog_4_method_19_code 1 = .ok (.aload_n 1, 1) := by decide +kernel
theorem d25_2 : decode prog_4_method_19_code 2 = .ok (.invokestatic 67, 3) := by decide +kernel
theorem pd_9 : parseMethodDescriptor "(Ljava/lang/Object;Ljava/lang/String;)Ljava/lang/Object;" = some ⟨[(.object "java/lang/Object"), (.object "java/lang/String")], some (.object "java/lang/Object")⟩ := by decide +kernel
theorem d25_5 : decode prog_4_method_19_code 5 = .ok (.pop, 1) := by decide +kernel
theorem d25_6 : decode prog_4_method_19_code 6 = .ok (.aload_n 0, 1) := by decide +kernel
theorem d25_7 : decode prog_4_method_19_code 7 = .ok (.invokevirtual 127, 3) := by decide +kernel
theorem d25_10 : decode prog_4_method_19_code 10 = .ok (.ifCond .eq 17, 3) := by decide +kernel
theorem d25_27 : decode prog_4_method_19_code 27 = .ok (.iconst 0, 1) := by decide +kernel
theorem d25_28 : decode prog_4_method_19_code 28 = .ok (.aload_n 0, 1) := by decide +kernel
theorem d25_29 : decode prog_4_method_19_code 29 = .ok (.iconst 0, 1) := by decide +kernel
theorem d25_30 : decode prog_4_method_19_code 30 = .ok (.invokevirtual 139, 3) := by decide +kernel
theorem pd_10 : parseMethodDescriptor "(I)I" = some ⟨[.int], some .int⟩ := by decide +kernel
theorem d25_33 : decode prog_4_method_19_code 33 = .ok (.if_icmp .gt 17, 3) := by decide +kernel
theorem d25_50 : decode prog_4_method_19_code 50 = .ok (.aload_n 0, 1) := by decide +kernel
theorem d25_51 : decode prog_4_method_19_code 51 = .ok (.areturn, 1) := by decide +kernel
theorem pn_pentrewick_api_UserContext : plainName "pentrewick/api/UserContext" = true := by first | (simp [plainName, overriddenIn]; done) | decide +kernel
theorem ef_ct_reqId (a : Addr) (cs : List Int32) (b : Addr) (m : MethodId) : entryFrame m #[(.ref a), (.ref b)] 2 = mkF m 0 #[.val (.ref a), .val (.ref b)] [] := by first | (simp [entryFrame, mkF, argsToLocals, Value.category]; done) | rfl
set_option maxRecDepth 65536 in
set_option maxHeartbeats 4000000 in
theorem ct_reqId {l : Launch} {Z : State} {a0 : Array Value} (G : Env1 Z a0) (a : Addr) (cs : List Int32) (b : Addr) (h0 : Heap) (F : Str Z h0 a cs) (hc : ∀ c ∈ cs, ¬ c < 0 ∧ ¬ (255 : Int32) < c) (hz : ∀ c ∈ cs, ¬ c = 0) (h1 : 0 < cs.length) :
    Ct l Z EL1 [] [] (⟨"pentrewick/api/UserContext", "requireId", "(Ljava/lang/String;Ljava/lang/String;)Ljava/lang/String;"⟩ : MethodName) prog_4_method_19_code 2 (some (.object "java/lang/String")) ({ frames := 4, cells := 0, slots := 0, locals := 60 } : Room) #[(.ref a), (.ref b)] h0 (fun v h => v = some (.ref a) ∧ h0 = h) := by
  refine Ct.of_seg (a0 := a0) (plainFor_of_name pn_pentrewick_api_UserContext) G.2.1 (ef_ct_reqId a cs b) ?_
  have f1 := F.exa
  refine Seg.aloadN d25_0 rfl rfl (pc' := 1) rfl ?_
  refine Seg.aloadN d25_1 rfl rfl (pc' := 2) rfl ?_
  refine Seg.callS (y' := (⟨"java/util/Objects", "requireNonNull", "(Ljava/lang/Object;Ljava/lang/String;)Ljava/lang/Object;"⟩ : MethodName)) (wd G 94 rfl) (wd G 95 rfl) (wd G 96 rfl) (wd G 97 rfl) ⟨by decide, by decide⟩ (Pays.of_ct (W := 0) (ct_req G a b h0) all0 (wd G 97 rfl) (wd G 96 rfl) (by decide) (by decide) rfl rfl) (argsL := [(.ref a), (.ref b)]) (rest := []) rfl (lenOf pd_9 rfl) rfl (Nat.le_of_eq rfl) rfl d25_2 (pc' := 5) rfl (k' := 0) (n' := 0) rfl rfl (by decide) (by decide) ?_
  intro v_1 h_4 sz_2 q_3
  obtain ⟨rfl, rfl⟩ := q_3
  refine Seg.pop d25_5 rfl (pc' := 6) rfl ?_
  refine Seg.aloadN d25_6 rfl rfl (pc' := 7) rfl ?_
  refine Seg.callV (y' := (⟨"java/lang/String", "isEmpty", "()Z"⟩ : MethodName)) (z := (⟨"java/lang/String", "isEmpty", "()Z"⟩ : MethodName)) (a := a) (wd G 125 rfl) (wd G 126 rfl) (nf_sel (wd G 128 rfl)) (wd G 128 rfl) (wd G 127 rfl) ⟨by decide, by decide⟩ f1 ((pays_emp (W := 0) G h0 F (by decide) (by decide)).post (Q' := fun v h' => v = some (.int 0) ∧ h0 = h') fun v h' q => ⟨by rw [q.1, if_neg (by omega)], q.2⟩) (argsL := []) (rest := []) rfl (lenOf pd_7 rfl) rfl (Nat.le_of_eq rfl) rfl d25_7 (pc' := 10) rfl (k' := 0) (n' := 0) rfl rfl (by decide) (by decide) ?_
  intro v_5 h_8 sz_6 q_7
  obtain ⟨rfl, rfl⟩ := q_7
  refine Seg.ifY (pc' := 27) d25_10 (by decide) (by decide) (by decide) ?_
  refine Seg.iconst (v := 0) d25_27 (by decide) (pc' := 28) rfl ?_
  refine Seg.aloadN d25_28 rfl rfl (pc' := 29) rfl ?_
  refine Seg.iconst (v := 0) d25_29 (by decide) (pc' := 30) rfl ?_
  refine Seg.callV (y' := (⟨"java/lang/String", "indexOf", "(I)I"⟩ : MethodName)) (z := (⟨"java/lang/String", "indexOf", "(I)I"⟩ : MethodName)) (a := a) (wd G 130 rfl) (wd G 131 rfl) (nf_sel (wd G 133 rfl)) (wd G 133 rfl) (wd G 132 rfl) ⟨by decide, by decide⟩ f1 (Pays.of_ct (W := 1) (ct_io1 G a cs h0 F hc hz h1) all0 (wd G 134 rfl) (wd G 7 rfl) (by decide) (by decide) rfl rfl) (argsL := [(.int (0 : Int32))]) (rest := [(.int (0 : Int32))]) rfl (lenOf pd_10 rfl) rfl (Nat.le_of_eq rfl) rfl d25_30 (pc' := 33) rfl (k' := 0) (n' := 0) rfl rfl (by decide) (by decide) ?_
  intro v_9 h_12 sz_10 q_11
  obtain ⟨rfl, rfl⟩ := q_11
  refine Seg.icY (pc' := 50) d25_33 (by decide) (by decide) (by decide) ?_
  refine Seg.aloadN d25_50 rfl rfl (pc' := 51) rfl ?_
  exact Seg.retA rfl rfl rfl d25_51 (by decide) (by decide) ⟨rfl, rfl⟩
theorem d10_0 : decode jdk_96_method_17_code 0 = .ok (.getstatic 9, 3) := by decide +kernel
theorem d10_3 : decode jdk_96_method_17_code 3 = .ok (.areturn, 1) := by decide +kernel
theorem pn_java_util_Set : plainName "java/util/Set" = true := by first | (simp [plainName, overriddenIn]; done) | decide +kernel
theorem ef_ct_setof (es : Addr) (m : MethodId) : entryFrame m #[] 0 = mkF m 0 #[] [] := by first | (simp [entryFrame, mkF, argsToLocals, Value.category]; done) | rfl
set_option maxRecDepth 65536 in
set_option maxHeartbeats 4000000 in
theorem ct_setof {l : Launch} {Z : State} {a0 : Array Value} (G : Env1 Z a0) (es : Addr) (h0 : Heap) (Se : Sta Z Z.heap "java/util/ImmutableCollections" "EMPTY_SET" "Ljava/util/ImmutableCollections$SetN;" (.ref es)) :
    Ct l Z EL1 [] [] (⟨"java/util/Set", "of", "()Ljava/util/Set;"⟩ : MethodName) jdk_96_method_17_code 0 (some (.object "java/util/Set")) ({ frames := 0, cells := 0, slots := 0, locals := 0 } : Room) #[] h0 (fun v h => v = some (.ref es) ∧ h0 = h) := by
  refine Ct.of_seg (a0 := a0) (plainFor_of_name pn_java_util_Set) G.2.1 (ef_ct_setof es) ?_
  refine Seg.getS (wd G 51 rfl) Via.refl Se d10_0 (pc' := 3) rfl ?_
  exact Seg.retA rfl rfl rfl d10_3 (by decide) (by decide) ⟨rfl, rfl⟩
theorem d11_0 : decode prog_4_method_1_code 0 = .ok (.aload_n 0, 1) := by decide +kernel
theorem d11_1 : decode prog_4_method_1_code 1 = .ok (.invokespecial 1, 3) := by decide +kernel
theorem d11_4 : decode prog_4_method_1_code 4 = .ok (.aload_n 0, 1) := by decide +kernel
theorem d11_5 : decode prog_4_method_1_code 5 = .ok (.aload_n 1, 1) := by decide +kernel
theorem d11_6 : decode prog_4_method_1_code 6 = .ok (.putfield 7, 3) := by decide +kernel
theorem d11_9 : decode prog_4_method_1_code 9 = .ok (.aload_n 0, 1) := by decide +kernel
theorem d11_10 : decode prog_4_method_1_code 10 = .ok (.aload_n 2, 1) := by decide +kernel
theorem d11_11 : decode prog_4_method_1_code 11 = .ok (.putfield 13, 3) := by decide +kernel
theorem d11_14 : decode prog_4_method_1_code 14 = .ok (.aload_n 0, 1) := by decide +kernel
theorem d11_15 : decode prog_4_method_1_code 15 = .ok (.aload_n 3, 1) := by decide +kernel
theorem d11_16 : decode prog_4_method_1_code 16 = .ok (.putfield 16, 3) := by decide +kernel
theorem d11_19 : decode prog_4_method_1_code 19 = .ok (.aload_n 0, 1) := by decide +kernel
theorem d11_20 : decode prog_4_method_1_code 20 = .ok (.iload 4, 2) := by decide +kernel
theorem d11_22 : decode prog_4_method_1_code 22 = .ok (.putfield 20, 3) := by decide +kernel
theorem d11_25 : decode prog_4_method_1_code 25 = .ok (.return_, 1) := by decide +kernel
theorem ef_ct_uinit (a : Addr) (vu : Value) (vt : Value) (vr : Value) (r : Int32) (o0 : Value) (o1 : Value) (o2 : Value) (o3 : Value) (hu : (vu).isRef = true) (ht : (vt).isRef = true) (hr : (vr).isRef = true) (m : MethodId) : entryFrame m #[(.ref a), vu, vt, vr, (.int r)] 5 = mkF m 0 #[.val (.ref a), .val vu, .val vt, .val vr, .val (.int r)] [] := by
  rcases ref_cases hu with rfl | ⟨_, rfl⟩ <;> rcases ref_cases ht with rfl | ⟨_, rfl⟩ <;> rcases ref_cases hr with rfl | ⟨_, rfl⟩ <;> rfl
set_option maxRecDepth 65536 in
set_option maxHeartbeats 4000000 in
theorem ct_uinit {l : Launch} {Z : State} {a0 : Array Value} (G : Env1 Z a0) (a : Addr) (vu : Value) (vt : Value) (vr : Value) (r : Int32) (o0 : Value) (o1 : Value) (o2 : Value) (o3 : Value) (h0 : Heap) (hu : vu.isRef = true) (ht : vt.isRef = true) (hr : vr.isRef = true) (hp : r = 0 ∨ r = 1) (A : Exa Z h0 a "pentrewick/api/UserContext") (F0 : Fld Z h0 a "pentrewick/api/UserContext" "m_userId" "Ljava/lang/String;" o0) (F1 : Fld Z h0 a "pentrewick/api/UserContext" "m_tenant" "Ljava/lang/String;" o1) (F2 : Fld Z h0 a "pentrewick/api/UserContext" "m_roles" "Ljava/util/Set;" o2) (F3 : Fld Z h0 a "pentrewick/api/UserContext" "m_privileged" "Z" o3) :
    Ct l Z EL1 [a] [] (⟨"pentrewick/api/UserContext", "<init>", "(Ljava/lang/String;Ljava/lang/String;Ljava/util/Set;Z)V"⟩ : MethodName) prog_4_method_1_code 5 none ({ frames := 1, cells := 0, slots := 0, locals := 12 } : Room) #[(.ref a), vu, vt, vr, (.int r)] h0 (fun v h => v = none ∧ Keep h0 h [a] ∧ Fld Z h a "pentrewick/api/UserContext" "m_userId" "Ljava/lang/String;" vu ∧ Fld Z h a "pentrewick/api/UserContext" "m_tenant" "Ljava/lang/String;" vt ∧ Fld Z h a "pentrewick/api/UserContext" "m_roles" "Ljava/util/Set;" vr ∧ Fld Z h a "pentrewick/api/UserContext" "m_privileged" "Z" (.int r)) := by
  refine Ct.of_seg (a0 := a0) (plainFor_of_name pn_pentrewick_api_UserContext) G.2.1 (ef_ct_uinit a vu vt vr r o0 o1 o2 o3 hu ht hr) ?_
  refine Seg.aloadN d11_0 rfl rfl (pc' := 1) rfl ?_
  refine Seg.initO (wd G 56 rfl) (wd G 16 rfl) (wd G 17 rfl) rfl d11_1 (pc' := 4) rfl (by decide) (W := 0) (Nat.le_of_eq rfl) (by decide) ?_
  refine Seg.aloadN d11_4 rfl rfl (pc' := 5) rfl ?_
  refine Seg.aloadN d11_5 rfl hu (pc' := 6) rfl ?_
  refine Seg.putF (host := "") (ty := (.object "java/lang/String")) (v' := vu) (wd G 57 rfl) Via.refl F0 A (Or.inr ⟨(wd G 58 rfl), rfl, rfl⟩) (wd G 46 rfl) (by decide) (narrow_obj _ _) (fits_obj hu) (List.mem_of_getElem? (i := 0) rfl) d11_6 (pc' := 9) rfl ?_
  intro h_3 W_1 F_2
  refine Seg.aloadN d11_9 rfl rfl (pc' := 10) rfl ?_
  refine Seg.aloadN d11_10 rfl ht (pc' := 11) rfl ?_
  have F_4 := (F1.other W_1 (Or.inr (slot_ne (Or.inr (wd G 60 rfl)) (Or.inr (wd G 58 rfl)) (by decide) (t := (.object "java/lang/String")) (t' := (.object "java/lang/String")) (by decide) (by decide))))
  have F_5 := (A.wr W_1)
  refine Seg.putF (host := "") (ty := (.object "java/lang/String")) (v' := vt) (wd G 59 rfl) Via.refl F_4 F_5 (Or.inr ⟨(wd G 60 rfl), rfl, rfl⟩) (wd G 46 rfl) (by decide) (narrow_obj _ _) (fits_obj ht) (List.mem_of_getElem? (i := 0) rfl) d11_11 (pc' := 14) rfl ?_
  intro h_8 W_6 F_7
  refine Seg.aloadN d11_14 rfl rfl (pc' := 15) rfl ?_
  refine Seg.aloadN d11_15 rfl hr (pc' := 16) rfl ?_
  have F_9 := ((F2.other W_1 (Or.inr (slot_ne (Or.inr (wd G 62 rfl)) (Or.inr (wd G 58 rfl)) (by decide) (t := (.object "java/util/Set")) (t' := (.object "java/lang/String")) (by decide) (by decide)))).other W_6 (Or.inr (slot_ne (Or.inr (wd G 62 rfl)) (Or.inr (wd G 60 rfl)) (by decide) (t := (.object "java/util/Set")) (t' := (.object "java/lang/String")) (by decide) (by decide))))
  have F_10 := (F_5.wr W_6)
  refine Seg.putF (host := "") (ty := (.object "java/util/Set")) (v' := vr) (wd G 61 rfl) Via.refl F_9 F_10 (Or.inr ⟨(wd G 62 rfl), rfl, rfl⟩) (wd G 46 rfl) (by decide) (narrow_obj _ _) (fits_obj hr) (List.mem_of_getElem? (i := 0) rfl) d11_16 (pc' := 19) rfl ?_
  intro h_13 W_11 F_12
  refine Seg.aloadN d11_19 rfl rfl (pc' := 20) rfl ?_
  refine Seg.iload d11_20 rfl (pc' := 22) rfl ?_
  have F_14 := (((F3.other W_1 (Or.inr (slot_ne (Or.inr (wd G 64 rfl)) (Or.inr (wd G 58 rfl)) (by decide) (t := .boolean) (t' := (.object "java/lang/String")) (by decide) (by decide)))).other W_6 (Or.inr (slot_ne (Or.inr (wd G 64 rfl)) (Or.inr (wd G 60 rfl)) (by decide) (t := .boolean) (t' := (.object "java/lang/String")) (by decide) (by decide)))).other W_11 (Or.inr (slot_ne (Or.inr (wd G 64 rfl)) (Or.inr (wd G 62 rfl)) (by decide) (t := .boolean) (t' := (.object "java/util/Set")) (by decide) (by decide))))
  have F_15 := (F_10.wr W_11)
  refine Seg.putF (host := "") (ty := .boolean) (v' := (.int r)) (wd G 63 rfl) Via.refl F_14 F_15 (Or.inr ⟨(wd G 64 rfl), rfl, rfl⟩) (wd G 46 rfl) (by decide) (narrow_bool hp) (fits_bool hp) (List.mem_of_getElem? (i := 0) rfl) d11_22 (pc' := 25) rfl ?_
  intro h_18 W_16 F_17
  have F_19 := (((F_2.other W_6 (Or.inr (slot_ne (Or.inr (wd G 58 rfl)) (Or.inr (wd G 60 rfl)) (by decide) (t := (.object "java/lang/String")) (t' := (.object "java/lang/String")) (by decide) (by decide)))).other W_11 (Or.inr (slot_ne (Or.inr (wd G 58 rfl)) (Or.inr (wd G 62 rfl)) (by decide) (t := (.object "java/lang/String")) (t' := (.object "java/util/Set")) (by decide) (by decide)))).other W_16 (Or.inr (slot_ne (Or.inr (wd G 58 rfl)) (Or.inr (wd G 64 rfl)) (by decide) (t := (.object "java/lang/String")) (t' := .boolean) (by decide) (by decide))))
  have F_20 := ((F_7.other W_11 (Or.inr (slot_ne (Or.inr (wd G 60 rfl)) (Or.inr (wd G 62 rfl)) (by decide) (t := (.object "java/lang/String")) (t' := (.object "java/util/Set")) (by decide) (by decide)))).other W_16 (Or.inr (slot_ne (Or.inr (wd G 60 rfl)) (Or.inr (wd G 64 rfl)) (by decide) (t := (.object "java/lang/String")) (t' := .boolean) (by decide) (by decide))))
  have F_21 := (F_12.other W_16 (Or.inr (slot_ne (Or.inr (wd G 62 rfl)) (Or.inr (wd G 64 rfl)) (by decide) (t := (.object "java/util/Set")) (t' := .boolean) (by decide) (by decide))))
  exact Seg.ret0 rfl d11_25 (by decide) (by decide) ⟨rfl, (((((Keep.refl h0 [a]).wr W_1 (Or.inl (List.mem_of_getElem? (i := 0) rfl))).wr W_6 (Or.inl (List.mem_of_getElem? (i := 0) rfl))).wr W_11 (Or.inl (List.mem_of_getElem? (i := 0) rfl))).wr W_16 (Or.inl (List.mem_of_getElem? (i := 0) rfl))), F_19, F_20, F_21, F_17⟩
theorem d41_0 : decode prog_4_method_4_code 0 = .ok (.new 8, 3) := by decide +kernel
theorem d41_3 : decode prog_4_method_4_code 3 = .ok (.dup, 1) := by decide +kernel
theorem d41_4 : decode prog_4_method_4_code 4 = .ok (.aload_n 0, 1) := by decide +kernel
theorem d41_5 : decode prog_4_method_4_code 5 = .ok (.ldc 38, 2) := by decide +kernel
theorem d41_7 : decode prog_4_method_4_code 7 = .ok (.invokestatic 40, 3) := by decide +kernel
theorem pd_11 : parseMethodDescriptor "(Ljava/lang/String;Ljava/lang/String;)Ljava/lang/String;" = some ⟨[(.object "java/lang/String"), (.object "java/lang/String")], some (.object "java/lang/String")⟩ := by decide +kernel
theorem d41_10 : decode prog_4_method_4_code 10 = .ok (.aconst_null, 1) := by decide +kernel
theorem d41_11 : decode prog_4_method_4_code 11 = .ok (.invokestatic 44, 3) := by decide +kernel
theorem pd_12 : parseMethodDescriptor "()Ljava/util/Set;" = some ⟨[], some (.object "java/util/Set")⟩ := by decide +kernel
theorem d41_14 : decode prog_4_method_4_code 14 = .ok (.iconst 0, 1) := by decide +kernel
theorem d41_15 : decode prog_4_method_4_code 15 = .ok (.invokespecial 50, 3) := by decide +kernel
theorem pd_13 : parseMethodDescriptor "(Ljava/lang/String;Ljava/lang/String;Ljava/util/Set;Z)V" = some ⟨[(.object "java/lang/String"), (.object "java/lang/String"), (.object "java/util/Set"), .boolean], none⟩ := by decide +kernel
theorem d41_18 : decode prog_4_method_4_code 18 = .ok (.areturn, 1) := by decide +kernel
theorem ef_ct_of (a : Addr) (cs : List Int32) (es : Addr) (m : MethodId) : entryFrame m #[(.ref a)] 1 = mkF m 0 #[.val (.ref a)] [] := by first | (simp [entryFrame, mkF, argsToLocals, Value.category]; done) | rfl
set_option maxRecDepth 65536 in
set_option maxHeartbeats 4000000 in
theorem ct_of {l : Launch} {Z : State} {a0 : Array Value} (G : Env1 Z a0) (a : Addr) (cs : List Int32) (es : Addr) (h0 : Heap) (F : Str Z h0 a cs) (hc : ∀ c ∈ cs, ¬ c < 0 ∧ ¬ (255 : Int32) < c) (hz : ∀ c ∈ cs, ¬ c = 0) (h1 : 0 < cs.length) (Se : Sta Z Z.heap "java/util/ImmutableCollections" "EMPTY_SET" "Ljava/util/ImmutableCollections$SetN;" (.ref es)) :
    Ct l Z EL1 [] [] (⟨"pentrewick/api/UserContext", "of", "(Ljava/lang/String;)Lpentrewick/api/UserContext;"⟩ : MethodName) prog_4_method_4_code 1 (some (.object "pentrewick/api/UserContext")) ({ frames := 5, cells := 3, slots := 36, locals := 75 } : Room) #[(.ref a)] h0 (fun v h => ∃ r, v = some (.ref r) ∧ Ext h0 h ∧ Exa Z h r "pentrewick/api/UserContext" ∧ Fld Z h r "pentrewick/api/UserContext" "m_userId" "Ljava/lang/String;" (.ref a) ∧ Fld Z h r "pentrewick/api/UserContext" "m_tenant" "Ljava/lang/String;" .null ∧ Fld Z h r "pentrewick/api/UserContext" "m_roles" "Ljava/util/Set;" (.ref es) ∧ Fld Z h r "pentrewick/api/UserContext" "m_privileged" "Z" (.int 0)) := by
  refine Ct.of_seg (a0 := a0) (plainFor_of_name pn_pentrewick_api_UserContext) G.2.1 (ef_ct_of a cs es) ?_
  have f1 := F.exa
  refine Seg.newO (wd G 45 rfl) (wd G 46 rfl) (wd G 43 rfl) d41_0 (pc' := 3) rfl (k' := 1) (n' := 4) rfl rfl (by decide) (by decide) ?_
  intro b_1 h_3 E_2 e_b_1 l_b_1 A_b_1 D_b_1
  have F_m_userId_b_1 : Fld Z h_3 b_1 "pentrewick/api/UserContext" "m_userId" "Ljava/lang/String;" Value.null := D_b_1 (Or.inr (wd G 58 rfl)) (ty := (.object "java/lang/String")) (by decide)
  have F_m_tenant_b_1 : Fld Z h_3 b_1 "pentrewick/api/UserContext" "m_tenant" "Ljava/lang/String;" Value.null := D_b_1 (Or.inr (wd G 60 rfl)) (ty := (.object "java/lang/String")) (by decide)
  have F_m_roles_b_1 : Fld Z h_3 b_1 "pentrewick/api/UserContext" "m_roles" "Ljava/util/Set;" Value.null := D_b_1 (Or.inr (wd G 62 rfl)) (ty := (.object "java/util/Set")) (by decide)
  have F_m_privileged_b_1 : Fld Z h_3 b_1 "pentrewick/api/UserContext" "m_privileged" "Z" (.int (0 : Int32)) := D_b_1 (Or.inr (wd G 64 rfl)) (ty := .boolean) (by decide)
  refine Seg.dup d41_3 rfl (pc' := 4) rfl ?_
  refine Seg.aloadN d41_4 rfl rfl (pc' := 5) rfl ?_
  refine Seg.ldcS (text := "user id") (vs := [(.int 117), (.int 115), (.int 101), (.int 114), (.int 32), (.int 105), (.int 100)]) (z := 7) (nn := 28) (wd G 198 rfl) (wS G) (by decide) (by decide +kernel) (by decide) (by decide) d41_5 (pc' := 7) rfl (by decide) (by decide) (k' := 3) (n' := 36) rfl rfl (by decide) (by decide) ?_
  intro a_4 h_13 b_5 kb_6 E_7 A_8 F_9 F_10 A_11 ne_12
  have E_14 : Ext h0 h_13 := ext_tr E_2 E_7
  have F_15 := F.ext E_14
  refine Seg.callS (y' := (⟨"pentrewick/api/UserContext", "requireId", "(Ljava/lang/String;Ljava/lang/String;)Ljava/lang/String;"⟩ : MethodName)) (wd G 122 rfl) (wd G 123 rfl) (wd G 43 rfl) (wd G 124 rfl) ⟨by decide, by decide⟩ (Pays.of_ct (W := 2) (ct_reqId G a cs a_4 h_13 F_15 hc hz h1) all0 (wd G 124 rfl) (wd G 43 rfl) (by decide) (by decide) rfl rfl) (argsL := [(.ref a), (.ref a_4)]) (rest := [(.ref b_1), (.ref b_1)]) rfl (lenOf pd_11 rfl) rfl (Nat.le_of_eq rfl) rfl d41_7 (pc' := 10) rfl (k' := 3) (n' := 36) rfl rfl (by decide) (by decide) ?_
  intro v_16 h_19 sz_17 q_18
  obtain ⟨rfl, rfl⟩ := q_18
  refine Seg.anull d41_10 (pc' := 11) rfl ?_
  refine Seg.callS (y' := (⟨"java/util/Set", "of", "()Ljava/util/Set;"⟩ : MethodName)) (wd G 47 rfl) (wd G 48 rfl) (wd G 49 rfl) (wd G 50 rfl) ⟨by decide, by decide⟩ (Pays.of_ct (W := 4) (ct_setof G es h_13 Se) all0 (wd G 50 rfl) (wd G 49 rfl) (by decide) (by decide) rfl rfl) (argsL := []) (rest := [Value.null, (.ref a), (.ref b_1), (.ref b_1)]) rfl (lenOf pd_12 rfl) rfl (Nat.le_of_eq rfl) rfl d41_11 (pc' := 14) rfl (k' := 3) (n' := 36) rfl rfl (by decide) (by decide) ?_
  intro v_20 h_23 sz_21 q_22
  obtain ⟨rfl, rfl⟩ := q_22
  refine Seg.iconst (v := 0) d41_14 (by decide) (pc' := 15) rfl ?_
  have F_24 := F_m_userId_b_1.ext E_7
  have F_25 := F_m_tenant_b_1.ext E_7
  have F_26 := F_m_roles_b_1.ext E_7
  have F_27 := F_m_privileged_b_1.ext E_7
  have F_28 := A_b_1.ext E_7
  refine Seg.callN (y' := (⟨"pentrewick/api/UserContext", "<init>", "(Ljava/lang/String;Ljava/lang/String;Ljava/util/Set;Z)V"⟩ : MethodName)) (a := b_1) rfl (wd G 53 rfl) (wd G 54 rfl) (wd G 55 rfl) ⟨by decide, by decide⟩ (Pays.of_ct (W := 1) (ct_uinit G b_1 (.ref a) .null (.ref es) 0 .null .null .null (.int 0) h_13 rfl rfl rfl (Or.inl rfl) F_28 F_24 F_25 F_26 F_27) (allS (List.mem_of_getElem? (i := 0) rfl) all0) (wd G 55 rfl) (wd G 43 rfl) (by decide) (by decide) rfl rfl) (argsL := [(.ref a), Value.null, (.ref es), (.int (0 : Int32))]) (rest := [(.ref b_1)]) rfl (lenOf pd_13 rfl) rfl (Nat.le_of_eq rfl) rfl d41_15 (pc' := 18) rfl (k' := 3) (n' := 36) rfl rfl (by decide) (by decide) ?_
  intro v_29 h_32 sz_30 q_31
  obtain ⟨rfl, K9, F91, F92, F93, F94⟩ := q_31
  have E_33 : Ext h0 h_32 := ext_kp E_14 K9 (allS (Nat.le_trans (ext_rfl _).1 (Nat.le_of_eq e_b_1)) all0)
  have F_34 := (F_28.keep K9)
  exact Seg.retA rfl rfl rfl d41_18 (by decide) (by decide) ⟨b_1, rfl, E_33, F_34, F91, F92, F93, F94⟩
theorem d14_0 : decode jdk_42_method_66_code 0 = .ok (.aload_n 0, 1) := by decide +kernel
theorem d14_1 : decode jdk_42_method_66_code 1 = .ok (.aload_n 1, 1) := by decide +kernel
theorem d14_2 : decode jdk_42_method_66_code 2 = .ok (.if_acmp .ne 5, 3) := by decide +kernel
theorem d14_5 : decode jdk_42_method_66_code 5 = .ok (.iconst 1, 1) := by decide +kernel
theorem d14_6 : decode jdk_42_method_66_code 6 = .ok (.ireturn, 1) := by decide +kernel
theorem ef_ct_eqs (a : Addr) (m : MethodId) : entryFrame m #[(.ref a), (.ref a)] 3 = mkF m 0 #[.val (.ref a), .val (.ref a), .unset] [] := by first | (simp [entryFrame, mkF, argsToLocals, Value.category]; done) | rfl
set_option maxRecDepth 65536 in
set_option maxHeartbeats 4000000 in
theorem ct_eqs {l : Launch} {Z : State} {a0 : Array Value} (G : Env1 Z a0) (a : Addr) (h0 : Heap) :
    Ct l Z EL1 [] [] (⟨"java/lang/String", "equals", "(Ljava/lang/Object;)Z"⟩ : MethodName) jdk_42_method_66_code 3 (some .boolean) ({ frames := 0, cells := 0, slots := 0, locals := 0 } : Room) #[(.ref a), (.ref a)] h0 (fun v h => v = some (.int 1) ∧ h0 = h) := by
  refine Ct.of_seg (a0 := a0) (plainFor_of_name pn_java_lang_String) G.2.1 (ef_ct_eqs a) ?_
  refine Seg.aloadN d14_0 rfl rfl (pc' := 1) rfl ?_
  refine Seg.aloadN d14_1 rfl rfl (pc' := 2) rfl ?_
  refine Seg.acN d14_2 rfl rfl (XT.aa_ne_f rfl) (pc' := 5) rfl ?_
  refine Seg.iconst (v := 1) d14_5 (by decide) (pc' := 6) rfl ?_
  exact Seg.retN (t := .boolean) (w := (1 : Int32)) rfl (by decide) (by decide) d14_6 (by decide) (by decide) ⟨rfl, rfl⟩
theorem d40_0 : decode jdk_100_method_2_code 0 = .ok (.aload_n 1, 1) := by decide +kernel
theorem d40_1 : decode jdk_100_method_2_code 1 = .ok (.aload_n 0, 1) := by decide +kernel
theorem d40_2 : decode jdk_100_method_2_code 2 = .ok (.if_acmp .ne 5, 3) := by decide +kernel
theorem d40_5 : decode jdk_100_method_2_code 5 = .ok (.iconst 1, 1) := by decide +kernel
theorem d40_6 : decode jdk_100_method_2_code 6 = .ok (.ireturn, 1) := by decide +kernel
theorem pn_java_util_ImmutableCollections_AbstractImmutableSet : plainName "java/util/ImmutableCollections$AbstractImmutableSet" = true := by first | (simp [plainName, overriddenIn]; done) | decide +kernel
theorem ef_ct_seteq (es : Addr) (m : MethodId) : entryFrame m #[(.ref es), (.ref es)] 5 = mkF m 0 #[.val (.ref es), .val (.ref es), .unset, .unset, .unset] [] := by first | (simp [entryFrame, mkF, argsToLocals, Value.category]; done) | rfl
set_option maxRecDepth 65536 in
set_option maxHeartbeats 4000000 in
theorem ct_seteq {l : Launch} {Z : State} {a0 : Array Value} (G : Env1 Z a0) (es : Addr) (h0 : Heap) :
    Ct l Z EL1 [] [] (⟨"java/util/ImmutableCollections$AbstractImmutableSet", "equals", "(Ljava/lang/Object;)Z"⟩ : MethodName) jdk_100_method_2_code 5 (some .boolean) ({ frames := 0, cells := 0, slots := 0, locals := 0 } : Room) #[(.ref es), (.ref es)] h0 (fun v h => v = some (.int 1) ∧ h0 = h) := by
  refine Ct.of_seg (a0 := a0) (plainFor_of_name pn_java_util_ImmutableCollections_AbstractImmutableSet) G.2.1 (ef_ct_seteq es) ?_
  refine Seg.aloadN d40_0 rfl rfl (pc' := 1) rfl ?_
  refine Seg.aloadN d40_1 rfl rfl (pc' := 2) rfl ?_
  refine Seg.acN d40_2 rfl rfl (XT.aa_ne_f rfl) (pc' := 5) rfl ?_
  refine Seg.iconst (v := 1) d40_5 (by decide) (pc' := 6) rfl ?_
  exact Seg.retN (t := .boolean) (w := (1 : Int32)) rfl (by decide) (by decide) d40_6 (by decide) (by decide) ⟨rfl, rfl⟩
def strcs (n x y : Int32) : List Int32 := if n = 0 then [] else if n = 1 then [x &&& 255] else [x &&& 255, y &&& 255]
def VL (n x y : Int32) : Prop := ¬ n = 0 ∧ ¬ (x &&& 255) = 0 ∧ (n < 2 ∨ ¬ (y &&& 255) = 0)
theorem strcs_ok (n x y : Int32) : ∀ c ∈ strcs n x y, ¬ c < 0 ∧ ¬ (255 : Int32) < c := by
  unfold strcs
  intro c hc
  split at hc
  · cases hc
  · split at hc <;> simp only [List.mem_cons, List.not_mem_nil, or_false] at hc
    · rw [hc]; exact and255 _
    · rcases hc with h | h <;> rw [h] <;> exact and255 _
theorem n2 {n : Int32} (hn : n = 0 ∨ n = 1 ∨ n = 2 ∨ n = 3) (h : n < 2) (h0 : ¬ n = 0) : n = 1 := by
  rcases hn with rfl | rfl | rfl | rfl
  · exact absurd rfl h0
  · rfl
  · exact absurd h (by decide)
  · exact absurd h (by decide)
theorem strcs_nz {n x y : Int32} (hn : n = 0 ∨ n = 1 ∨ n = 2 ∨ n = 3) (h : VL n x y) : ∀ c ∈ strcs n x y, ¬ c = 0 := by
  obtain ⟨h1, h2, h3⟩ := h
  unfold strcs
  intro c hc
  split at hc
  · cases hc
  · split at hc <;> simp only [List.mem_cons, List.not_mem_nil, or_false] at hc
    · rw [hc]; exact h2
    · rename_i q1 q2
      rcases hc with h | h <;> rw [h]
      · exact h2
      · rcases h3 with h3 | h3
        · exact absurd (n2 hn h3 h1) q2
        · exact h3
theorem strcs_len {n x y : Int32} (h : VL n x y) : 0 < (strcs n x y).length := by
  unfold strcs
  split
  · exact absurd (by assumption) h.1
  · split <;> simp
/-- null where n is 1, a String of the chars where it is 0 -/
def OS (Z : State) (h : Heap) (n : Int32) (v : Value) (cs : List Int32) : Prop := (n = 1 ∧ v = .null) ∨ (n = 0 ∧ ∃ a, v = .ref a ∧ Str Z h a cs)
theorem OS.ext {Z : State} {h h' : Heap} {n : Int32} {v : Value} {cs : List Int32} (F : OS Z h n v cs) (E : Ext h h') : OS Z h' n v cs := by
  rcases F with F | ⟨q, a, e, F⟩
  · exact Or.inl F
  · exact Or.inr ⟨q, a, e, F.ext E⟩
theorem OS.isRef {Z : State} {h : Heap} {n : Int32} {v : Value} {cs : List Int32} (F : OS Z h n v cs) : v.isRef = true := by
  rcases F with ⟨-, rfl⟩ | ⟨-, a, rfl, -⟩ <;> rfl
theorem OS.or {Z : State} {h : Heap} {n : Int32} {v : Value} {cs : List Int32} (F : OS Z h n v cs) : v = .null ∨ ∃ a, v = .ref a ∧ Exa Z h a STN := by
  rcases F with ⟨-, rfl⟩ | ⟨-, a, rfl, F⟩
  · exact Or.inl rfl
  · exact Or.inr ⟨a, rfl, F.exa⟩
theorem d1_0 : decode method_2_code 0 = .ok (.iconst 0, 1) := by decide +kernel
theorem d1_1 : decode method_2_code 1 = .ok (.newarray .char, 2) := by decide +kernel
theorem d1_3 : decode method_2_code 3 = .ok (.astore_n 3, 1) := by decide +kernel
theorem d1_4 : decode method_2_code 4 = .ok (.iconst 1, 1) := by decide +kernel
theorem d1_5 : decode method_2_code 5 = .ok (.newarray .char, 2) := by decide +kernel
theorem d1_7 : decode method_2_code 7 = .ok (.dup, 1) := by decide +kernel
theorem d1_8 : decode method_2_code 8 = .ok (.iconst 0, 1) := by decide +kernel
theorem d1_9 : decode method_2_code 9 = .ok (.iload_n 1, 1) := by decide +kernel
theorem d1_10 : decode method_2_code 10 = .ok (.sipush 255, 3) := by decide +kernel
theorem d1_13 : decode method_2_code 13 = .ok (.iand, 1) := by decide +kernel
theorem d1_14 : decode method_2_code 14 = .ok (.i2c, 1) := by decide +kernel
theorem d1_15 : decode method_2_code 15 = .ok (.castore, 1) := by decide +kernel
theorem d1_16 : decode method_2_code 16 = .ok (.astore 4, 2) := by decide +kernel
theorem d1_18 : decode method_2_code 18 = .ok (.iconst 2, 1) := by decide +kernel
theorem d1_19 : decode method_2_code 19 = .ok (.newarray .char, 2) := by decide +kernel
theorem d1_21 : decode method_2_code 21 = .ok (.dup, 1) := by decide +kernel
theorem d1_22 : decode method_2_code 22 = .ok (.iconst 0, 1) := by decide +kernel
theorem d1_23 : decode method_2_code 23 = .ok (.iload_n 1, 1) := by decide +kernel
theorem d1_24 : decode method_2_code 24 = .ok (.sipush 255, 3) := by decide +kernel
theorem d1_27 : decode method_2_code 27 = .ok (.iand, 1) := by decide +kernel
theorem d1_28 : decode method_2_code 28 = .ok (.i2c, 1) := by decide +kernel
theorem d1_29 : decode method_2_code 29 = .ok (.castore, 1) := by decide +kernel
theorem d1_30 : decode method_2_code 30 = .ok (.dup, 1) := by decide +kernel
theorem d1_31 : decode method_2_code 31 = .ok (.iconst 1, 1) := by decide +kernel
theorem d1_32 : decode method_2_code 32 = .ok (.iload_n 2, 1) := by decide +kernel
theorem d1_33 : decode method_2_code 33 = .ok (.sipush 255, 3) := by decide +kernel
theorem d1_36 : decode method_2_code 36 = .ok (.iand, 1) := by decide +kernel
theorem d1_37 : decode method_2_code 37 = .ok (.i2c, 1) := by decide +kernel
theorem d1_38 : decode method_2_code 38 = .ok (.castore, 1) := by decide +kernel
theorem d1_39 : decode method_2_code 39 = .ok (.astore 5, 2) := by decide +kernel
theorem d1_41 : decode method_2_code 41 = .ok (.iload_n 0, 1) := by decide +kernel
theorem d1_42 : decode method_2_code 42 = .ok (.ifCond .ne 12, 3) := by decide +kernel
theorem d1_45 : decode method_2_code 45 = .ok (.new 7, 3) := by decide +kernel
theorem d1_48 : decode method_2_code 48 = .ok (.dup, 1) := by decide +kernel
theorem d1_49 : decode method_2_code 49 = .ok (.aload_n 3, 1) := by decide +kernel
theorem d1_50 : decode method_2_code 50 = .ok (.invokespecial 9, 3) := by decide +kernel
theorem pd_14 : parseMethodDescriptor "([C)V" = some ⟨[(.array .char)], none⟩ := by decide +kernel
theorem d1_53 : decode method_2_code 53 = .ok (.areturn, 1) := by decide +kernel
theorem d1_54 : decode method_2_code 54 = .ok (.iload_n 0, 1) := by decide +kernel
theorem d1_55 : decode method_2_code 55 = .ok (.iconst 1, 1) := by decide +kernel
theorem d1_56 : decode method_2_code 56 = .ok (.if_icmp .ne 13, 3) := by decide +kernel
theorem d1_59 : decode method_2_code 59 = .ok (.new 7, 3) := by decide +kernel
theorem d1_62 : decode method_2_code 62 = .ok (.dup, 1) := by decide +kernel
theorem d1_63 : decode method_2_code 63 = .ok (.aload 4, 2) := by decide +kernel
theorem d1_65 : decode method_2_code 65 = .ok (.invokespecial 9, 3) := by decide +kernel
theorem d1_68 : decode method_2_code 68 = .ok (.areturn, 1) := by decide +kernel
theorem d1_69 : decode method_2_code 69 = .ok (.new 7, 3) := by decide +kernel
theorem d1_72 : decode method_2_code 72 = .ok (.dup, 1) := by decide +kernel
theorem d1_73 : decode method_2_code 73 = .ok (.aload 5, 2) := by decide +kernel
theorem d1_75 : decode method_2_code 75 = .ok (.invokespecial 9, 3) := by decide +kernel
theorem d1_78 : decode method_2_code 78 = .ok (.areturn, 1) := by decide +kernel
theorem pn_pentrewick_api_UserContextHandlingPinLaw : plainName "pentrewick/api/UserContextHandlingPinLaw" = true := by first | (simp [plainName, overriddenIn]; done) | decide +kernel
theorem ef_ct_str (n : Int32) (x : Int32) (y : Int32) (m : MethodId) : entryFrame m #[(.int n), (.int x), (.int y)] 6 = mkF m 0 #[.val (.int n), .val (.int x), .val (.int y), .unset, .unset, .unset] [] := by first | (simp [entryFrame, mkF, argsToLocals, Value.category]; done) | rfl
set_option maxRecDepth 65536 in
set_option maxHeartbeats 4000000 in
theorem ct_str {l : Launch} {Z : State} {a0 : Array Value} (G : Env1 Z a0) (n : Int32) (x : Int32) (y : Int32) (h0 : Heap) :
    Ct l Z EL1 [] [] (⟨"pentrewick/api/UserContextHandlingPinLaw", "str", "(III)Ljava/lang/String;"⟩ : MethodName) method_2_code 6 (some (.object "java/lang/String")) ({ frames := 4, cells := 8, slots := 15, locals := 66 } : Room) #[(.int n), (.int x), (.int y)] h0 (fun v h => ∃ r, v = some (.ref r) ∧ Ext h0 h ∧ Str Z h r (strcs n x y)) := by
  refine Ct.of_seg (a0 := a0) (plainFor_of_name pn_pentrewick_api_UserContextHandlingPinLaw) G.2.1 (ef_ct_str n x y) ?_
  refine Seg.iconst (v := 0) d1_0 (by decide) (pc' := 1) rfl ?_
  refine Seg.newP (ty := .char) (dv := (.int 0)) rfl rfl (wd G 4 rfl) d1_1 (pc' := 3) rfl (by decide) (cap := 0) (by decide) (by decide) (k' := 1) (n' := 0) rfl rfl (by decide) (by decide) ?_
  intro b_1 h_3 k_b_1 E_2 e_b_1 l_b_1 A_b_1
  refine Seg.astoreN (L' := #[.val (.int n), .val (.int x), .val (.int y), .val (.ref b_1), .unset, .unset]) d1_3 rfl rfl (pc' := 4) rfl ?_
  refine Seg.iconst (v := 1) d1_4 (by decide) (pc' := 5) rfl ?_
  refine Seg.newP (ty := .char) (dv := (.int 0)) rfl rfl (wd G 4 rfl) d1_5 (pc' := 7) rfl (by decide) (cap := 1) (by decide) (by decide) (k' := 2) (n' := 1) rfl rfl (by decide) (by decide) ?_
  intro b_4 h_6 k_b_4 E_5 e_b_4 l_b_4 A_b_4
  replace A_b_4 : Arv Z h_6 b_4 k_b_4 .char (1 : Int32) [(.int (0 : Int32))] (.int 0) := A_b_4.pad (pad_rep [] (.int 0) 1)
  refine Seg.dup d1_7 rfl (pc' := 8) rfl ?_
  refine Seg.iconst (v := 0) d1_8 (by decide) (pc' := 9) rfl ?_
  refine Seg.iloadN d1_9 rfl (pc' := 10) rfl ?_
  refine Seg.sipush (v := 255) d1_10 (by decide) (pc' := 13) rfl ?_
  refine Seg.iand (v := (x &&& (255 : Int32))) d1_13 rfl (pc' := 14) rfl ?_
  refine Seg.i2c (v := (x &&& (255 : Int32))) d1_14 (i2c_mask _) (pc' := 15) rfl ?_
  refine Seg.castore (v' := (x &&& (255 : Int32))) (i := 0) A_b_4 ⟨by decide, by decide⟩ rfl (Nat.le_of_ble_eq_true rfl) (i2c_mask _) (List.mem_of_getElem? (i := 0) rfl) d1_15 (pc' := 16) rfl ?_
  intro h_9 W_7 A_8
  replace A_8 : Arv Z h_9 b_4 k_b_4 .char (1 : Int32) [(.int (x &&& (255 : Int32)))] (.int 0) := A_8
  refine Seg.astore (L' := #[.val (.int n), .val (.int x), .val (.int y), .val (.ref b_1), .val (.ref b_4), .unset]) d1_16 rfl rfl (pc' := 18) rfl ?_
  refine Seg.iconst (v := 2) d1_18 (by decide) (pc' := 19) rfl ?_
  refine Seg.newP (ty := .char) (dv := (.int 0)) rfl rfl (wd G 4 rfl) d1_19 (pc' := 21) rfl (by decide) (cap := 2) (by decide) (by decide) (k' := 3) (n' := 3) rfl rfl (by decide) (by decide) ?_
  intro b_10 h_12 k_b_10 E_11 e_b_10 l_b_10 A_b_10
  replace A_b_10 : Arv Z h_12 b_10 k_b_10 .char (2 : Int32) [(.int (0 : Int32)), (.int (0 : Int32))] (.int 0) := A_b_10.pad (pad_rep [] (.int 0) 2)
  refine Seg.dup d1_21 rfl (pc' := 22) rfl ?_
  refine Seg.iconst (v := 0) d1_22 (by decide) (pc' := 23) rfl ?_
  refine Seg.iloadN d1_23 rfl (pc' := 24) rfl ?_
  refine Seg.sipush (v := 255) d1_24 (by decide) (pc' := 27) rfl ?_
  refine Seg.iand (v := (x &&& (255 : Int32))) d1_27 rfl (pc' := 28) rfl ?_
  refine Seg.i2c (v := (x &&& (255 : Int32))) d1_28 (i2c_mask _) (pc' := 29) rfl ?_
  refine Seg.castore (v' := (x &&& (255 : Int32))) (i := 0) A_b_10 ⟨by decide, by decide⟩ rfl (Nat.le_of_ble_eq_true rfl) (i2c_mask _) (List.mem_of_getElem? (i := 0) rfl) d1_29 (pc' := 30) rfl ?_
  intro h_15 W_13 A_14
  replace A_14 : Arv Z h_15 b_10 k_b_10 .char (2 : Int32) [(.int (x &&& (255 : Int32))), (.int (0 : Int32))] (.int 0) := A_14
  refine Seg.dup d1_30 rfl (pc' := 31) rfl ?_
  refine Seg.iconst (v := 1) d1_31 (by decide) (pc' := 32) rfl ?_
  refine Seg.iloadN d1_32 rfl (pc' := 33) rfl ?_
  refine Seg.sipush (v := 255) d1_33 (by decide) (pc' := 36) rfl ?_
  refine Seg.iand (v := (y &&& (255 : Int32))) d1_36 rfl (pc' := 37) rfl ?_
  refine Seg.i2c (v := (y &&& (255 : Int32))) d1_37 (i2c_mask _) (pc' := 38) rfl ?_
  refine Seg.castore (v' := (y &&& (255 : Int32))) (i := 1) A_14 ⟨by decide, by decide⟩ rfl (Nat.le_of_ble_eq_true rfl) (i2c_mask _) (List.mem_of_getElem? (i := 0) rfl) d1_38 (pc' := 39) rfl ?_
  intro h_18 W_16 A_17
  replace A_17 : Arv Z h_18 b_10 k_b_10 .char (2 : Int32) [(.int (x &&& (255 : Int32))), (.int (y &&& (255 : Int32)))] (.int 0) := A_17
  refine Seg.astore (L' := #[.val (.int n), .val (.int x), .val (.int y), .val (.ref b_1), .val (.ref b_4), .val (.ref b_10)]) d1_39 rfl rfl (pc' := 41) rfl ?_
  refine Seg.iloadN d1_41 rfl (pc' := 42) rfl ?_
  by_cases h0' : n = 0
  · refine Seg.ifN d1_42 (XT.i0_ne_f h0') (pc' := 45) rfl ?_
    refine Seg.newO (wd G 5 rfl) (wd G 6 rfl) (wd G 7 rfl) d1_45 (pc' := 48) rfl (k' := 4) (n' := 7) rfl rfl (by decide) (by decide) ?_
    intro b_19 h_21 E_20 e_b_19 l_b_19 A_b_19 D_b_19
    have F_value_b_19 : Fld Z h_21 b_19 "java/lang/String" "value" "[B" Value.null := D_b_19 (Or.inr (wd G 20 rfl)) (ty := (.array .byte)) (by decide)
    have F_coder_b_19 : Fld Z h_21 b_19 "java/lang/String" "coder" "B" (.int (0 : Int32)) := D_b_19 (Or.inr (wd G 21 rfl)) (ty := .byte) (by decide)
    refine Seg.dup d1_48 rfl (pc' := 49) rfl ?_
    refine Seg.aloadN d1_49 rfl rfl (pc' := 50) rfl ?_
    have E_22 : Ext h_3 h_9 := ext_wr E_5 W_7 (Nat.le_trans (ext_rfl _).1 (Nat.le_of_eq e_b_4))
    have E_23 : Ext h_3 h_12 := ext_tr E_22 E_11
    have E_24 : Ext h_3 h_15 := ext_wr E_23 W_13 (Nat.le_trans E_22.1 (Nat.le_of_eq e_b_10))
    have E_25 : Ext h_3 h_18 := ext_wr E_24 W_16 (Nat.le_trans E_22.1 (Nat.le_of_eq e_b_10))
    have E_26 : Ext h_3 h_21 := ext_tr E_25 E_20
    have F_27 := A_b_1.ext E_26
    refine Seg.callN (y' := (⟨"java/lang/String", "<init>", "([C)V"⟩ : MethodName)) (a := b_19) rfl (wd G 8 rfl) (wd G 9 rfl) (wd G 10 rfl) ⟨by decide, by decide⟩ (Pays.of_ct (W := 1) (ct_sie G b_19 b_1 .null (.int 0) k_b_1 (.int 0) h_21 A_b_19 F_value_b_19 F_coder_b_19 F_27) (allS (List.mem_of_getElem? (i := 0) rfl) all0) (wd G 10 rfl) (wd G 7 rfl) (by decide) (by decide) rfl rfl) (argsL := [(.ref b_1)]) (rest := [(.ref b_19)]) rfl (lenOf pd_14 rfl) rfl (Nat.le_of_eq rfl) rfl d1_50 (pc' := 53) rfl (k' := 8) (n' := 15) rfl rfl (by decide) (by decide) ?_
    intro v_28 h_31 sz_29 q_30
    obtain ⟨rfl, K8, F8⟩ := q_30
    have E_32 : Ext h0 h_6 := ext_tr E_2 E_5
    have E_33 : Ext h0 h_9 := ext_wr E_32 W_7 (Nat.le_trans E_2.1 (Nat.le_of_eq e_b_4))
    have E_34 : Ext h0 h_12 := ext_tr E_33 E_11
    have E_35 : Ext h0 h_15 := ext_wr E_34 W_13 (Nat.le_trans E_33.1 (Nat.le_of_eq e_b_10))
    have E_36 : Ext h0 h_18 := ext_wr E_35 W_16 (Nat.le_trans E_33.1 (Nat.le_of_eq e_b_10))
    have E_37 : Ext h0 h_21 := ext_tr E_36 E_20
    have E_38 : Ext h0 h_31 := ext_kp E_37 K8 (allS (Nat.le_trans E_36.1 (Nat.le_of_eq e_b_19)) all0)
    exact Seg.retA rfl rfl rfl d1_53 (by decide) (by decide) ⟨b_19, rfl, E_38, by rw [strcs, if_pos h0']; exact F8⟩
  · refine Seg.ifY (pc' := 54) d1_42 (XT.i0_ne_t h0') (by decide) (by decide) ?_
    refine Seg.iloadN d1_54 rfl (pc' := 55) rfl ?_
    refine Seg.iconst (v := 1) d1_55 (by decide) (pc' := 56) rfl ?_
    by_cases h1' : n = 1
    · refine Seg.icN d1_56 (XT.ii_ne_f h1') (pc' := 59) rfl ?_
      refine Seg.newO (wd G 5 rfl) (wd G 6 rfl) (wd G 7 rfl) d1_59 (pc' := 62) rfl (k' := 4) (n' := 7) rfl rfl (by decide) (by decide) ?_
      intro b_39 h_41 E_40 e_b_39 l_b_39 A_b_39 D_b_39
      have F_value_b_39 : Fld Z h_41 b_39 "java/lang/String" "value" "[B" Value.null := D_b_39 (Or.inr (wd G 20 rfl)) (ty := (.array .byte)) (by decide)
      have F_coder_b_39 : Fld Z h_41 b_39 "java/lang/String" "coder" "B" (.int (0 : Int32)) := D_b_39 (Or.inr (wd G 21 rfl)) (ty := .byte) (by decide)
      refine Seg.dup d1_62 rfl (pc' := 63) rfl ?_
      refine Seg.aload d1_63 rfl rfl (pc' := 65) rfl ?_
      have E_42 : Ext h_9 h_15 := ext_wr E_11 W_13 (Nat.le_trans (ext_rfl _).1 (Nat.le_of_eq e_b_10))
      have E_43 : Ext h_9 h_18 := ext_wr E_42 W_16 (Nat.le_trans (ext_rfl _).1 (Nat.le_of_eq e_b_10))
      have E_44 : Ext h_9 h_41 := ext_tr E_43 E_40
      have F_45 := A_8.ext E_44
      refine Seg.callN (y' := (⟨"java/lang/String", "<init>", "([C)V"⟩ : MethodName)) (a := b_39) rfl (wd G 8 rfl) (wd G 9 rfl) (wd G 10 rfl) ⟨by decide, by decide⟩ (pays_str (W := 1) G [(x &&& (255 : Int32))] 1 h_41 A_b_39 F_value_b_39 F_coder_b_39 F_45 rfl rfl (by decide) (by decide) (by intro c hc; simp only [List.mem_cons, List.not_mem_nil, or_false] at hc; rcases hc with rfl <;> first | assumption | exact and255 _) (List.mem_of_getElem? (i := 0) rfl) (by decide) (by decide)) (argsL := [(.ref b_4)]) (rest := [(.ref b_39)]) rfl (lenOf pd_14 rfl) rfl (Nat.le_of_eq rfl) rfl d1_65 (pc' := 68) rfl (k' := 5) (n' := 8) rfl rfl (by decide) (by decide) ?_
      intro v_46 h_49 sz_47 q_48
      obtain ⟨rfl, K8, F8⟩ := q_48
      have E_50 : Ext h0 h_6 := ext_tr E_2 E_5
      have E_51 : Ext h0 h_9 := ext_wr E_50 W_7 (Nat.le_trans E_2.1 (Nat.le_of_eq e_b_4))
      have E_52 : Ext h0 h_12 := ext_tr E_51 E_11
      have E_53 : Ext h0 h_15 := ext_wr E_52 W_13 (Nat.le_trans E_51.1 (Nat.le_of_eq e_b_10))
      have E_54 : Ext h0 h_18 := ext_wr E_53 W_16 (Nat.le_trans E_51.1 (Nat.le_of_eq e_b_10))
      have E_55 : Ext h0 h_41 := ext_tr E_54 E_40
      have E_56 : Ext h0 h_49 := ext_kp E_55 K8 (allS (Nat.le_trans E_54.1 (Nat.le_of_eq e_b_39)) all0)
      exact Seg.retA rfl rfl rfl d1_68 (by decide) (by decide) ⟨b_39, rfl, E_56, by rw [strcs, if_neg h0', if_pos h1']; exact F8⟩
    · refine Seg.icY (pc' := 69) d1_56 (XT.ii_ne_t h1') (by decide) (by decide) ?_
      refine Seg.newO (wd G 5 rfl) (wd G 6 rfl) (wd G 7 rfl) d1_69 (pc' := 72) rfl (k' := 4) (n' := 7) rfl rfl (by decide) (by decide) ?_
      intro b_57 h_59 E_58 e_b_57 l_b_57 A_b_57 D_b_57
      have F_value_b_57 : Fld Z h_59 b_57 "java/lang/String" "value" "[B" Value.null := D_b_57 (Or.inr (wd G 20 rfl)) (ty := (.array .byte)) (by decide)
      have F_coder_b_57 : Fld Z h_59 b_57 "java/lang/String" "coder" "B" (.int (0 : Int32)) := D_b_57 (Or.inr (wd G 21 rfl)) (ty := .byte) (by decide)
      refine Seg.dup d1_72 rfl (pc' := 73) rfl ?_
      refine Seg.aload d1_73 rfl rfl (pc' := 75) rfl ?_
      have F_60 := A_17.ext E_58
      refine Seg.callN (y' := (⟨"java/lang/String", "<init>", "([C)V"⟩ : MethodName)) (a := b_57) rfl (wd G 8 rfl) (wd G 9 rfl) (wd G 10 rfl) ⟨by decide, by decide⟩ (pays_str (W := 1) G [(x &&& (255 : Int32)), (y &&& (255 : Int32))] 2 h_59 A_b_57 F_value_b_57 F_coder_b_57 F_60 rfl rfl (by decide) (by decide) (by intro c hc; simp only [List.mem_cons, List.not_mem_nil, or_false] at hc; rcases hc with rfl | rfl <;> first | assumption | exact and255 _) (List.mem_of_getElem? (i := 0) rfl) (by decide) (by decide)) (argsL := [(.ref b_10)]) (rest := [(.ref b_57)]) rfl (lenOf pd_14 rfl) rfl (Nat.le_of_eq rfl) rfl d1_75 (pc' := 78) rfl (k' := 5) (n' := 9) rfl rfl (by decide) (by decide) ?_
      intro v_61 h_64 sz_62 q_63
      obtain ⟨rfl, K8, F8⟩ := q_63
      have E_65 : Ext h0 h_6 := ext_tr E_2 E_5
      have E_66 : Ext h0 h_9 := ext_wr E_65 W_7 (Nat.le_trans E_2.1 (Nat.le_of_eq e_b_4))
      have E_67 : Ext h0 h_12 := ext_tr E_66 E_11
      have E_68 : Ext h0 h_15 := ext_wr E_67 W_13 (Nat.le_trans E_66.1 (Nat.le_of_eq e_b_10))
      have E_69 : Ext h0 h_18 := ext_wr E_68 W_16 (Nat.le_trans E_66.1 (Nat.le_of_eq e_b_10))
      have E_70 : Ext h0 h_59 := ext_tr E_69 E_58
      have E_71 : Ext h0 h_64 := ext_kp E_70 K8 (allS (Nat.le_trans E_69.1 (Nat.le_of_eq e_b_57)) all0)
      exact Seg.retA rfl rfl rfl d1_78 (by decide) (by decide) ⟨b_57, rfl, E_71, by rw [strcs, if_neg h0', if_neg h1']; exact F8⟩
theorem d19_0 : decode method_3_code 0 = .ok (.iload_n 0, 1) := by decide +kernel
theorem d19_1 : decode method_3_code 1 = .ok (.ifCond .ne 5, 3) := by decide +kernel
theorem d19_6 : decode method_3_code 6 = .ok (.iload_n 1, 1) := by decide +kernel
theorem d19_7 : decode method_3_code 7 = .ok (.sipush 255, 3) := by decide +kernel
theorem d19_10 : decode method_3_code 10 = .ok (.iand, 1) := by decide +kernel
theorem d19_11 : decode method_3_code 11 = .ok (.ifCond .ne 5, 3) := by decide +kernel
theorem d19_16 : decode method_3_code 16 = .ok (.iload_n 0, 1) := by decide +kernel
theorem d19_17 : decode method_3_code 17 = .ok (.iconst 2, 1) := by decide +kernel
theorem d19_18 : decode method_3_code 18 = .ok (.if_icmp .lt 13, 3) := by decide +kernel
theorem d19_31 : decode method_3_code 31 = .ok (.iconst 1, 1) := by decide +kernel
theorem d19_32 : decode method_3_code 32 = .ok (.ireturn, 1) := by decide +kernel
theorem d19_21 : decode method_3_code 21 = .ok (.iload_n 2, 1) := by decide +kernel
theorem d19_22 : decode method_3_code 22 = .ok (.sipush 255, 3) := by decide +kernel
theorem d19_25 : decode method_3_code 25 = .ok (.iand, 1) := by decide +kernel
theorem d19_26 : decode method_3_code 26 = .ok (.ifCond .ne 5, 3) := by decide +kernel
theorem ef_ct_validT (n : Int32) (x : Int32) (y : Int32) (m : MethodId) : entryFrame m #[(.int n), (.int x), (.int y)] 3 = mkF m 0 #[.val (.int n), .val (.int x), .val (.int y)] [] := by first | (simp [entryFrame, mkF, argsToLocals, Value.category]; done) | rfl
set_option maxRecDepth 65536 in
set_option maxHeartbeats 4000000 in
theorem ct_validT {l : Launch} {Z : State} {a0 : Array Value} (G : Env1 Z a0) (n : Int32) (x : Int32) (y : Int32) (h0 : Heap) (hv : VL n x y) :
    Ct l Z EL1 [] [] (⟨"pentrewick/api/UserContextHandlingPinLaw", "valid", "(III)Z"⟩ : MethodName) method_3_code 3 (some .boolean) ({ frames := 0, cells := 0, slots := 0, locals := 0 } : Room) #[(.int n), (.int x), (.int y)] h0 (fun v h => v = some (.int 1) ∧ h0 = h) := by
  refine Ct.of_seg (a0 := a0) (plainFor_of_name pn_pentrewick_api_UserContextHandlingPinLaw) G.2.1 (ef_ct_validT n x y) ?_
  refine Seg.iloadN d19_0 rfl (pc' := 1) rfl ?_
  refine Seg.ifY (pc' := 6) d19_1 (XT.i0_ne_t hv.1) (by decide) (by decide) ?_
  refine Seg.iloadN d19_6 rfl (pc' := 7) rfl ?_
  refine Seg.sipush (v := 255) d19_7 (by decide) (pc' := 10) rfl ?_
  refine Seg.iand (v := (x &&& (255 : Int32))) d19_10 rfl (pc' := 11) rfl ?_
  refine Seg.ifY (pc' := 16) d19_11 (XT.i0_ne_t hv.2.1) (by decide) (by decide) ?_
  refine Seg.iloadN d19_16 rfl (pc' := 17) rfl ?_
  refine Seg.iconst (v := 2) d19_17 (by decide) (pc' := 18) rfl ?_
  rcases hv.2.2 with q | q
  · refine Seg.icY (pc' := 31) d19_18 (XT.ii_lt_t q) (by decide) (by decide) ?_
    refine Seg.iconst (v := 1) d19_31 (by decide) (pc' := 32) rfl ?_
    exact Seg.retN (t := .boolean) (w := (1 : Int32)) rfl (by decide) (by decide) d19_32 (by decide) (by decide) ⟨rfl, rfl⟩
  · by_cases q2 : n < 2
    · refine Seg.icY (pc' := 31) d19_18 (XT.ii_lt_t q2) (by decide) (by decide) ?_
      refine Seg.iconst (v := 1) d19_31 (by decide) (pc' := 32) rfl ?_
      exact Seg.retN (t := .boolean) (w := (1 : Int32)) rfl (by decide) (by decide) d19_32 (by decide) (by decide) ⟨rfl, rfl⟩
    · refine Seg.icN d19_18 (XT.ii_lt_f q2) (pc' := 21) rfl ?_
      refine Seg.iloadN d19_21 rfl (pc' := 22) rfl ?_
      refine Seg.sipush (v := 255) d19_22 (by decide) (pc' := 25) rfl ?_
      refine Seg.iand (v := (y &&& (255 : Int32))) d19_25 rfl (pc' := 26) rfl ?_
      refine Seg.ifY (pc' := 31) d19_26 (XT.i0_ne_t q) (by decide) (by decide) ?_
      refine Seg.iconst (v := 1) d19_31 (by decide) (pc' := 32) rfl ?_
      exact Seg.retN (t := .boolean) (w := (1 : Int32)) rfl (by decide) (by decide) d19_32 (by decide) (by decide) ⟨rfl, rfl⟩
theorem d19_4 : decode method_3_code 4 = .ok (.iconst 0, 1) := by decide +kernel
theorem d19_5 : decode method_3_code 5 = .ok (.ireturn, 1) := by decide +kernel
theorem d19_14 : decode method_3_code 14 = .ok (.iconst 0, 1) := by decide +kernel
theorem d19_15 : decode method_3_code 15 = .ok (.ireturn, 1) := by decide +kernel
theorem d19_29 : decode method_3_code 29 = .ok (.iconst 0, 1) := by decide +kernel
theorem d19_30 : decode method_3_code 30 = .ok (.ireturn, 1) := by decide +kernel
theorem ef_ct_validF (n : Int32) (x : Int32) (y : Int32) (m : MethodId) : entryFrame m #[(.int n), (.int x), (.int y)] 3 = mkF m 0 #[.val (.int n), .val (.int x), .val (.int y)] [] := by first | (simp [entryFrame, mkF, argsToLocals, Value.category]; done) | rfl
set_option maxRecDepth 65536 in
set_option maxHeartbeats 4000000 in
theorem ct_validF {l : Launch} {Z : State} {a0 : Array Value} (G : Env1 Z a0) (n : Int32) (x : Int32) (y : Int32) (h0 : Heap) (hv : ¬ VL n x y) :
    Ct l Z EL1 [] [] (⟨"pentrewick/api/UserContextHandlingPinLaw", "valid", "(III)Z"⟩ : MethodName) method_3_code 3 (some .boolean) ({ frames := 0, cells := 0, slots := 0, locals := 0 } : Room) #[(.int n), (.int x), (.int y)] h0 (fun v h => v = some (.int 0) ∧ h0 = h) := by
  refine Ct.of_seg (a0 := a0) (plainFor_of_name pn_pentrewick_api_UserContextHandlingPinLaw) G.2.1 (ef_ct_validF n x y) ?_
  refine Seg.iloadN d19_0 rfl (pc' := 1) rfl ?_
  by_cases q0 : n = 0
  · refine Seg.ifN d19_1 (XT.i0_ne_f q0) (pc' := 4) rfl ?_
    refine Seg.iconst (v := 0) d19_4 (by decide) (pc' := 5) rfl ?_
    exact Seg.retN (t := .boolean) (w := (0 : Int32)) rfl (by decide) (by decide) d19_5 (by decide) (by decide) ⟨rfl, rfl⟩
  · refine Seg.ifY (pc' := 6) d19_1 (XT.i0_ne_t q0) (by decide) (by decide) ?_
    refine Seg.iloadN d19_6 rfl (pc' := 7) rfl ?_
    refine Seg.sipush (v := 255) d19_7 (by decide) (pc' := 10) rfl ?_
    refine Seg.iand (v := (x &&& (255 : Int32))) d19_10 rfl (pc' := 11) rfl ?_
    by_cases q1 : (x &&& (255 : Int32)) = 0
    · refine Seg.ifN d19_11 (XT.i0_ne_f q1) (pc' := 14) rfl ?_
      refine Seg.iconst (v := 0) d19_14 (by decide) (pc' := 15) rfl ?_
      exact Seg.retN (t := .boolean) (w := (0 : Int32)) rfl (by decide) (by decide) d19_15 (by decide) (by decide) ⟨rfl, rfl⟩
    · refine Seg.ifY (pc' := 16) d19_11 (XT.i0_ne_t q1) (by decide) (by decide) ?_
      refine Seg.iloadN d19_16 rfl (pc' := 17) rfl ?_
      refine Seg.iconst (v := 2) d19_17 (by decide) (pc' := 18) rfl ?_
      have q2 : ¬ n < 2 := fun q => hv ⟨q0, q1, Or.inl q⟩
      have q3 : (y &&& (255 : Int32)) = 0 := Decidable.byContradiction fun q => hv ⟨q0, q1, Or.inr q⟩
      refine Seg.icN d19_18 (XT.ii_lt_f q2) (pc' := 21) rfl ?_
      refine Seg.iloadN d19_21 rfl (pc' := 22) rfl ?_
      refine Seg.sipush (v := 255) d19_22 (by decide) (pc' := 25) rfl ?_
      refine Seg.iand (v := (y &&& (255 : Int32))) d19_25 rfl (pc' := 26) rfl ?_
      refine Seg.ifN d19_26 (XT.i0_ne_f q3) (pc' := 29) rfl ?_
      refine Seg.iconst (v := 0) d19_29 (by decide) (pc' := 30) rfl ?_
      exact Seg.retN (t := .boolean) (w := (0 : Int32)) rfl (by decide) (by decide) d19_30 (by decide) (by decide) ⟨rfl, rfl⟩
theorem d13_0 : decode method_4_code 0 = .ok (.aload_n 0, 1) := by decide +kernel
theorem d13_1 : decode method_4_code 1 = .ok (.ifnonnull 13, 3) := by decide +kernel
theorem d13_4 : decode method_4_code 4 = .ok (.aload_n 1, 1) := by decide +kernel
theorem d13_5 : decode method_4_code 5 = .ok (.ifnonnull 7, 3) := by decide +kernel
theorem d13_8 : decode method_4_code 8 = .ok (.iconst 1, 1) := by decide +kernel
theorem d13_9 : decode method_4_code 9 = .ok (.goto 4, 3) := by decide +kernel
theorem d13_13 : decode method_4_code 13 = .ok (.ireturn, 1) := by decide +kernel
theorem d13_14 : decode method_4_code 14 = .ok (.aload_n 0, 1) := by decide +kernel
theorem d13_15 : decode method_4_code 15 = .ok (.aload_n 1, 1) := by decide +kernel
theorem d13_16 : decode method_4_code 16 = .ok (.invokevirtual 12, 3) := by decide +kernel
theorem pd_15 : parseMethodDescriptor "(Ljava/lang/Object;)Z" = some ⟨[(.object "java/lang/Object")], some .boolean⟩ := by decide +kernel
theorem d13_19 : decode method_4_code 19 = .ok (.ireturn, 1) := by decide +kernel
theorem ef_ct_same (v : Value) (hv : (v).isRef = true) (m : MethodId) : entryFrame m #[v, v] 2 = mkF m 0 #[.val v, .val v] [] := by
  rcases ref_cases hv with rfl | ⟨_, rfl⟩ <;> rfl
set_option maxRecDepth 65536 in
set_option maxHeartbeats 4000000 in
theorem ct_same {l : Launch} {Z : State} {a0 : Array Value} (G : Env1 Z a0) (v : Value) (h0 : Heap) (hv : v.isRef = true) (ho : v = .null ∨ ∃ a, v = .ref a ∧ Exa Z h0 a STN) :
    Ct l Z EL1 [] [] (⟨"pentrewick/api/UserContextHandlingPinLaw", "same", "(Ljava/lang/String;Ljava/lang/String;)Z"⟩ : MethodName) method_4_code 2 (some .boolean) ({ frames := 1, cells := 0, slots := 0, locals := 14 } : Room) #[v, v] h0 (fun u h => u = some (.int 1) ∧ h0 = h) := by
  refine Ct.of_seg (a0 := a0) (plainFor_of_name pn_pentrewick_api_UserContextHandlingPinLaw) G.2.1 (ef_ct_same v hv) ?_
  rcases ho with rfl | ⟨a, rfl, A⟩
  · refine Seg.aloadN d13_0 rfl rfl (pc' := 1) rfl ?_
    refine Seg.nonnN d13_1 (pc' := 4) rfl ?_
    refine Seg.aloadN d13_4 rfl rfl (pc' := 5) rfl ?_
    refine Seg.nonnN d13_5 (pc' := 8) rfl ?_
    refine Seg.iconst (v := 1) d13_8 (by decide) (pc' := 9) rfl ?_
    refine Seg.goto (pc' := 13) d13_9 (by decide) (by decide) ?_
    exact Seg.retN (t := .boolean) (w := (1 : Int32)) rfl (by decide) (by decide) d13_13 (by decide) (by decide) ⟨rfl, rfl⟩
  · refine Seg.aloadN d13_0 rfl rfl (pc' := 1) rfl ?_
    refine Seg.nonnY (pc' := 14) d13_1 (by decide) (by decide) ?_
    refine Seg.aloadN d13_14 rfl rfl (pc' := 15) rfl ?_
    refine Seg.aloadN d13_15 rfl rfl (pc' := 16) rfl ?_
    refine Seg.callV (y' := (⟨"java/lang/String", "equals", "(Ljava/lang/Object;)Z"⟩ : MethodName)) (z := (⟨"java/lang/String", "equals", "(Ljava/lang/Object;)Z"⟩ : MethodName)) (a := a) (wd G 73 rfl) (wd G 74 rfl) (nf_sel (wd G 76 rfl)) (wd G 76 rfl) (wd G 75 rfl) ⟨by decide, by decide⟩ A (Pays.of_ct (W := 0) (ct_eqs G a h0) all0 (wd G 77 rfl) (wd G 7 rfl) (by decide) (by decide) rfl rfl) (argsL := [(.ref a)]) (rest := []) rfl (lenOf pd_15 rfl) rfl (Nat.le_of_eq rfl) rfl d13_16 (pc' := 19) rfl (k' := 0) (n' := 0) rfl rfl (by decide) (by decide) ?_
    intro v_1 h_4 sz_2 q_3
    obtain ⟨rfl, rfl⟩ := q_3
    exact Seg.retN (t := .boolean) (w := (1 : Int32)) rfl (by decide) (by decide) d13_19 (by decide) (by decide) ⟨rfl, rfl⟩
theorem d9_0 : decode prog_4_method_15_code 0 = .ok (.new 8, 3) := by decide +kernel
theorem d9_3 : decode prog_4_method_15_code 3 = .ok (.dup, 1) := by decide +kernel
theorem d9_4 : decode prog_4_method_15_code 4 = .ok (.aload_n 0, 1) := by decide +kernel
theorem d9_5 : decode prog_4_method_15_code 5 = .ok (.aload_n 1, 1) := by decide +kernel
theorem d9_6 : decode prog_4_method_15_code 6 = .ok (.invokestatic 44, 3) := by decide +kernel
theorem d9_9 : decode prog_4_method_15_code 9 = .ok (.iconst 1, 1) := by decide +kernel
theorem d9_10 : decode prog_4_method_15_code 10 = .ok (.invokespecial 50, 3) := by decide +kernel
theorem d9_13 : decode prog_4_method_15_code 13 = .ok (.areturn, 1) := by decide +kernel
theorem ef_ct_hand (vu : Value) (vt : Value) (es : Addr) (hu : (vu).isRef = true) (ht : (vt).isRef = true) (m : MethodId) : entryFrame m #[vu, vt] 2 = mkF m 0 #[.val vu, .val vt] [] := by
  rcases ref_cases hu with rfl | ⟨_, rfl⟩ <;> rcases ref_cases ht with rfl | ⟨_, rfl⟩ <;> rfl
set_option maxRecDepth 65536 in
set_option maxHeartbeats 4000000 in
theorem ct_hand {l : Launch} {Z : State} {a0 : Array Value} (G : Env1 Z a0) (vu : Value) (vt : Value) (es : Addr) (h0 : Heap) (hu : vu.isRef = true) (ht : vt.isRef = true) (Se : Sta Z Z.heap "java/util/ImmutableCollections" "EMPTY_SET" "Ljava/util/ImmutableCollections$SetN;" (.ref es)) :
    Ct l Z EL1 [] [] (⟨"pentrewick/api/UserContext", "handling", "(Ljava/lang/String;Ljava/lang/String;)Lpentrewick/api/UserContext;"⟩ : MethodName) prog_4_method_15_code 2 (some (.object "pentrewick/api/UserContext")) ({ frames := 2, cells := 1, slots := 4, locals := 29 } : Room) #[vu, vt] h0 (fun v h => ∃ r, v = some (.ref r) ∧ Ext h0 h ∧ Exa Z h r "pentrewick/api/UserContext" ∧ Fld Z h r "pentrewick/api/UserContext" "m_userId" "Ljava/lang/String;" vu ∧ Fld Z h r "pentrewick/api/UserContext" "m_tenant" "Ljava/lang/String;" vt ∧ Fld Z h r "pentrewick/api/UserContext" "m_roles" "Ljava/util/Set;" (.ref es) ∧ Fld Z h r "pentrewick/api/UserContext" "m_privileged" "Z" (.int 1)) := by
  refine Ct.of_seg (a0 := a0) (plainFor_of_name pn_pentrewick_api_UserContext) G.2.1 (ef_ct_hand vu vt es hu ht) ?_
  refine Seg.newO (wd G 45 rfl) (wd G 46 rfl) (wd G 43 rfl) d9_0 (pc' := 3) rfl (k' := 1) (n' := 4) rfl rfl (by decide) (by decide) ?_
  intro b_1 h_3 E_2 e_b_1 l_b_1 A_b_1 D_b_1
  have F_m_userId_b_1 : Fld Z h_3 b_1 "pentrewick/api/UserContext" "m_userId" "Ljava/lang/String;" Value.null := D_b_1 (Or.inr (wd G 58 rfl)) (ty := (.object "java/lang/String")) (by decide)
  have F_m_tenant_b_1 : Fld Z h_3 b_1 "pentrewick/api/UserContext" "m_tenant" "Ljava/lang/String;" Value.null := D_b_1 (Or.inr (wd G 60 rfl)) (ty := (.object "java/lang/String")) (by decide)
  have F_m_roles_b_1 : Fld Z h_3 b_1 "pentrewick/api/UserContext" "m_roles" "Ljava/util/Set;" Value.null := D_b_1 (Or.inr (wd G 62 rfl)) (ty := (.object "java/util/Set")) (by decide)
  have F_m_privileged_b_1 : Fld Z h_3 b_1 "pentrewick/api/UserContext" "m_privileged" "Z" (.int (0 : Int32)) := D_b_1 (Or.inr (wd G 64 rfl)) (ty := .boolean) (by decide)
  refine Seg.dup d9_3 rfl (pc' := 4) rfl ?_
  refine Seg.aloadN d9_4 rfl hu (pc' := 5) rfl ?_
  refine Seg.aloadN d9_5 rfl ht (pc' := 6) rfl ?_
  refine Seg.callS (y' := (⟨"java/util/Set", "of", "()Ljava/util/Set;"⟩ : MethodName)) (wd G 47 rfl) (wd G 48 rfl) (wd G 49 rfl) (wd G 50 rfl) ⟨by decide, by decide⟩ (Pays.of_ct (W := 4) (ct_setof G es h_3 Se) all0 (wd G 50 rfl) (wd G 49 rfl) (by decide) (by decide) rfl rfl) (argsL := []) (rest := [vt, vu, (.ref b_1), (.ref b_1)]) rfl (lenOf pd_12 rfl) rfl (by simp only [List.map_cons, List.map_nil, List.sum_cons, List.sum_nil, XT.cat1 ht, XT.cat1 hu]; exact Nat.le_of_eq rfl) rfl d9_6 (pc' := 9) rfl (k' := 1) (n' := 4) rfl rfl (by decide) (by decide) ?_
  intro v_4 h_7 sz_5 q_6
  obtain ⟨rfl, rfl⟩ := q_6
  refine Seg.iconst (v := 1) d9_9 (by decide) (pc' := 10) rfl ?_
  refine Seg.callN (y' := (⟨"pentrewick/api/UserContext", "<init>", "(Ljava/lang/String;Ljava/lang/String;Ljava/util/Set;Z)V"⟩ : MethodName)) (a := b_1) rfl (wd G 53 rfl) (wd G 54 rfl) (wd G 55 rfl) ⟨by decide, by decide⟩ (Pays.of_ct (W := 1) (ct_uinit G b_1 vu vt (.ref es) 1 .null .null .null (.int 0) h_3 hu ht rfl (Or.inr rfl) A_b_1 F_m_userId_b_1 F_m_tenant_b_1 F_m_roles_b_1 F_m_privileged_b_1) (allS (List.mem_of_getElem? (i := 0) rfl) all0) (wd G 55 rfl) (wd G 43 rfl) (by decide) (by decide) rfl rfl) (argsL := [vu, vt, (.ref es), (.int (1 : Int32))]) (rest := [(.ref b_1)]) rfl (lenOf pd_13 rfl) rfl (Nat.le_of_eq rfl) rfl d9_10 (pc' := 13) rfl (k' := 1) (n' := 4) rfl rfl (by decide) (by decide) ?_
  intro v_8 h_11 sz_9 q_10
  obtain ⟨rfl, K9, F91, F92, F93, F94⟩ := q_10
  have E_12 : Ext h0 h_11 := ext_kp E_2 K9 (allS (Nat.le_trans (ext_rfl _).1 (Nat.le_of_eq e_b_1)) all0)
  have F_13 := (A_b_1.keep K9)
  exact Seg.retA rfl rfl rfl d9_13 (by decide) (by decide) ⟨b_1, rfl, E_12, F_13, F91, F92, F93, F94⟩
theorem d12_0 : decode prog_4_method_8_code 0 = .ok (.aload_n 0, 1) := by decide +kernel
theorem d12_1 : decode prog_4_method_8_code 1 = .ok (.getfield 7, 3) := by decide +kernel
theorem d12_4 : decode prog_4_method_8_code 4 = .ok (.areturn, 1) := by decide +kernel
theorem ef_ct_uid (a : Addr) (b : Value) (m : MethodId) : entryFrame m #[(.ref a)] 1 = mkF m 0 #[.val (.ref a)] [] := by first | (simp [entryFrame, mkF, argsToLocals, Value.category]; done) | rfl
set_option maxRecDepth 65536 in
set_option maxHeartbeats 4000000 in
theorem ct_uid {l : Launch} {Z : State} {a0 : Array Value} (G : Env1 Z a0) (a : Addr) (b : Value) (h0 : Heap) (hb : b.isRef = true) (F0 : Fld Z h0 a "pentrewick/api/UserContext" "m_userId" "Ljava/lang/String;" b) :
    Ct l Z EL1 [] [] (⟨"pentrewick/api/UserContext", "userId", "()Ljava/lang/String;"⟩ : MethodName) prog_4_method_8_code 1 (some (.object "java/lang/String")) ({ frames := 0, cells := 0, slots := 0, locals := 0 } : Room) #[(.ref a)] h0 (fun v h => v = some b ∧ h0 = h) := by
  refine Ct.of_seg (a0 := a0) (plainFor_of_name pn_pentrewick_api_UserContext) G.2.1 (ef_ct_uid a b) ?_
  refine Seg.aloadN d12_0 rfl rfl (pc' := 1) rfl ?_
  refine Seg.getF (host := "") (Or.inl (wd G 57 rfl)) Via.refl F0 d12_1 (pc' := 4) rfl ?_
  exact Seg.retA rfl rfl hb d12_4 (by decide) (by decide) ⟨rfl, rfl⟩
theorem d15_0 : decode prog_4_method_9_code 0 = .ok (.aload_n 0, 1) := by decide +kernel
theorem d15_1 : decode prog_4_method_9_code 1 = .ok (.getfield 13, 3) := by decide +kernel
theorem d15_4 : decode prog_4_method_9_code 4 = .ok (.areturn, 1) := by decide +kernel
theorem ef_ct_ten (a : Addr) (b : Value) (m : MethodId) : entryFrame m #[(.ref a)] 1 = mkF m 0 #[.val (.ref a)] [] := by first | (simp [entryFrame, mkF, argsToLocals, Value.category]; done) | rfl
set_option maxRecDepth 65536 in
set_option maxHeartbeats 4000000 in
theorem ct_ten {l : Launch} {Z : State} {a0 : Array Value} (G : Env1 Z a0) (a : Addr) (b : Value) (h0 : Heap) (hb : b.isRef = true) (F0 : Fld Z h0 a "pentrewick/api/UserContext" "m_tenant" "Ljava/lang/String;" b) :
    Ct l Z EL1 [] [] (⟨"pentrewick/api/UserContext", "tenant", "()Ljava/lang/String;"⟩ : MethodName) prog_4_method_9_code 1 (some (.object "java/lang/String")) ({ frames := 0, cells := 0, slots := 0, locals := 0 } : Room) #[(.ref a)] h0 (fun v h => v = some b ∧ h0 = h) := by
  refine Ct.of_seg (a0 := a0) (plainFor_of_name pn_pentrewick_api_UserContext) G.2.1 (ef_ct_ten a b) ?_
  refine Seg.aloadN d15_0 rfl rfl (pc' := 1) rfl ?_
  refine Seg.getF (host := "") (Or.inl (wd G 59 rfl)) Via.refl F0 d15_1 (pc' := 4) rfl ?_
  exact Seg.retA rfl rfl hb d15_4 (by decide) (by decide) ⟨rfl, rfl⟩
theorem d16_0 : decode prog_4_method_11_code 0 = .ok (.aload_n 0, 1) := by decide +kernel
theorem d16_1 : decode prog_4_method_11_code 1 = .ok (.getfield 20, 3) := by decide +kernel
theorem d16_4 : decode prog_4_method_11_code 4 = .ok (.ireturn, 1) := by decide +kernel
theorem ef_ct_prv (a : Addr) (m : MethodId) : entryFrame m #[(.ref a)] 1 = mkF m 0 #[.val (.ref a)] [] := by first | (simp [entryFrame, mkF, argsToLocals, Value.category]; done) | rfl
set_option maxRecDepth 65536 in
set_option maxHeartbeats 4000000 in
theorem ct_prv {l : Launch} {Z : State} {a0 : Array Value} (G : Env1 Z a0) (a : Addr) (h0 : Heap) (F0 : Fld Z h0 a "pentrewick/api/UserContext" "m_privileged" "Z" (.int (1 : Int32))) :
    Ct l Z EL1 [] [] (⟨"pentrewick/api/UserContext", "privileged", "()Z"⟩ : MethodName) prog_4_method_11_code 1 (some .boolean) ({ frames := 0, cells := 0, slots := 0, locals := 0 } : Room) #[(.ref a)] h0 (fun v h => v = some (.int (1 : Int32)) ∧ h0 = h) := by
  refine Ct.of_seg (a0 := a0) (plainFor_of_name pn_pentrewick_api_UserContext) G.2.1 (ef_ct_prv a) ?_
  refine Seg.aloadN d16_0 rfl rfl (pc' := 1) rfl ?_
  refine Seg.getF (host := "") (Or.inl (wd G 63 rfl)) Via.refl F0 d16_1 (pc' := 4) rfl ?_
  exact Seg.retN (t := .boolean) (w := (1 : Int32)) rfl (by decide) (by decide) d16_4 (by decide) (by decide) ⟨rfl, rfl⟩
theorem d17_0 : decode prog_4_method_12_code 0 = .ok (.aload_n 1, 1) := by decide +kernel
theorem d17_1 : decode prog_4_method_12_code 1 = .ok (.ldc 65, 2) := by decide +kernel
theorem d17_3 : decode prog_4_method_12_code 3 = .ok (.invokestatic 67, 3) := by decide +kernel
theorem d17_6 : decode prog_4_method_12_code 6 = .ok (.pop, 1) := by decide +kernel
theorem d17_7 : decode prog_4_method_12_code 7 = .ok (.aload_n 0, 1) := by decide +kernel
theorem d17_8 : decode prog_4_method_12_code 8 = .ok (.getfield 20, 3) := by decide +kernel
theorem d17_11 : decode prog_4_method_12_code 11 = .ok (.ifCond .ne 16, 3) := by decide +kernel
theorem d17_27 : decode prog_4_method_12_code 27 = .ok (.iconst 1, 1) := by decide +kernel
theorem d17_28 : decode prog_4_method_12_code 28 = .ok (.goto 4, 3) := by decide +kernel
theorem d17_32 : decode prog_4_method_12_code 32 = .ok (.ireturn, 1) := by decide +kernel
theorem ef_ct_hasRole (a : Addr) (b : Addr) (m : MethodId) : entryFrame m #[(.ref a), (.ref b)] 2 = mkF m 0 #[.val (.ref a), .val (.ref b)] [] := by first | (simp [entryFrame, mkF, argsToLocals, Value.category]; done) | rfl
set_option maxRecDepth 65536 in
set_option maxHeartbeats 4000000 in
theorem ct_hasRole {l : Launch} {Z : State} {a0 : Array Value} (G : Env1 Z a0) (a : Addr) (b : Addr) (h0 : Heap) (F1 : Fld Z h0 a "pentrewick/api/UserContext" "m_privileged" "Z" (.int 1)) :
    Ct l Z EL1 [] [] (⟨"pentrewick/api/UserContext", "hasRole", "(Ljava/lang/String;)Z"⟩ : MethodName) prog_4_method_12_code 2 (some .boolean) ({ frames := 1, cells := 2, slots := 20, locals := 13 } : Room) #[(.ref a), (.ref b)] h0 (fun v h => v = some (.int 1) ∧ Ext h0 h) := by
  refine Ct.of_seg (a0 := a0) (plainFor_of_name pn_pentrewick_api_UserContext) G.2.1 (ef_ct_hasRole a b) ?_
  refine Seg.aloadN d17_0 rfl rfl (pc' := 1) rfl ?_
  refine Seg.ldcS (text := "role") (vs := [(.int 114), (.int 111), (.int 108), (.int 101)]) (z := 4) (nn := 16) (wd G 93 rfl) (wS G) (by decide) (by decide +kernel) (by decide) (by decide) d17_1 (pc' := 3) rfl (by decide) (by decide) (k' := 2) (n' := 20) rfl rfl (by decide) (by decide) ?_
  intro a_1 h_10 b_2 kb_3 E_4 A_5 F_6 F_7 A_8 ne_9
  refine Seg.callS (y' := (⟨"java/util/Objects", "requireNonNull", "(Ljava/lang/Object;Ljava/lang/String;)Ljava/lang/Object;"⟩ : MethodName)) (wd G 94 rfl) (wd G 95 rfl) (wd G 96 rfl) (wd G 97 rfl) ⟨by decide, by decide⟩ (Pays.of_ct (W := 0) (ct_req G b a_1 h_10) all0 (wd G 97 rfl) (wd G 96 rfl) (by decide) (by decide) rfl rfl) (argsL := [(.ref b), (.ref a_1)]) (rest := []) rfl (lenOf pd_9 rfl) rfl (Nat.le_of_eq rfl) rfl d17_3 (pc' := 6) rfl (k' := 2) (n' := 20) rfl rfl (by decide) (by decide) ?_
  intro v_11 h_14 sz_12 q_13
  obtain ⟨rfl, rfl⟩ := q_13
  refine Seg.pop d17_6 rfl (pc' := 7) rfl ?_
  refine Seg.aloadN d17_7 rfl rfl (pc' := 8) rfl ?_
  have F_15 := F1.ext E_4
  refine Seg.getF (host := "") (Or.inl (wd G 63 rfl)) Via.refl F_15 d17_8 (pc' := 11) rfl ?_
  refine Seg.ifY (pc' := 27) d17_11 (by decide) (by decide) (by decide) ?_
  refine Seg.iconst (v := 1) d17_27 (by decide) (pc' := 28) rfl ?_
  refine Seg.goto (pc' := 32) d17_28 (by decide) (by decide) ?_
  exact Seg.retN (t := .boolean) (w := (1 : Int32)) rfl (by decide) (by decide) d17_32 (by decide) (by decide) ⟨rfl, E_4⟩
theorem d23_0 : decode prog_4_method_3_code 0 = .ok (.getstatic 34, 3) := by decide +kernel
theorem d23_3 : decode prog_4_method_3_code 3 = .ok (.areturn, 1) := by decide +kernel
theorem ef_ct_sys (sys : Addr) (m : MethodId) : entryFrame m #[] 0 = mkF m 0 #[] [] := by first | (simp [entryFrame, mkF, argsToLocals, Value.category]; done) | rfl
set_option maxRecDepth 65536 in
set_option maxHeartbeats 4000000 in
theorem ct_sys {l : Launch} {Z : State} {a0 : Array Value} (G : Env1 Z a0) (sys : Addr) (h0 : Heap) (Ss : Sta Z Z.heap "pentrewick/api/UserContext" "SYSTEM" "Lpentrewick/api/UserContext;" (.ref sys)) :
    Ct l Z EL1 [] [] (⟨"pentrewick/api/UserContext", "system", "()Lpentrewick/api/UserContext;"⟩ : MethodName) prog_4_method_3_code 0 (some (.object "pentrewick/api/UserContext")) ({ frames := 0, cells := 0, slots := 0, locals := 0 } : Room) #[] h0 (fun v h => v = some (.ref sys) ∧ h0 = h) := by
  refine Ct.of_seg (a0 := a0) (plainFor_of_name pn_pentrewick_api_UserContext) G.2.1 (ef_ct_sys sys) ?_
  refine Seg.getS (wd G 114 rfl) Via.refl Ss d23_0 (pc' := 3) rfl ?_
  exact Seg.retA rfl rfl rfl d23_3 (by decide) (by decide) ⟨rfl, rfl⟩
theorem d24_0 : decode prog_4_method_5_code 0 = .ok (.new 8, 3) := by decide +kernel
theorem d24_3 : decode prog_4_method_5_code 3 = .ok (.dup, 1) := by decide +kernel
theorem d24_4 : decode prog_4_method_5_code 4 = .ok (.aload_n 0, 1) := by decide +kernel
theorem d24_5 : decode prog_4_method_5_code 5 = .ok (.getfield 7, 3) := by decide +kernel
theorem d24_8 : decode prog_4_method_5_code 8 = .ok (.aconst_null, 1) := by decide +kernel
theorem d24_9 : decode prog_4_method_5_code 9 = .ok (.aload_n 1, 1) := by decide +kernel
theorem d24_10 : decode prog_4_method_5_code 10 = .ok (.if_acmp .ne 7, 3) := by decide +kernel
theorem d24_13 : decode prog_4_method_5_code 13 = .ok (.aconst_null, 1) := by decide +kernel
theorem d24_14 : decode prog_4_method_5_code 14 = .ok (.goto 9, 3) := by decide +kernel
theorem d24_23 : decode prog_4_method_5_code 23 = .ok (.aload_n 0, 1) := by decide +kernel
theorem d24_24 : decode prog_4_method_5_code 24 = .ok (.getfield 16, 3) := by decide +kernel
theorem d24_27 : decode prog_4_method_5_code 27 = .ok (.aload_n 0, 1) := by decide +kernel
theorem d24_28 : decode prog_4_method_5_code 28 = .ok (.getfield 20, 3) := by decide +kernel
theorem d24_31 : decode prog_4_method_5_code 31 = .ok (.invokespecial 50, 3) := by decide +kernel
theorem d24_34 : decode prog_4_method_5_code 34 = .ok (.areturn, 1) := by decide +kernel
theorem ef_ct_wtN (a : Addr) (vu : Value) (es : Addr) (m : MethodId) : entryFrame m #[(.ref a), Value.null] 2 = mkF m 0 #[.val (.ref a), .val Value.null] [] := by first | (simp [entryFrame, mkF, argsToLocals, Value.category]; done) | rfl
set_option maxRecDepth 65536 in
set_option maxHeartbeats 4000000 in
theorem ct_wtN {l : Launch} {Z : State} {a0 : Array Value} (G : Env1 Z a0) (a : Addr) (vu : Value) (es : Addr) (h0 : Heap) (hu : vu.isRef = true) (Fu : Fld Z h0 a "pentrewick/api/UserContext" "m_userId" "Ljava/lang/String;" vu) (Fr : Fld Z h0 a "pentrewick/api/UserContext" "m_roles" "Ljava/util/Set;" (.ref es)) (Fp : Fld Z h0 a "pentrewick/api/UserContext" "m_privileged" "Z" (.int 0)) :
    Ct l Z EL1 [] [] (⟨"pentrewick/api/UserContext", "withTenant", "(Ljava/lang/String;)Lpentrewick/api/UserContext;"⟩ : MethodName) prog_4_method_5_code 2 (some (.object "pentrewick/api/UserContext")) ({ frames := 2, cells := 1, slots := 4, locals := 29 } : Room) #[(.ref a), Value.null] h0 (fun v h => ∃ r, v = some (.ref r) ∧ Ext h0 h ∧ Exa Z h r "pentrewick/api/UserContext" ∧ Fld Z h r "pentrewick/api/UserContext" "m_userId" "Ljava/lang/String;" vu ∧ Fld Z h r "pentrewick/api/UserContext" "m_tenant" "Ljava/lang/String;" .null ∧ Fld Z h r "pentrewick/api/UserContext" "m_roles" "Ljava/util/Set;" (.ref es) ∧ Fld Z h r "pentrewick/api/UserContext" "m_privileged" "Z" (.int 0)) := by
  refine Ct.of_seg (a0 := a0) (plainFor_of_name pn_pentrewick_api_UserContext) G.2.1 (ef_ct_wtN a vu es) ?_
  refine Seg.newO (wd G 45 rfl) (wd G 46 rfl) (wd G 43 rfl) d24_0 (pc' := 3) rfl (k' := 1) (n' := 4) rfl rfl (by decide) (by decide) ?_
  intro b_1 h_3 E_2 e_b_1 l_b_1 A_b_1 D_b_1
  have F_m_userId_b_1 : Fld Z h_3 b_1 "pentrewick/api/UserContext" "m_userId" "Ljava/lang/String;" Value.null := D_b_1 (Or.inr (wd G 58 rfl)) (ty := (.object "java/lang/String")) (by decide)
  have F_m_tenant_b_1 : Fld Z h_3 b_1 "pentrewick/api/UserContext" "m_tenant" "Ljava/lang/String;" Value.null := D_b_1 (Or.inr (wd G 60 rfl)) (ty := (.object "java/lang/String")) (by decide)
  have F_m_roles_b_1 : Fld Z h_3 b_1 "pentrewick/api/UserContext" "m_roles" "Ljava/util/Set;" Value.null := D_b_1 (Or.inr (wd G 62 rfl)) (ty := (.object "java/util/Set")) (by decide)
  have F_m_privileged_b_1 : Fld Z h_3 b_1 "pentrewick/api/UserContext" "m_privileged" "Z" (.int (0 : Int32)) := D_b_1 (Or.inr (wd G 64 rfl)) (ty := .boolean) (by decide)
  refine Seg.dup d24_3 rfl (pc' := 4) rfl ?_
  refine Seg.aloadN d24_4 rfl rfl (pc' := 5) rfl ?_
  have F_4 := Fu.ext E_2
  refine Seg.getF (host := "") (Or.inl (wd G 57 rfl)) Via.refl F_4 d24_5 (pc' := 8) rfl ?_
  refine Seg.anull d24_8 (pc' := 9) rfl ?_
  refine Seg.aloadN d24_9 rfl rfl (pc' := 10) rfl ?_
  refine Seg.acN d24_10 rfl rfl (XT.aa_ne_f rfl) (pc' := 13) rfl ?_
  refine Seg.anull d24_13 (pc' := 14) rfl ?_
  refine Seg.goto (pc' := 23) d24_14 (by decide) (by decide) ?_
  refine Seg.aloadN d24_23 rfl rfl (pc' := 24) rfl ?_
  have F_5 := Fr.ext E_2
  refine Seg.getF (host := "") (Or.inl (wd G 61 rfl)) Via.refl F_5 d24_24 (pc' := 27) rfl ?_
  refine Seg.aloadN d24_27 rfl rfl (pc' := 28) rfl ?_
  have F_6 := Fp.ext E_2
  refine Seg.getF (host := "") (Or.inl (wd G 63 rfl)) Via.refl F_6 d24_28 (pc' := 31) rfl ?_
  refine Seg.callN (y' := (⟨"pentrewick/api/UserContext", "<init>", "(Ljava/lang/String;Ljava/lang/String;Ljava/util/Set;Z)V"⟩ : MethodName)) (a := b_1) rfl (wd G 53 rfl) (wd G 54 rfl) (wd G 55 rfl) ⟨by decide, by decide⟩ (Pays.of_ct (W := 1) (ct_uinit G b_1 vu .null (.ref es) 0 .null .null .null (.int 0) h_3 hu rfl rfl (Or.inl rfl) A_b_1 F_m_userId_b_1 F_m_tenant_b_1 F_m_roles_b_1 F_m_privileged_b_1) (allS (List.mem_of_getElem? (i := 0) rfl) all0) (wd G 55 rfl) (wd G 43 rfl) (by decide) (by decide) rfl rfl) (argsL := [vu, Value.null, (.ref es), (.int (0 : Int32))]) (rest := [(.ref b_1)]) rfl (lenOf pd_13 rfl) rfl (Nat.le_of_eq rfl) rfl d24_31 (pc' := 34) rfl (k' := 1) (n' := 4) rfl rfl (by decide) (by decide) ?_
  intro v_7 h_10 sz_8 q_9
  obtain ⟨rfl, K9, F91, F92, F93, F94⟩ := q_9
  have E_11 : Ext h0 h_10 := ext_kp E_2 K9 (allS (Nat.le_trans (ext_rfl _).1 (Nat.le_of_eq e_b_1)) all0)
  have F_12 := (A_b_1.keep K9)
  exact Seg.retA rfl rfl rfl d24_34 (by decide) (by decide) ⟨b_1, rfl, E_11, F_12, F91, F92, F93, F94⟩
theorem d24_17 : decode prog_4_method_5_code 17 = .ok (.aload_n 1, 1) := by decide +kernel
theorem d24_18 : decode prog_4_method_5_code 18 = .ok (.ldc 53, 2) := by decide +kernel
theorem d24_20 : decode prog_4_method_5_code 20 = .ok (.invokestatic 40, 3) := by decide +kernel
theorem ef_ct_wtS (a : Addr) (vu : Value) (es : Addr) (t : Addr) (cs : List Int32) (m : MethodId) : entryFrame m #[(.ref a), (.ref t)] 2 = mkF m 0 #[.val (.ref a), .val (.ref t)] [] := by first | (simp [entryFrame, mkF, argsToLocals, Value.category]; done) | rfl
set_option maxRecDepth 65536 in
set_option maxHeartbeats 4000000 in
theorem ct_wtS {l : Launch} {Z : State} {a0 : Array Value} (G : Env1 Z a0) (a : Addr) (vu : Value) (es : Addr) (t : Addr) (cs : List Int32) (h0 : Heap) (hu : vu.isRef = true) (Fu : Fld Z h0 a "pentrewick/api/UserContext" "m_userId" "Ljava/lang/String;" vu) (Fr : Fld Z h0 a "pentrewick/api/UserContext" "m_roles" "Ljava/util/Set;" (.ref es)) (Fp : Fld Z h0 a "pentrewick/api/UserContext" "m_privileged" "Z" (.int 0)) (F : Str Z h0 t cs) (hc : ∀ c ∈ cs, ¬ c < 0 ∧ ¬ (255 : Int32) < c) (hz : ∀ c ∈ cs, ¬ c = 0) (h1 : 0 < cs.length) :
    Ct l Z EL1 [] [] (⟨"pentrewick/api/UserContext", "withTenant", "(Ljava/lang/String;)Lpentrewick/api/UserContext;"⟩ : MethodName) prog_4_method_5_code 2 (some (.object "pentrewick/api/UserContext")) ({ frames := 5, cells := 3, slots := 44, locals := 76 } : Room) #[(.ref a), (.ref t)] h0 (fun v h => ∃ r, v = some (.ref r) ∧ Ext h0 h ∧ Exa Z h r "pentrewick/api/UserContext" ∧ Fld Z h r "pentrewick/api/UserContext" "m_userId" "Ljava/lang/String;" vu ∧ Fld Z h r "pentrewick/api/UserContext" "m_tenant" "Ljava/lang/String;" (.ref t) ∧ Fld Z h r "pentrewick/api/UserContext" "m_roles" "Ljava/util/Set;" (.ref es) ∧ Fld Z h r "pentrewick/api/UserContext" "m_privileged" "Z" (.int 0)) := by
  refine Ct.of_seg (a0 := a0) (plainFor_of_name pn_pentrewick_api_UserContext) G.2.1 (ef_ct_wtS a vu es t cs) ?_
  refine Seg.newO (wd G 45 rfl) (wd G 46 rfl) (wd G 43 rfl) d24_0 (pc' := 3) rfl (k' := 1) (n' := 4) rfl rfl (by decide) (by decide) ?_
  intro b_1 h_3 E_2 e_b_1 l_b_1 A_b_1 D_b_1
  have F_m_userId_b_1 : Fld Z h_3 b_1 "pentrewick/api/UserContext" "m_userId" "Ljava/lang/String;" Value.null := D_b_1 (Or.inr (wd G 58 rfl)) (ty := (.object "java/lang/String")) (by decide)
  have F_m_tenant_b_1 : Fld Z h_3 b_1 "pentrewick/api/UserContext" "m_tenant" "Ljava/lang/String;" Value.null := D_b_1 (Or.inr (wd G 60 rfl)) (ty := (.object "java/lang/String")) (by decide)
  have F_m_roles_b_1 : Fld Z h_3 b_1 "pentrewick/api/UserContext" "m_roles" "Ljava/util/Set;" Value.null := D_b_1 (Or.inr (wd G 62 rfl)) (ty := (.object "java/util/Set")) (by decide)
  have F_m_privileged_b_1 : Fld Z h_3 b_1 "pentrewick/api/UserContext" "m_privileged" "Z" (.int (0 : Int32)) := D_b_1 (Or.inr (wd G 64 rfl)) (ty := .boolean) (by decide)
  refine Seg.dup d24_3 rfl (pc' := 4) rfl ?_
  refine Seg.aloadN d24_4 rfl rfl (pc' := 5) rfl ?_
  have F_4 := Fu.ext E_2
  refine Seg.getF (host := "") (Or.inl (wd G 57 rfl)) Via.refl F_4 d24_5 (pc' := 8) rfl ?_
  refine Seg.anull d24_8 (pc' := 9) rfl ?_
  refine Seg.aloadN d24_9 rfl rfl (pc' := 10) rfl ?_
  refine Seg.acY (pc' := 17) d24_10 rfl rfl (XT.aa_ne_t (fun q => nomatch q)) (by decide) (by decide) ?_
  refine Seg.aloadN d24_17 rfl rfl (pc' := 18) rfl ?_
  refine Seg.ldcS (text := "tenant id") (vs := [(.int 116), (.int 101), (.int 110), (.int 97), (.int 110), (.int 116), (.int 32), (.int 105), (.int 100)]) (z := 9) (nn := 36) (wd G 121 rfl) (wS G) (by decide) (by decide +kernel) (by decide) (by decide) d24_18 (pc' := 20) rfl (by decide) (by decide) (k' := 3) (n' := 44) rfl rfl (by decide) (by decide) ?_
  intro a_5 h_14 b_6 kb_7 E_8 A_9 F_10 F_11 A_12 ne_13
  have E_15 : Ext h0 h_14 := ext_tr E_2 E_8
  have F_16 := F.ext E_15
  refine Seg.callS (y' := (⟨"pentrewick/api/UserContext", "requireId", "(Ljava/lang/String;Ljava/lang/String;)Ljava/lang/String;"⟩ : MethodName)) (wd G 122 rfl) (wd G 123 rfl) (wd G 43 rfl) (wd G 124 rfl) ⟨by decide, by decide⟩ (Pays.of_ct (W := 3) (ct_reqId G t cs a_5 h_14 F_16 hc hz h1) all0 (wd G 124 rfl) (wd G 43 rfl) (by decide) (by decide) rfl rfl) (argsL := [(.ref t), (.ref a_5)]) (rest := [vu, (.ref b_1), (.ref b_1)]) rfl (lenOf pd_11 rfl) rfl (by simp only [List.map_cons, List.map_nil, List.sum_cons, List.sum_nil, XT.cat1 hu]; exact Nat.le_of_eq rfl) rfl d24_20 (pc' := 23) rfl (k' := 3) (n' := 44) rfl rfl (by decide) (by decide) ?_
  intro v_17 h_20 sz_18 q_19
  obtain ⟨rfl, rfl⟩ := q_19
  refine Seg.aloadN d24_23 rfl rfl (pc' := 24) rfl ?_
  have F_21 := Fr.ext E_15
  refine Seg.getF (host := "") (Or.inl (wd G 61 rfl)) Via.refl F_21 d24_24 (pc' := 27) rfl ?_
  refine Seg.aloadN d24_27 rfl rfl (pc' := 28) rfl ?_
  have F_22 := Fp.ext E_15
  refine Seg.getF (host := "") (Or.inl (wd G 63 rfl)) Via.refl F_22 d24_28 (pc' := 31) rfl ?_
  have F_23 := A_b_1.ext E_8
  have F_24 := F_m_userId_b_1.ext E_8
  have F_25 := F_m_tenant_b_1.ext E_8
  have F_26 := F_m_roles_b_1.ext E_8
  have F_27 := F_m_privileged_b_1.ext E_8
  refine Seg.callN (y' := (⟨"pentrewick/api/UserContext", "<init>", "(Ljava/lang/String;Ljava/lang/String;Ljava/util/Set;Z)V"⟩ : MethodName)) (a := b_1) rfl (wd G 53 rfl) (wd G 54 rfl) (wd G 55 rfl) ⟨by decide, by decide⟩ (Pays.of_ct (W := 1) (ct_uinit G b_1 vu (.ref t) (.ref es) 0 .null .null .null (.int 0) h_14 hu rfl rfl (Or.inl rfl) F_23 F_24 F_25 F_26 F_27) (allS (List.mem_of_getElem? (i := 0) rfl) all0) (wd G 55 rfl) (wd G 43 rfl) (by decide) (by decide) rfl rfl) (argsL := [vu, (.ref t), (.ref es), (.int (0 : Int32))]) (rest := [(.ref b_1)]) rfl (lenOf pd_13 rfl) rfl (Nat.le_of_eq rfl) rfl d24_31 (pc' := 34) rfl (k' := 3) (n' := 44) rfl rfl (by decide) (by decide) ?_
  intro v_28 h_31 sz_29 q_30
  obtain ⟨rfl, K9, F91, F92, F93, F94⟩ := q_30
  have E_32 : Ext h0 h_31 := ext_kp E_15 K9 (allS (Nat.le_trans (ext_rfl _).1 (Nat.le_of_eq e_b_1)) all0)
  have F_33 := (F_23.keep K9)
  exact Seg.retA rfl rfl rfl d24_34 (by decide) (by decide) ⟨b_1, rfl, E_32, F_33, F91, F92, F93, F94⟩
theorem d37_0 : decode prog_4_method_7_code 0 = .ok (.new 8, 3) := by decide +kernel
theorem d37_3 : decode prog_4_method_7_code 3 = .ok (.dup, 1) := by decide +kernel
theorem d37_4 : decode prog_4_method_7_code 4 = .ok (.aload_n 0, 1) := by decide +kernel
theorem d37_5 : decode prog_4_method_7_code 5 = .ok (.getfield 7, 3) := by decide +kernel
theorem d37_8 : decode prog_4_method_7_code 8 = .ok (.aload_n 0, 1) := by decide +kernel
theorem d37_9 : decode prog_4_method_7_code 9 = .ok (.getfield 13, 3) := by decide +kernel
theorem d37_12 : decode prog_4_method_7_code 12 = .ok (.aload_n 0, 1) := by decide +kernel
theorem d37_13 : decode prog_4_method_7_code 13 = .ok (.getfield 16, 3) := by decide +kernel
theorem d37_16 : decode prog_4_method_7_code 16 = .ok (.iconst 1, 1) := by decide +kernel
theorem d37_17 : decode prog_4_method_7_code 17 = .ok (.invokespecial 50, 3) := by decide +kernel
theorem d37_20 : decode prog_4_method_7_code 20 = .ok (.areturn, 1) := by decide +kernel
theorem ef_ct_ap (a : Addr) (vu : Value) (vt : Value) (es : Addr) (m : MethodId) : entryFrame m #[(.ref a)] 1 = mkF m 0 #[.val (.ref a)] [] := by first | (simp [entryFrame, mkF, argsToLocals, Value.category]; done) | rfl
set_option maxRecDepth 65536 in
set_option maxHeartbeats 4000000 in
theorem ct_ap {l : Launch} {Z : State} {a0 : Array Value} (G : Env1 Z a0) (a : Addr) (vu : Value) (vt : Value) (es : Addr) (h0 : Heap) (hu : vu.isRef = true) (ht : vt.isRef = true) (Fu : Fld Z h0 a "pentrewick/api/UserContext" "m_userId" "Ljava/lang/String;" vu) (Fr : Fld Z h0 a "pentrewick/api/UserContext" "m_roles" "Ljava/util/Set;" (.ref es)) (Fp : Fld Z h0 a "pentrewick/api/UserContext" "m_privileged" "Z" (.int 0)) (Ft : Fld Z h0 a "pentrewick/api/UserContext" "m_tenant" "Ljava/lang/String;" vt) :
    Ct l Z EL1 [] [] (⟨"pentrewick/api/UserContext", "asPrivileged", "()Lpentrewick/api/UserContext;"⟩ : MethodName) prog_4_method_7_code 1 (some (.object "pentrewick/api/UserContext")) ({ frames := 2, cells := 1, slots := 4, locals := 29 } : Room) #[(.ref a)] h0 (fun v h => ∃ r, v = some (.ref r) ∧ Ext h0 h ∧ Exa Z h r "pentrewick/api/UserContext" ∧ Fld Z h r "pentrewick/api/UserContext" "m_userId" "Ljava/lang/String;" vu ∧ Fld Z h r "pentrewick/api/UserContext" "m_tenant" "Ljava/lang/String;" vt ∧ Fld Z h r "pentrewick/api/UserContext" "m_roles" "Ljava/util/Set;" (.ref es) ∧ Fld Z h r "pentrewick/api/UserContext" "m_privileged" "Z" (.int 1)) := by
  refine Ct.of_seg (a0 := a0) (plainFor_of_name pn_pentrewick_api_UserContext) G.2.1 (ef_ct_ap a vu vt es) ?_
  refine Seg.newO (wd G 45 rfl) (wd G 46 rfl) (wd G 43 rfl) d37_0 (pc' := 3) rfl (k' := 1) (n' := 4) rfl rfl (by decide) (by decide) ?_
  intro b_1 h_3 E_2 e_b_1 l_b_1 A_b_1 D_b_1
  have F_m_userId_b_1 : Fld Z h_3 b_1 "pentrewick/api/UserContext" "m_userId" "Ljava/lang/String;" Value.null := D_b_1 (Or.inr (wd G 58 rfl)) (ty := (.object "java/lang/String")) (by decide)
  have F_m_tenant_b_1 : Fld Z h_3 b_1 "pentrewick/api/UserContext" "m_tenant" "Ljava/lang/String;" Value.null := D_b_1 (Or.inr (wd G 60 rfl)) (ty := (.object "java/lang/String")) (by decide)
  have F_m_roles_b_1 : Fld Z h_3 b_1 "pentrewick/api/UserContext" "m_roles" "Ljava/util/Set;" Value.null := D_b_1 (Or.inr (wd G 62 rfl)) (ty := (.object "java/util/Set")) (by decide)
  have F_m_privileged_b_1 : Fld Z h_3 b_1 "pentrewick/api/UserContext" "m_privileged" "Z" (.int (0 : Int32)) := D_b_1 (Or.inr (wd G 64 rfl)) (ty := .boolean) (by decide)
  refine Seg.dup d37_3 rfl (pc' := 4) rfl ?_
  refine Seg.aloadN d37_4 rfl rfl (pc' := 5) rfl ?_
  have F_4 := Fu.ext E_2
  refine Seg.getF (host := "") (Or.inl (wd G 57 rfl)) Via.refl F_4 d37_5 (pc' := 8) rfl ?_
  refine Seg.aloadN d37_8 rfl rfl (pc' := 9) rfl ?_
  have F_5 := Ft.ext E_2
  refine Seg.getF (host := "") (Or.inl (wd G 59 rfl)) Via.refl F_5 d37_9 (pc' := 12) rfl ?_
  refine Seg.aloadN d37_12 rfl rfl (pc' := 13) rfl ?_
  have F_6 := Fr.ext E_2
  refine Seg.getF (host := "") (Or.inl (wd G 61 rfl)) Via.refl F_6 d37_13 (pc' := 16) rfl ?_
  refine Seg.iconst (v := 1) d37_16 (by decide) (pc' := 17) rfl ?_
  refine Seg.callN (y' := (⟨"pentrewick/api/UserContext", "<init>", "(Ljava/lang/String;Ljava/lang/String;Ljava/util/Set;Z)V"⟩ : MethodName)) (a := b_1) rfl (wd G 53 rfl) (wd G 54 rfl) (wd G 55 rfl) ⟨by decide, by decide⟩ (Pays.of_ct (W := 1) (ct_uinit G b_1 vu vt (.ref es) 1 .null .null .null (.int 0) h_3 hu ht rfl (Or.inr rfl) A_b_1 F_m_userId_b_1 F_m_tenant_b_1 F_m_roles_b_1 F_m_privileged_b_1) (allS (List.mem_of_getElem? (i := 0) rfl) all0) (wd G 55 rfl) (wd G 43 rfl) (by decide) (by decide) rfl rfl) (argsL := [vu, vt, (.ref es), (.int (1 : Int32))]) (rest := [(.ref b_1)]) rfl (lenOf pd_13 rfl) rfl (Nat.le_of_eq rfl) rfl d37_17 (pc' := 20) rfl (k' := 1) (n' := 4) rfl rfl (by decide) (by decide) ?_
  intro v_7 h_10 sz_8 q_9
  obtain ⟨rfl, K9, F91, F92, F93, F94⟩ := q_9
  have E_11 : Ext h0 h_10 := ext_kp E_2 K9 (allS (Nat.le_trans (ext_rfl _).1 (Nat.le_of_eq e_b_1)) all0)
  have F_12 := (A_b_1.keep K9)
  exact Seg.retA rfl rfl rfl d37_20 (by decide) (by decide) ⟨b_1, rfl, E_11, F_12, F91, F92, F93, F94⟩
theorem d39_0 : decode jdk_31_method_2_code 0 = .ok (.aload_n 0, 1) := by decide +kernel
theorem d39_1 : decode jdk_31_method_2_code 1 = .ok (.aload_n 1, 1) := by decide +kernel
theorem d39_2 : decode jdk_31_method_2_code 2 = .ok (.if_acmp .eq 15, 3) := by decide +kernel
theorem d39_17 : decode jdk_31_method_2_code 17 = .ok (.iconst 1, 1) := by decide +kernel
theorem d39_18 : decode jdk_31_method_2_code 18 = .ok (.goto 4, 3) := by decide +kernel
theorem d39_22 : decode jdk_31_method_2_code 22 = .ok (.ireturn, 1) := by decide +kernel
theorem ef_ct_oeqA (v : Value) (hv : (v).isRef = true) (m : MethodId) : entryFrame m #[v, v] 2 = mkF m 0 #[.val v, .val v] [] := by
  rcases ref_cases hv with rfl | ⟨_, rfl⟩ <;> rfl
set_option maxRecDepth 65536 in
set_option maxHeartbeats 4000000 in
theorem ct_oeqA {l : Launch} {Z : State} {a0 : Array Value} (G : Env1 Z a0) (v : Value) (h0 : Heap) (hv : v.isRef = true) :
    Ct l Z EL1 [] [] (⟨"java/util/Objects", "equals", "(Ljava/lang/Object;Ljava/lang/Object;)Z"⟩ : MethodName) jdk_31_method_2_code 2 (some .boolean) ({ frames := 0, cells := 0, slots := 0, locals := 0 } : Room) #[v, v] h0 (fun u h => u = some (.int 1) ∧ h0 = h) := by
  refine Ct.of_seg (a0 := a0) (plainFor_of_name pn_java_util_Objects) G.2.1 (ef_ct_oeqA v hv) ?_
  refine Seg.aloadN d39_0 rfl hv (pc' := 1) rfl ?_
  refine Seg.aloadN d39_1 rfl hv (pc' := 2) rfl ?_
  refine Seg.acY (pc' := 17) d39_2 hv hv (XT.aa_eq_t rfl) (by decide) (by decide) ?_
  refine Seg.iconst (v := 1) d39_17 (by decide) (pc' := 18) rfl ?_
  refine Seg.goto (pc' := 22) d39_18 (by decide) (by decide) ?_
  exact Seg.retN (t := .boolean) (w := (1 : Int32)) rfl (by decide) (by decide) d39_22 (by decide) (by decide) ⟨rfl, rfl⟩
theorem d38_0 : decode prog_4_method_16_code 0 = .ok (.aload_n 1, 1) := by decide +kernel
theorem d38_1 : decode prog_4_method_16_code 1 = .ok (.instanceof 8, 3) := by decide +kernel
theorem d38_4 : decode prog_4_method_16_code 4 = .ok (.ifCond .ne 5, 3) := by decide +kernel
theorem d38_9 : decode prog_4_method_16_code 9 = .ok (.aload_n 1, 1) := by decide +kernel
theorem d38_10 : decode prog_4_method_16_code 10 = .ok (.checkcast 8, 3) := by decide +kernel
theorem d38_13 : decode prog_4_method_16_code 13 = .ok (.astore_n 2, 1) := by decide +kernel
theorem d38_14 : decode prog_4_method_16_code 14 = .ok (.aload_n 0, 1) := by decide +kernel
theorem d38_15 : decode prog_4_method_16_code 15 = .ok (.getfield 7, 3) := by decide +kernel
theorem d38_18 : decode prog_4_method_16_code 18 = .ok (.aload_n 2, 1) := by decide +kernel
theorem d38_19 : decode prog_4_method_16_code 19 = .ok (.getfield 7, 3) := by decide +kernel
theorem d38_22 : decode prog_4_method_16_code 22 = .ok (.invokestatic 95, 3) := by decide +kernel
theorem pd_16 : parseMethodDescriptor "(Ljava/lang/Object;Ljava/lang/Object;)Z" = some ⟨[(.object "java/lang/Object"), (.object "java/lang/Object")], some .boolean⟩ := by decide +kernel
theorem d38_25 : decode prog_4_method_16_code 25 = .ok (.ifCond .eq 48, 3) := by decide +kernel
theorem d38_28 : decode prog_4_method_16_code 28 = .ok (.aload_n 0, 1) := by decide +kernel
theorem d38_29 : decode prog_4_method_16_code 29 = .ok (.getfield 13, 3) := by decide +kernel
theorem d38_32 : decode prog_4_method_16_code 32 = .ok (.aload_n 2, 1) := by decide +kernel
theorem d38_33 : decode prog_4_method_16_code 33 = .ok (.getfield 13, 3) := by decide +kernel
theorem d38_36 : decode prog_4_method_16_code 36 = .ok (.invokestatic 95, 3) := by decide +kernel
theorem d38_39 : decode prog_4_method_16_code 39 = .ok (.ifCond .eq 34, 3) := by decide +kernel
theorem d38_42 : decode prog_4_method_16_code 42 = .ok (.aload_n 0, 1) := by decide +kernel
theorem d38_43 : decode prog_4_method_16_code 43 = .ok (.getfield 16, 3) := by decide +kernel
theorem d38_46 : decode prog_4_method_16_code 46 = .ok (.aload_n 2, 1) := by decide +kernel
theorem d38_47 : decode prog_4_method_16_code 47 = .ok (.getfield 16, 3) := by decide +kernel
theorem d38_50 : decode prog_4_method_16_code 50 = .ok (.invokeinterface 99 2, 5) := by decide +kernel
theorem d38_55 : decode prog_4_method_16_code 55 = .ok (.ifCond .eq 18, 3) := by decide +kernel
theorem d38_58 : decode prog_4_method_16_code 58 = .ok (.aload_n 0, 1) := by decide +kernel
theorem d38_59 : decode prog_4_method_16_code 59 = .ok (.getfield 20, 3) := by decide +kernel
theorem d38_62 : decode prog_4_method_16_code 62 = .ok (.aload_n 2, 1) := by decide +kernel
theorem d38_63 : decode prog_4_method_16_code 63 = .ok (.getfield 20, 3) := by decide +kernel
theorem d38_66 : decode prog_4_method_16_code 66 = .ok (.if_icmp .ne 7, 3) := by decide +kernel
theorem d38_69 : decode prog_4_method_16_code 69 = .ok (.iconst 1, 1) := by decide +kernel
theorem d38_70 : decode prog_4_method_16_code 70 = .ok (.goto 4, 3) := by decide +kernel
theorem d38_74 : decode prog_4_method_16_code 74 = .ok (.ireturn, 1) := by decide +kernel
theorem ef_ct_ueq (a : Addr) (b : Addr) (vu : Value) (vt : Value) (es : Addr) (m : MethodId) : entryFrame m #[(.ref a), (.ref b)] 3 = mkF m 0 #[.val (.ref a), .val (.ref b), .unset] [] := by first | (simp [entryFrame, mkF, argsToLocals, Value.category]; done) | rfl
set_option maxRecDepth 65536 in
set_option maxHeartbeats 4000000 in
theorem ct_ueq {l : Launch} {Z : State} {a0 : Array Value} (G : Env1 Z a0) (a : Addr) (b : Addr) (vu : Value) (vt : Value) (es : Addr) (h0 : Heap) (hu : vu.isRef = true) (ht : vt.isRef = true) (Aa : Exa Z h0 a "pentrewick/api/UserContext") (Fa0 : Fld Z h0 a "pentrewick/api/UserContext" "m_userId" "Ljava/lang/String;" vu) (Fa1 : Fld Z h0 a "pentrewick/api/UserContext" "m_tenant" "Ljava/lang/String;" vt) (Fa2 : Fld Z h0 a "pentrewick/api/UserContext" "m_roles" "Ljava/util/Set;" (.ref es)) (Fa3 : Fld Z h0 a "pentrewick/api/UserContext" "m_privileged" "Z" (.int 1)) (Ab : Exa Z h0 b "pentrewick/api/UserContext") (Fb0 : Fld Z h0 b "pentrewick/api/UserContext" "m_userId" "Ljava/lang/String;" vu) (Fb1 : Fld Z h0 b "pentrewick/api/UserContext" "m_tenant" "Ljava/lang/String;" vt) (Fb2 : Fld Z h0 b "pentrewick/api/UserContext" "m_roles" "Ljava/util/Set;" (.ref es)) (Fb3 : Fld Z h0 b "pentrewick/api/UserContext" "m_privileged" "Z" (.int 1)) (Ae : Exa Z h0 es "java/util/ImmutableCollections$SetN") :
    Ct l Z EL1 [] [] (⟨"pentrewick/api/UserContext", "equals", "(Ljava/lang/Object;)Z"⟩ : MethodName) prog_4_method_16_code 3 (some .boolean) ({ frames := 1, cells := 0, slots := 0, locals := 16 } : Room) #[(.ref a), (.ref b)] h0 (fun v h => v = some (.int 1) ∧ h0 = h) := by
  refine Ct.of_seg (a0 := a0) (plainFor_of_name pn_pentrewick_api_UserContext) G.2.1 (ef_ct_ueq a b vu vt es) ?_
  refine Seg.aloadN d38_0 rfl rfl (pc' := 1) rfl ?_
  refine Seg.instY (wd G 45 rfl) (Ins.self Ab) d38_1 (pc' := 4) rfl ?_
  refine Seg.ifY (pc' := 9) d38_4 (by decide) (by decide) (by decide) ?_
  refine Seg.aloadN d38_9 rfl rfl (pc' := 10) rfl ?_
  refine Seg.castY (wd G 45 rfl) (Ins.self Ab) d38_10 (pc' := 13) rfl ?_
  refine Seg.astoreN (L' := #[.val (.ref a), .val (.ref b), .val (.ref b)]) d38_13 rfl rfl (pc' := 14) rfl ?_
  refine Seg.aloadN d38_14 rfl rfl (pc' := 15) rfl ?_
  refine Seg.getF (host := "") (Or.inl (wd G 57 rfl)) Via.refl Fa0 d38_15 (pc' := 18) rfl ?_
  refine Seg.aloadN d38_18 rfl rfl (pc' := 19) rfl ?_
  refine Seg.getF (host := "") (Or.inl (wd G 57 rfl)) Via.refl Fb0 d38_19 (pc' := 22) rfl ?_
  refine Seg.callS (y' := (⟨"java/util/Objects", "equals", "(Ljava/lang/Object;Ljava/lang/Object;)Z"⟩ : MethodName)) (wd G 182 rfl) (wd G 183 rfl) (wd G 96 rfl) (wd G 184 rfl) ⟨by decide, by decide⟩ (Pays.of_ct (W := 0) (ct_oeqA G vu h0 hu) all0 (wd G 184 rfl) (wd G 96 rfl) (by decide) (by decide) rfl rfl) (argsL := [vu, vu]) (rest := []) rfl (lenOf pd_16 rfl) rfl (Nat.le_of_eq rfl) rfl d38_22 (pc' := 25) rfl (k' := 0) (n' := 0) rfl rfl (by decide) (by decide) ?_
  intro v_1 h_4 sz_2 q_3
  obtain ⟨rfl, rfl⟩ := q_3
  refine Seg.ifN d38_25 (by decide) (pc' := 28) rfl ?_
  refine Seg.aloadN d38_28 rfl rfl (pc' := 29) rfl ?_
  refine Seg.getF (host := "") (Or.inl (wd G 59 rfl)) Via.refl Fa1 d38_29 (pc' := 32) rfl ?_
  refine Seg.aloadN d38_32 rfl rfl (pc' := 33) rfl ?_
  refine Seg.getF (host := "") (Or.inl (wd G 59 rfl)) Via.refl Fb1 d38_33 (pc' := 36) rfl ?_
  refine Seg.callS (y' := (⟨"java/util/Objects", "equals", "(Ljava/lang/Object;Ljava/lang/Object;)Z"⟩ : MethodName)) (wd G 182 rfl) (wd G 183 rfl) (wd G 96 rfl) (wd G 184 rfl) ⟨by decide, by decide⟩ (Pays.of_ct (W := 0) (ct_oeqA G vt h0 ht) all0 (wd G 184 rfl) (wd G 96 rfl) (by decide) (by decide) rfl rfl) (argsL := [vt, vt]) (rest := []) rfl (lenOf pd_16 rfl) rfl (Nat.le_of_eq rfl) rfl d38_36 (pc' := 39) rfl (k' := 0) (n' := 0) rfl rfl (by decide) (by decide) ?_
  intro v_5 h_8 sz_6 q_7
  obtain ⟨rfl, rfl⟩ := q_7
  refine Seg.ifN d38_39 (by decide) (pc' := 42) rfl ?_
  refine Seg.aloadN d38_42 rfl rfl (pc' := 43) rfl ?_
  refine Seg.getF (host := "") (Or.inl (wd G 61 rfl)) Via.refl Fa2 d38_43 (pc' := 46) rfl ?_
  refine Seg.aloadN d38_46 rfl rfl (pc' := 47) rfl ?_
  refine Seg.getF (host := "") (Or.inl (wd G 61 rfl)) Via.refl Fb2 d38_47 (pc' := 50) rfl ?_
  refine Seg.callI (y' := (⟨"java/util/Set", "equals", "(Ljava/lang/Object;)Z"⟩ : MethodName)) (z := (⟨"java/util/ImmutableCollections$AbstractImmutableSet", "equals", "(Ljava/lang/Object;)Z"⟩ : MethodName)) (a := es) (wd G 185 rfl) (wd G 186 rfl) (wd G 187 rfl) rfl (wd G 188 rfl) (wd G 189 rfl) (wd G 190 rfl) (wd G 191 rfl) (wd G 192 rfl) ⟨by decide, by decide⟩ Ae (Pays.of_ct (W := 0) (ct_seteq G es h0) all0 (wd G 194 rfl) (wd G 193 rfl) (by decide) (by decide) rfl rfl) (argsL := [(.ref es)]) (rest := []) rfl (lenOf pd_15 rfl) rfl (Nat.le_of_eq rfl) rfl d38_50 (pc' := 55) rfl (k' := 0) (n' := 0) rfl rfl (by decide) (by decide) ?_
  intro v_9 h_12 sz_10 q_11
  obtain ⟨rfl, rfl⟩ := q_11
  refine Seg.ifN d38_55 (by decide) (pc' := 58) rfl ?_
  refine Seg.aloadN d38_58 rfl rfl (pc' := 59) rfl ?_
  refine Seg.getF (host := "") (Or.inl (wd G 63 rfl)) Via.refl Fa3 d38_59 (pc' := 62) rfl ?_
  refine Seg.aloadN d38_62 rfl rfl (pc' := 63) rfl ?_
  refine Seg.getF (host := "") (Or.inl (wd G 63 rfl)) Via.refl Fb3 d38_63 (pc' := 66) rfl ?_
  refine Seg.icN d38_66 (by decide) (pc' := 69) rfl ?_
  refine Seg.iconst (v := 1) d38_69 (by decide) (pc' := 70) rfl ?_
  refine Seg.goto (pc' := 74) d38_70 (by decide) (by decide) ?_
  exact Seg.retN (t := .boolean) (w := (1 : Int32)) rfl (by decide) (by decide) d38_74 (by decide) (by decide) ⟨rfl, rfl⟩
theorem pd_17 : parseMethodDescriptor "(Ljava/lang/String;)Lpentrewick/api/UserContext;" = some ⟨[(.object "java/lang/String")], some (.object "pentrewick/api/UserContext")⟩ := by decide +kernel
theorem pd_18 : parseMethodDescriptor "()Lpentrewick/api/UserContext;" = some ⟨[], some (.object "pentrewick/api/UserContext")⟩ := by decide +kernel
set_option maxRecDepth 65536 in
set_option maxHeartbeats 4000000 in
theorem sg253 {l : Launch} {Z : State} {a0 : Array Value} (G : Env1 Z a0) (p1 : Int32) (p2 : Int32) (p3 : Int32) (p4 : Int32) (p5 : Int32) (p6 : Int32) (un : Int32) (tn : Int32) (ul : Int32) (tl : Int32) (vu : Value) (vt : Value) (ro : Addr) (hd : Addr) (es : Addr) (sys : Addr) (ba : Addr) (h : Heap) (htl : tl = 0 ∨ tl = 1 ∨ tl = 2 ∨ tl = 3) (hu' : OS Z h un vu (strcs ul p2 p3)) (ht' : OS Z h tn vt (strcs tl p4 p5)) (Ah : Exa Z h hd "pentrewick/api/UserContext") (Fh0 : Fld Z h hd "pentrewick/api/UserContext" "m_userId" "Ljava/lang/String;" vu) (Fh1 : Fld Z h hd "pentrewick/api/UserContext" "m_tenant" "Ljava/lang/String;" vt) (Fh2 : Fld Z h hd "pentrewick/api/UserContext" "m_roles" "Ljava/util/Set;" (.ref es)) (Fh3 : Fld Z h hd "pentrewick/api/UserContext" "m_privileged" "Z" (.int 1)) (Ae : Exa Z h es "java/util/ImmutableCollections$SetN") (Ab : Exa Z h ba "pentrewick/api/UserContext") (Fu : Fld Z h ba "pentrewick/api/UserContext" "m_userId" "Ljava/lang/String;" vu) (Fr : Fld Z h ba "pentrewick/api/UserContext" "m_roles" "Ljava/util/Set;" (.ref es)) (Fp : Fld Z h ba "pentrewick/api/UserContext" "m_privileged" "Z" (.int 0)) (hvt : tn = 1 ∨ VL tl p4 p5) :
    Seg l Z a0 EL1 x code maxLocals ret room_1 (fun v h => v = some (.int 1)) h 30 400 [] 253 #[.val (.int p1), .val (.int p2), .val (.int p3), .val (.int p4), .val (.int p5), .val (.int p6), .val (.int un), .val (.int tn), .val (.int ul), .val (.int tl), .val vu, .val vt, .val (.ref ro), .val (.ref hd), .val (.int (1 : Int32)), .val (.int (1 : Int32)), .val (.int (1 : Int32)), .unset, .unset] [(.ref ba)] := by
  have hu := hu'.isRef
  have ht := ht'.isRef
  refine Seg.astore (L' := #[.val (.int p1), .val (.int p2), .val (.int p3), .val (.int p4), .val (.int p5), .val (.int p6), .val (.int un), .val (.int tn), .val (.int ul), .val (.int tl), .val vu, .val vt, .val (.ref ro), .val (.ref hd), .val (.int (1 : Int32)), .val (.int (1 : Int32)), .val (.int (1 : Int32)), .val (.ref ba), .unset]) at_253 rfl rfl (pc' := 255) rfl ?_
  refine Seg.aload at_255 rfl rfl (pc' := 257) rfl ?_
  refine Seg.aload at_257 rfl ht (pc' := 259) rfl ?_
  rcases ht' with ⟨-, rfl⟩ | ⟨q, t, rfl, F⟩
  · refine Seg.callV (y' := (⟨"pentrewick/api/UserContext", "withTenant", "(Ljava/lang/String;)Lpentrewick/api/UserContext;"⟩ : MethodName)) (z := (⟨"pentrewick/api/UserContext", "withTenant", "(Ljava/lang/String;)Lpentrewick/api/UserContext;"⟩ : MethodName)) (a := ba) (wd G 116 rfl) (wd G 117 rfl) (nf_sel (wd G 119 rfl)) (wd G 119 rfl) (wd G 118 rfl) ⟨by decide, by decide⟩ Ab (Pays.of_ct (W := 0) (ct_wtN G ba vu es h hu Fu Fr Fp) all0 (wd G 120 rfl) (wd G 43 rfl) (by decide) (by decide) rfl rfl) (argsL := [Value.null]) (rest := []) rfl (lenOf pd_17 rfl) rfl (Nat.le_of_eq rfl) rfl at_259 (pc' := 262) rfl (k' := 31) (n' := 404) rfl rfl (by decide) (by decide) ?_
    intro v_1 h_4 sz_2 q_3
    obtain ⟨b2, rfl, E1, A2, F20, F21, F22, F23⟩ := q_3
    refine Seg.callV (y' := (⟨"pentrewick/api/UserContext", "asPrivileged", "()Lpentrewick/api/UserContext;"⟩ : MethodName)) (z := (⟨"pentrewick/api/UserContext", "asPrivileged", "()Lpentrewick/api/UserContext;"⟩ : MethodName)) (a := b2) (wd G 171 rfl) (wd G 172 rfl) (nf_sel (wd G 174 rfl)) (wd G 174 rfl) (wd G 173 rfl) ⟨by decide, by decide⟩ A2 (Pays.of_ct (W := 0) (ct_ap G b2 vu Value.null es h_4 hu rfl F20 F22 F23 F21) all0 (wd G 175 rfl) (wd G 43 rfl) (by decide) (by decide) rfl rfl) (argsL := []) (rest := []) rfl (lenOf pd_18 rfl) rfl (Nat.le_of_eq rfl) rfl at_262 (pc' := 265) rfl (k' := 32) (n' := 408) rfl rfl (by decide) (by decide) ?_
    intro v_5 h_8 sz_6 q_7
    obtain ⟨b3, rfl, E2, A3, F30, F31, F32, F33⟩ := q_7
    refine Seg.astore (L' := #[.val (.int p1), .val (.int p2), .val (.int p3), .val (.int p4), .val (.int p5), .val (.int p6), .val (.int un), .val (.int tn), .val (.int ul), .val (.int tl), .val vu, .val Value.null, .val (.ref ro), .val (.ref hd), .val (.int (1 : Int32)), .val (.int (1 : Int32)), .val (.int (1 : Int32)), .val (.ref ba), .val (.ref b3)]) at_265 rfl rfl (pc' := 267) rfl ?_
    refine Seg.aload at_267 rfl rfl (pc' := 269) rfl ?_
    refine Seg.aload at_269 rfl rfl (pc' := 271) rfl ?_
    have E_9 : Ext h h_8 := ext_tr E1 E2
    have F_10 := Ah.ext E_9
    have F_11 := Fh0.ext E_9
    have F_12 := Fh1.ext E_9
    have F_13 := Fh2.ext E_9
    have F_14 := Fh3.ext E_9
    have F_15 := Ae.ext E_9
    refine Seg.callV (y' := (⟨"pentrewick/api/UserContext", "equals", "(Ljava/lang/Object;)Z"⟩ : MethodName)) (z := (⟨"pentrewick/api/UserContext", "equals", "(Ljava/lang/Object;)Z"⟩ : MethodName)) (a := hd) (wd G 176 rfl) (wd G 177 rfl) (nf_sel (wd G 179 rfl)) (wd G 179 rfl) (wd G 178 rfl) ⟨by decide, by decide⟩ F_10 (Pays.of_ct (W := 0) (ct_ueq G hd b3 vu Value.null es h_8 hu rfl F_10 F_11 F_12 F_13 F_14 A3 F30 F31 F32 F33 F_15) all0 (wd G 180 rfl) (wd G 43 rfl) (by decide) (by decide) rfl rfl) (argsL := [(.ref b3)]) (rest := []) rfl (lenOf pd_15 rfl) rfl (Nat.le_of_eq rfl) rfl at_271 (pc' := 274) rfl (k' := 32) (n' := 408) rfl rfl (by decide) (by decide) ?_
    intro v_16 h_19 sz_17 q_18
    obtain ⟨rfl, rfl⟩ := q_18
    refine Seg.istore (L' := #[.val (.int p1), .val (.int p2), .val (.int p3), .val (.int p4), .val (.int p5), .val (.int p6), .val (.int un), .val (.int tn), .val (.int ul), .val (.int tl), .val vu, .val Value.null, .val (.ref ro), .val (.ref hd), .val (.int (1 : Int32)), .val (.int (1 : Int32)), .val (.int (1 : Int32)), .val (.ref ba), .val (.ref b3)]) at_274 rfl (pc' := 276) rfl ?_
    refine Seg.iload at_276 rfl (pc' := 278) rfl ?_
    exact Seg.retN (t := .boolean) (w := (1 : Int32)) rfl (by decide) (by decide) at_278 (by decide) (by decide) rfl
  · have hV : VL tl p4 p5 := hvt.resolve_left (by rw [q]; decide)
    refine Seg.callV (y' := (⟨"pentrewick/api/UserContext", "withTenant", "(Ljava/lang/String;)Lpentrewick/api/UserContext;"⟩ : MethodName)) (z := (⟨"pentrewick/api/UserContext", "withTenant", "(Ljava/lang/String;)Lpentrewick/api/UserContext;"⟩ : MethodName)) (a := ba) (wd G 116 rfl) (wd G 117 rfl) (nf_sel (wd G 119 rfl)) (wd G 119 rfl) (wd G 118 rfl) ⟨by decide, by decide⟩ Ab (Pays.of_ct (W := 0) (ct_wtS G ba vu es t (strcs tl p4 p5) h hu Fu Fr Fp F (strcs_ok _ _ _) (strcs_nz htl hV) (strcs_len hV)) all0 (wd G 120 rfl) (wd G 43 rfl) (by decide) (by decide) rfl rfl) (argsL := [(.ref t)]) (rest := []) rfl (lenOf pd_17 rfl) rfl (Nat.le_of_eq rfl) rfl at_259 (pc' := 262) rfl (k' := 33) (n' := 444) rfl rfl (by decide) (by decide) ?_
    intro v_20 h_23 sz_21 q_22
    obtain ⟨b2, rfl, E1, A2, F20, F21, F22, F23⟩ := q_22
    refine Seg.callV (y' := (⟨"pentrewick/api/UserContext", "asPrivileged", "()Lpentrewick/api/UserContext;"⟩ : MethodName)) (z := (⟨"pentrewick/api/UserContext", "asPrivileged", "()Lpentrewick/api/UserContext;"⟩ : MethodName)) (a := b2) (wd G 171 rfl) (wd G 172 rfl) (nf_sel (wd G 174 rfl)) (wd G 174 rfl) (wd G 173 rfl) ⟨by decide, by decide⟩ A2 (Pays.of_ct (W := 0) (ct_ap G b2 vu (.ref t) es h_23 hu rfl F20 F22 F23 F21) all0 (wd G 175 rfl) (wd G 43 rfl) (by decide) (by decide) rfl rfl) (argsL := []) (rest := []) rfl (lenOf pd_18 rfl) rfl (Nat.le_of_eq rfl) rfl at_262 (pc' := 265) rfl (k' := 34) (n' := 448) rfl rfl (by decide) (by decide) ?_
    intro v_24 h_27 sz_25 q_26
    obtain ⟨b3, rfl, E2, A3, F30, F31, F32, F33⟩ := q_26
    refine Seg.astore (L' := #[.val (.int p1), .val (.int p2), .val (.int p3), .val (.int p4), .val (.int p5), .val (.int p6), .val (.int un), .val (.int tn), .val (.int ul), .val (.int tl), .val vu, .val (.ref t), .val (.ref ro), .val (.ref hd), .val (.int (1 : Int32)), .val (.int (1 : Int32)), .val (.int (1 : Int32)), .val (.ref ba), .val (.ref b3)]) at_265 rfl rfl (pc' := 267) rfl ?_
    refine Seg.aload at_267 rfl rfl (pc' := 269) rfl ?_
    refine Seg.aload at_269 rfl rfl (pc' := 271) rfl ?_
    have E_28 : Ext h h_27 := ext_tr E1 E2
    have F_29 := Ah.ext E_28
    have F_30 := Fh0.ext E_28
    have F_31 := Fh1.ext E_28
    have F_32 := Fh2.ext E_28
    have F_33 := Fh3.ext E_28
    have F_34 := Ae.ext E_28
    refine Seg.callV (y' := (⟨"pentrewick/api/UserContext", "equals", "(Ljava/lang/Object;)Z"⟩ : MethodName)) (z := (⟨"pentrewick/api/UserContext", "equals", "(Ljava/lang/Object;)Z"⟩ : MethodName)) (a := hd) (wd G 176 rfl) (wd G 177 rfl) (nf_sel (wd G 179 rfl)) (wd G 179 rfl) (wd G 178 rfl) ⟨by decide, by decide⟩ F_29 (Pays.of_ct (W := 0) (ct_ueq G hd b3 vu (.ref t) es h_27 hu rfl F_29 F_30 F_31 F_32 F_33 A3 F30 F31 F32 F33 F_34) all0 (wd G 180 rfl) (wd G 43 rfl) (by decide) (by decide) rfl rfl) (argsL := [(.ref b3)]) (rest := []) rfl (lenOf pd_15 rfl) rfl (Nat.le_of_eq rfl) rfl at_271 (pc' := 274) rfl (k' := 34) (n' := 448) rfl rfl (by decide) (by decide) ?_
    intro v_35 h_38 sz_36 q_37
    obtain ⟨rfl, rfl⟩ := q_37
    refine Seg.istore (L' := #[.val (.int p1), .val (.int p2), .val (.int p3), .val (.int p4), .val (.int p5), .val (.int p6), .val (.int un), .val (.int tn), .val (.int ul), .val (.int tl), .val vu, .val (.ref t), .val (.ref ro), .val (.ref hd), .val (.int (1 : Int32)), .val (.int (1 : Int32)), .val (.int (1 : Int32)), .val (.ref ba), .val (.ref b3)]) at_274 rfl (pc' := 276) rfl ?_
    refine Seg.iload at_276 rfl (pc' := 278) rfl ?_
    exact Seg.retN (t := .boolean) (w := (1 : Int32)) rfl (by decide) (by decide) at_278 (by decide) (by decide) rfl
set_option maxRecDepth 65536 in
set_option maxHeartbeats 4000000 in
theorem sg237 {l : Launch} {Z : State} {a0 : Array Value} (G : Env1 Z a0) (p1 : Int32) (p2 : Int32) (p3 : Int32) (p4 : Int32) (p5 : Int32) (p6 : Int32) (un : Int32) (tn : Int32) (ul : Int32) (tl : Int32) (vu : Value) (vt : Value) (ro : Addr) (hd : Addr) (es : Addr) (sys : Addr) (h : Heap) (hul : ul = 0 ∨ ul = 1 ∨ ul = 2 ∨ ul = 3) (htl : tl = 0 ∨ tl = 1 ∨ tl = 2 ∨ tl = 3) (hu' : OS Z h un vu (strcs ul p2 p3)) (ht' : OS Z h tn vt (strcs tl p4 p5)) (Ah : Exa Z h hd "pentrewick/api/UserContext") (Fh0 : Fld Z h hd "pentrewick/api/UserContext" "m_userId" "Ljava/lang/String;" vu) (Fh1 : Fld Z h hd "pentrewick/api/UserContext" "m_tenant" "Ljava/lang/String;" vt) (Fh2 : Fld Z h hd "pentrewick/api/UserContext" "m_roles" "Ljava/util/Set;" (.ref es)) (Fh3 : Fld Z h hd "pentrewick/api/UserContext" "m_privileged" "Z" (.int 1)) (Ae : Exa Z h es "java/util/ImmutableCollections$SetN") (Se : Sta Z Z.heap "java/util/ImmutableCollections" "EMPTY_SET" "Ljava/util/ImmutableCollections$SetN;" (.ref es)) (Ss : Sta Z Z.heap "pentrewick/api/UserContext" "SYSTEM" "Lpentrewick/api/UserContext;" (.ref sys)) (As : Exa Z h sys "pentrewick/api/UserContext") (Fs0 : Fld Z h sys "pentrewick/api/UserContext" "m_userId" "Ljava/lang/String;" .null) (Fs2 : Fld Z h sys "pentrewick/api/UserContext" "m_roles" "Ljava/util/Set;" (.ref es)) (Fs3 : Fld Z h sys "pentrewick/api/UserContext" "m_privileged" "Z" (.int 0)) (hvu : un = 1 ∨ VL ul p2 p3) (hvt : tn = 1 ∨ VL tl p4 p5) :
    Seg l Z a0 EL1 x code maxLocals ret room_1 (fun v h => v = some (.int 1)) h 22 300 [] 237 #[.val (.int p1), .val (.int p2), .val (.int p3), .val (.int p4), .val (.int p5), .val (.int p6), .val (.int un), .val (.int tn), .val (.int ul), .val (.int tl), .val vu, .val vt, .val (.ref ro), .val (.ref hd), .val (.int (1 : Int32)), .val (.int (1 : Int32)), .val (.int (1 : Int32)), .unset, .unset] [] := by
  have hu := hu'.isRef
  have ht := ht'.isRef
  refine Seg.iload at_237 rfl (pc' := 239) rfl ?_
  rcases id hu' with ⟨q, rfl⟩ | ⟨q, u, rfl, F⟩
  · refine Seg.ifN at_239 (XT.i0_eq_f (by rw [q]; decide)) (pc' := 242) rfl ?_
    refine Seg.callS (y' := (⟨"pentrewick/api/UserContext", "system", "()Lpentrewick/api/UserContext;"⟩ : MethodName)) (wd G 111 rfl) (wd G 112 rfl) (wd G 43 rfl) (wd G 113 rfl) ⟨by decide, by decide⟩ (Pays.of_ct (W := 0) (ct_sys G sys h Ss) all0 (wd G 113 rfl) (wd G 43 rfl) (by decide) (by decide) rfl rfl) (argsL := []) (rest := []) rfl (lenOf pd_18 rfl) rfl (Nat.le_of_eq rfl) rfl at_242 (pc' := 245) rfl (k' := 22) (n' := 300) rfl rfl (by decide) (by decide) ?_
    intro v_1 h_4 sz_2 q_3
    obtain ⟨rfl, rfl⟩ := q_3
    refine Seg.goto (pc' := 253) at_245 (by decide) (by decide) ?_
    exact (sg253 G p1 p2 p3 p4 p5 p6 un tn ul tl Value.null vt ro hd es sys sys h htl hu' ht' Ah Fh0 Fh1 Fh2 Fh3 Ae As Fs0 Fs2 Fs3 hvt).mono (by decide) (by decide) all0
  · refine Seg.ifY (pc' := 248) at_239 (XT.i0_eq_t (by rw [q])) (by decide) (by decide) ?_
    have hV : VL ul p2 p3 := hvu.resolve_left (by rw [q]; decide)
    refine Seg.aload at_248 rfl rfl (pc' := 250) rfl ?_
    refine Seg.callS (y' := (⟨"pentrewick/api/UserContext", "of", "(Ljava/lang/String;)Lpentrewick/api/UserContext;"⟩ : MethodName)) (wd G 195 rfl) (wd G 196 rfl) (wd G 43 rfl) (wd G 197 rfl) ⟨by decide, by decide⟩ (Pays.of_ct (W := 0) (ct_of G u (strcs ul p2 p3) es h F (strcs_ok _ _ _) (strcs_nz hul hV) (strcs_len hV) Se) all0 (wd G 197 rfl) (wd G 43 rfl) (by decide) (by decide) rfl rfl) (argsL := [(.ref u)]) (rest := []) rfl (lenOf pd_17 rfl) rfl (Nat.le_of_eq rfl) rfl at_250 (pc' := 253) rfl (k' := 25) (n' := 336) rfl rfl (by decide) (by decide) ?_
    intro v_5 h_8 sz_6 q_7
    obtain ⟨ba, rfl, E1, Ab, Fb0, Fb1, Fb2, Fb3⟩ := q_7
    have F_9 := hu'.ext E1
    have F_10 := ht'.ext E1
    have F_11 := Ah.ext E1
    have F_12 := Fh0.ext E1
    have F_13 := Fh1.ext E1
    have F_14 := Fh2.ext E1
    have F_15 := Fh3.ext E1
    have F_16 := Ae.ext E1
    exact (sg253 G p1 p2 p3 p4 p5 p6 un tn ul tl (.ref u) vt ro hd es sys ba h_8 htl F_9 F_10 F_11 F_12 F_13 F_14 F_15 F_16 Ab Fb0 Fb2 Fb3 hvt).mono (by decide) (by decide) all0
theorem pd_19 : parseMethodDescriptor "(III)Z" = some ⟨[.int, .int, .int], some .boolean⟩ := by decide +kernel
set_option maxRecDepth 65536 in
set_option maxHeartbeats 4000000 in
theorem sg199 {l : Launch} {Z : State} {a0 : Array Value} (G : Env1 Z a0) (p1 : Int32) (p2 : Int32) (p3 : Int32) (p4 : Int32) (p5 : Int32) (p6 : Int32) (un : Int32) (tn : Int32) (ul : Int32) (tl : Int32) (vu : Value) (vt : Value) (ro : Addr) (hd : Addr) (es : Addr) (sys : Addr) (uok : Int32) (h : Heap) (hul : ul = 0 ∨ ul = 1 ∨ ul = 2 ∨ ul = 3) (htl : tl = 0 ∨ tl = 1 ∨ tl = 2 ∨ tl = 3) (hu' : OS Z h un vu (strcs ul p2 p3)) (ht' : OS Z h tn vt (strcs tl p4 p5)) (Ah : Exa Z h hd "pentrewick/api/UserContext") (Fh0 : Fld Z h hd "pentrewick/api/UserContext" "m_userId" "Ljava/lang/String;" vu) (Fh1 : Fld Z h hd "pentrewick/api/UserContext" "m_tenant" "Ljava/lang/String;" vt) (Fh2 : Fld Z h hd "pentrewick/api/UserContext" "m_roles" "Ljava/util/Set;" (.ref es)) (Fh3 : Fld Z h hd "pentrewick/api/UserContext" "m_privileged" "Z" (.int 1)) (Ae : Exa Z h es "java/util/ImmutableCollections$SetN") (Se : Sta Z Z.heap "java/util/ImmutableCollections" "EMPTY_SET" "Ljava/util/ImmutableCollections$SetN;" (.ref es)) (Ss : Sta Z Z.heap "pentrewick/api/UserContext" "SYSTEM" "Lpentrewick/api/UserContext;" (.ref sys)) (As : Exa Z h sys "pentrewick/api/UserContext") (Fs0 : Fld Z h sys "pentrewick/api/UserContext" "m_userId" "Ljava/lang/String;" .null) (Fs2 : Fld Z h sys "pentrewick/api/UserContext" "m_roles" "Ljava/util/Set;" (.ref es)) (Fs3 : Fld Z h sys "pentrewick/api/UserContext" "m_privileged" "Z" (.int 0)) (huk : uok = 0 ∨ (uok = 1 ∧ (un = 1 ∨ VL ul p2 p3))) :
    Seg l Z a0 EL1 x code maxLocals ret room_1 (fun v h => v = some (.int 1)) h 22 300 [] 199 #[.val (.int p1), .val (.int p2), .val (.int p3), .val (.int p4), .val (.int p5), .val (.int p6), .val (.int un), .val (.int tn), .val (.int ul), .val (.int tl), .val vu, .val vt, .val (.ref ro), .val (.ref hd), .val (.int (1 : Int32)), .val (.int uok), .unset, .unset, .unset] [] := by
  have hu := hu'.isRef
  have ht := ht'.isRef
  refine Seg.iload at_199 rfl (pc' := 201) rfl ?_
  rcases id ht' with ⟨q, -⟩ | ⟨q, -⟩
  · refine Seg.ifY (pc' := 215) at_201 (XT.i0_ne_t (by rw [q]; decide)) (by decide) (by decide) ?_
    refine Seg.iconst (v := 1) at_215 (by decide) (pc' := 216) rfl ?_
    refine Seg.goto (pc' := 220) at_216 (by decide) (by decide) ?_
    refine Seg.istore (L' := #[.val (.int p1), .val (.int p2), .val (.int p3), .val (.int p4), .val (.int p5), .val (.int p6), .val (.int un), .val (.int tn), .val (.int ul), .val (.int tl), .val vu, .val vt, .val (.ref ro), .val (.ref hd), .val (.int (1 : Int32)), .val (.int uok), .val (.int (1 : Int32)), .unset, .unset]) at_220 rfl (pc' := 222) rfl ?_
    refine Seg.iload at_222 rfl (pc' := 224) rfl ?_
    refine Seg.ifN at_224 (by decide) (pc' := 227) rfl ?_
    refine Seg.iload at_227 rfl (pc' := 229) rfl ?_
    rcases huk with rfl | ⟨rfl, hvu⟩
    · refine Seg.ifY (pc' := 276) at_229 (by decide) (by decide) (by decide) ?_
      refine Seg.iload at_276 rfl (pc' := 278) rfl ?_
      exact Seg.retN (t := .boolean) (w := (1 : Int32)) rfl (by decide) (by decide) at_278 (by decide) (by decide) rfl
    · refine Seg.ifN at_229 (by decide) (pc' := 232) rfl ?_
      refine Seg.iload at_232 rfl (pc' := 234) rfl ?_
      refine Seg.ifN at_234 (by decide) (pc' := 237) rfl ?_
      exact sg237 G p1 p2 p3 p4 p5 p6 un tn ul tl vu vt ro hd es sys h hul htl hu' ht' Ah Fh0 Fh1 Fh2 Fh3 Ae Se Ss As Fs0 Fs2 Fs3 hvu (Or.inl q)
  · refine Seg.ifN at_201 (XT.i0_ne_f q) (pc' := 204) rfl ?_
    refine Seg.iload at_204 rfl (pc' := 206) rfl ?_
    refine Seg.iloadN at_206 rfl (pc' := 207) rfl ?_
    refine Seg.iload at_207 rfl (pc' := 209) rfl ?_
    by_cases hV : VL tl p4 p5
    · refine Seg.callS (y' := (⟨"pentrewick/api/UserContextHandlingPinLaw", "valid", "(III)Z"⟩ : MethodName)) (wd G 98 rfl) (wd G 99 rfl) (wd G 2 rfl) (wd G 100 rfl) ⟨by decide, by decide⟩ (Pays.of_ct (W := 0) (ct_validT G tl p4 p5 h hV) all0 (wd G 100 rfl) (wd G 2 rfl) (by decide) (by decide) rfl rfl) (argsL := [(.int tl), (.int p4), (.int p5)]) (rest := []) rfl (lenOf pd_19 rfl) rfl (Nat.le_of_eq rfl) rfl at_209 (pc' := 212) rfl (k' := 22) (n' := 300) rfl rfl (by decide) (by decide) ?_
      intro v_1 h_4 sz_2 q_3
      obtain ⟨rfl, rfl⟩ := q_3
      refine Seg.ifN at_212 (by decide) (pc' := 215) rfl ?_
      refine Seg.iconst (v := 1) at_215 (by decide) (pc' := 216) rfl ?_
      refine Seg.goto (pc' := 220) at_216 (by decide) (by decide) ?_
      refine Seg.istore (L' := #[.val (.int p1), .val (.int p2), .val (.int p3), .val (.int p4), .val (.int p5), .val (.int p6), .val (.int un), .val (.int tn), .val (.int ul), .val (.int tl), .val vu, .val vt, .val (.ref ro), .val (.ref hd), .val (.int (1 : Int32)), .val (.int uok), .val (.int (1 : Int32)), .unset, .unset]) at_220 rfl (pc' := 222) rfl ?_
      refine Seg.iload at_222 rfl (pc' := 224) rfl ?_
      refine Seg.ifN at_224 (by decide) (pc' := 227) rfl ?_
      refine Seg.iload at_227 rfl (pc' := 229) rfl ?_
      rcases huk with rfl | ⟨rfl, hvu⟩
      · refine Seg.ifY (pc' := 276) at_229 (by decide) (by decide) (by decide) ?_
        refine Seg.iload at_276 rfl (pc' := 278) rfl ?_
        exact Seg.retN (t := .boolean) (w := (1 : Int32)) rfl (by decide) (by decide) at_278 (by decide) (by decide) rfl
      · refine Seg.ifN at_229 (by decide) (pc' := 232) rfl ?_
        refine Seg.iload at_232 rfl (pc' := 234) rfl ?_
        refine Seg.ifN at_234 (by decide) (pc' := 237) rfl ?_
        exact sg237 G p1 p2 p3 p4 p5 p6 un tn ul tl vu vt ro hd es sys h hul htl hu' ht' Ah Fh0 Fh1 Fh2 Fh3 Ae Se Ss As Fs0 Fs2 Fs3 hvu (Or.inr hV)
    · refine Seg.callS (y' := (⟨"pentrewick/api/UserContextHandlingPinLaw", "valid", "(III)Z"⟩ : MethodName)) (wd G 98 rfl) (wd G 99 rfl) (wd G 2 rfl) (wd G 100 rfl) ⟨by decide, by decide⟩ (Pays.of_ct (W := 0) (ct_validF G tl p4 p5 h hV) all0 (wd G 100 rfl) (wd G 2 rfl) (by decide) (by decide) rfl rfl) (argsL := [(.int tl), (.int p4), (.int p5)]) (rest := []) rfl (lenOf pd_19 rfl) rfl (Nat.le_of_eq rfl) rfl at_209 (pc' := 212) rfl (k' := 22) (n' := 300) rfl rfl (by decide) (by decide) ?_
      intro v_5 h_8 sz_6 q_7
      obtain ⟨rfl, rfl⟩ := q_7
      refine Seg.ifY (pc' := 219) at_212 (by decide) (by decide) (by decide) ?_
      refine Seg.iconst (v := 0) at_219 (by decide) (pc' := 220) rfl ?_
      refine Seg.istore (L' := #[.val (.int p1), .val (.int p2), .val (.int p3), .val (.int p4), .val (.int p5), .val (.int p6), .val (.int un), .val (.int tn), .val (.int ul), .val (.int tl), .val vu, .val vt, .val (.ref ro), .val (.ref hd), .val (.int (1 : Int32)), .val (.int uok), .val (.int (0 : Int32)), .unset, .unset]) at_220 rfl (pc' := 222) rfl ?_
      refine Seg.iload at_222 rfl (pc' := 224) rfl ?_
      refine Seg.ifN at_224 (by decide) (pc' := 227) rfl ?_
      refine Seg.iload at_227 rfl (pc' := 229) rfl ?_
      rcases huk with rfl | ⟨rfl, hvu⟩
      · refine Seg.ifY (pc' := 276) at_229 (by decide) (by decide) (by decide) ?_
        refine Seg.iload at_276 rfl (pc' := 278) rfl ?_
        exact Seg.retN (t := .boolean) (w := (1 : Int32)) rfl (by decide) (by decide) at_278 (by decide) (by decide) rfl
      · refine Seg.ifN at_229 (by decide) (pc' := 232) rfl ?_
        refine Seg.iload at_232 rfl (pc' := 234) rfl ?_
        refine Seg.ifY (pc' := 276) at_234 (by decide) (by decide) (by decide) ?_
        refine Seg.iload at_276 rfl (pc' := 278) rfl ?_
        exact Seg.retN (t := .boolean) (w := (1 : Int32)) rfl (by decide) (by decide) at_278 (by decide) (by decide) rfl
set_option maxRecDepth 65536 in
set_option maxHeartbeats 4000000 in
theorem sg177 {l : Launch} {Z : State} {a0 : Array Value} (G : Env1 Z a0) (p1 : Int32) (p2 : Int32) (p3 : Int32) (p4 : Int32) (p5 : Int32) (p6 : Int32) (un : Int32) (tn : Int32) (ul : Int32) (tl : Int32) (vu : Value) (vt : Value) (ro : Addr) (hd : Addr) (es : Addr) (sys : Addr) (h : Heap) (hul : ul = 0 ∨ ul = 1 ∨ ul = 2 ∨ ul = 3) (htl : tl = 0 ∨ tl = 1 ∨ tl = 2 ∨ tl = 3) (hu' : OS Z h un vu (strcs ul p2 p3)) (ht' : OS Z h tn vt (strcs tl p4 p5)) (Ah : Exa Z h hd "pentrewick/api/UserContext") (Fh0 : Fld Z h hd "pentrewick/api/UserContext" "m_userId" "Ljava/lang/String;" vu) (Fh1 : Fld Z h hd "pentrewick/api/UserContext" "m_tenant" "Ljava/lang/String;" vt) (Fh2 : Fld Z h hd "pentrewick/api/UserContext" "m_roles" "Ljava/util/Set;" (.ref es)) (Fh3 : Fld Z h hd "pentrewick/api/UserContext" "m_privileged" "Z" (.int 1)) (Ae : Exa Z h es "java/util/ImmutableCollections$SetN") (Se : Sta Z Z.heap "java/util/ImmutableCollections" "EMPTY_SET" "Ljava/util/ImmutableCollections$SetN;" (.ref es)) (Ss : Sta Z Z.heap "pentrewick/api/UserContext" "SYSTEM" "Lpentrewick/api/UserContext;" (.ref sys)) (As : Exa Z h sys "pentrewick/api/UserContext") (Fs0 : Fld Z h sys "pentrewick/api/UserContext" "m_userId" "Ljava/lang/String;" .null) (Fs2 : Fld Z h sys "pentrewick/api/UserContext" "m_roles" "Ljava/util/Set;" (.ref es)) (Fs3 : Fld Z h sys "pentrewick/api/UserContext" "m_privileged" "Z" (.int 0)) :
    Seg l Z a0 EL1 x code maxLocals ret room_1 (fun v h => v = some (.int 1)) h 22 300 [] 177 #[.val (.int p1), .val (.int p2), .val (.int p3), .val (.int p4), .val (.int p5), .val (.int p6), .val (.int un), .val (.int tn), .val (.int ul), .val (.int tl), .val vu, .val vt, .val (.ref ro), .val (.ref hd), .val (.int (1 : Int32)), .unset, .unset, .unset, .unset] [] := by
  have hu := hu'.isRef
  have ht := ht'.isRef
  refine Seg.iload at_177 rfl (pc' := 179) rfl ?_
  rcases id hu' with ⟨q, -⟩ | ⟨q, -⟩
  · refine Seg.ifY (pc' := 192) at_179 (XT.i0_ne_t (by rw [q]; decide)) (by decide) (by decide) ?_
    refine Seg.iconst (v := 1) at_192 (by decide) (pc' := 193) rfl ?_
    refine Seg.goto (pc' := 197) at_193 (by decide) (by decide) ?_
    refine Seg.istore (L' := #[.val (.int p1), .val (.int p2), .val (.int p3), .val (.int p4), .val (.int p5), .val (.int p6), .val (.int un), .val (.int tn), .val (.int ul), .val (.int tl), .val vu, .val vt, .val (.ref ro), .val (.ref hd), .val (.int (1 : Int32)), .val (.int (1 : Int32)), .unset, .unset, .unset]) at_197 rfl (pc' := 199) rfl ?_
    exact sg199 G p1 p2 p3 p4 p5 p6 un tn ul tl vu vt ro hd es sys 1 h hul htl hu' ht' Ah Fh0 Fh1 Fh2 Fh3 Ae Se Ss As Fs0 Fs2 Fs3 (Or.inr ⟨rfl, Or.inl q⟩)
  · refine Seg.ifN at_179 (XT.i0_ne_f q) (pc' := 182) rfl ?_
    refine Seg.iload at_182 rfl (pc' := 184) rfl ?_
    refine Seg.iloadN at_184 rfl (pc' := 185) rfl ?_
    refine Seg.iloadN at_185 rfl (pc' := 186) rfl ?_
    by_cases hV : VL ul p2 p3
    · refine Seg.callS (y' := (⟨"pentrewick/api/UserContextHandlingPinLaw", "valid", "(III)Z"⟩ : MethodName)) (wd G 98 rfl) (wd G 99 rfl) (wd G 2 rfl) (wd G 100 rfl) ⟨by decide, by decide⟩ (Pays.of_ct (W := 0) (ct_validT G ul p2 p3 h hV) all0 (wd G 100 rfl) (wd G 2 rfl) (by decide) (by decide) rfl rfl) (argsL := [(.int ul), (.int p2), (.int p3)]) (rest := []) rfl (lenOf pd_19 rfl) rfl (Nat.le_of_eq rfl) rfl at_186 (pc' := 189) rfl (k' := 22) (n' := 300) rfl rfl (by decide) (by decide) ?_
      intro v_1 h_4 sz_2 q_3
      obtain ⟨rfl, rfl⟩ := q_3
      refine Seg.ifN at_189 (by decide) (pc' := 192) rfl ?_
      refine Seg.iconst (v := 1) at_192 (by decide) (pc' := 193) rfl ?_
      refine Seg.goto (pc' := 197) at_193 (by decide) (by decide) ?_
      refine Seg.istore (L' := #[.val (.int p1), .val (.int p2), .val (.int p3), .val (.int p4), .val (.int p5), .val (.int p6), .val (.int un), .val (.int tn), .val (.int ul), .val (.int tl), .val vu, .val vt, .val (.ref ro), .val (.ref hd), .val (.int (1 : Int32)), .val (.int (1 : Int32)), .unset, .unset, .unset]) at_197 rfl (pc' := 199) rfl ?_
      exact sg199 G p1 p2 p3 p4 p5 p6 un tn ul tl vu vt ro hd es sys 1 h hul htl hu' ht' Ah Fh0 Fh1 Fh2 Fh3 Ae Se Ss As Fs0 Fs2 Fs3 (Or.inr ⟨rfl, Or.inr hV⟩)
    · refine Seg.callS (y' := (⟨"pentrewick/api/UserContextHandlingPinLaw", "valid", "(III)Z"⟩ : MethodName)) (wd G 98 rfl) (wd G 99 rfl) (wd G 2 rfl) (wd G 100 rfl) ⟨by decide, by decide⟩ (Pays.of_ct (W := 0) (ct_validF G ul p2 p3 h hV) all0 (wd G 100 rfl) (wd G 2 rfl) (by decide) (by decide) rfl rfl) (argsL := [(.int ul), (.int p2), (.int p3)]) (rest := []) rfl (lenOf pd_19 rfl) rfl (Nat.le_of_eq rfl) rfl at_186 (pc' := 189) rfl (k' := 22) (n' := 300) rfl rfl (by decide) (by decide) ?_
      intro v_5 h_8 sz_6 q_7
      obtain ⟨rfl, rfl⟩ := q_7
      refine Seg.ifY (pc' := 196) at_189 (by decide) (by decide) (by decide) ?_
      refine Seg.iconst (v := 0) at_196 (by decide) (pc' := 197) rfl ?_
      refine Seg.istore (L' := #[.val (.int p1), .val (.int p2), .val (.int p3), .val (.int p4), .val (.int p5), .val (.int p6), .val (.int un), .val (.int tn), .val (.int ul), .val (.int tl), .val vu, .val vt, .val (.ref ro), .val (.ref hd), .val (.int (1 : Int32)), .val (.int (0 : Int32)), .unset, .unset, .unset]) at_197 rfl (pc' := 199) rfl ?_
      exact sg199 G p1 p2 p3 p4 p5 p6 un tn ul tl vu vt ro hd es sys 0 h hul htl hu' ht' Ah Fh0 Fh1 Fh2 Fh3 Ae Se Ss As Fs0 Fs2 Fs3 (Or.inl rfl)
theorem pd_20 : parseMethodDescriptor "(C)Ljava/lang/String;" = some ⟨[.char], some (.object "java/lang/String")⟩ := by decide +kernel
theorem pd_21 : parseMethodDescriptor "(Ljava/lang/String;Ljava/lang/String;)Lpentrewick/api/UserContext;" = some ⟨[(.object "java/lang/String"), (.object "java/lang/String")], some (.object "pentrewick/api/UserContext")⟩ := by decide +kernel
theorem pd_22 : parseMethodDescriptor "()Ljava/lang/String;" = some ⟨[], some (.object "java/lang/String")⟩ := by decide +kernel
theorem pd_23 : parseMethodDescriptor "(Ljava/lang/String;Ljava/lang/String;)Z" = some ⟨[(.object "java/lang/String"), (.object "java/lang/String")], some .boolean⟩ := by decide +kernel
theorem pd_24 : parseMethodDescriptor "(Ljava/lang/String;)Z" = some ⟨[(.object "java/lang/String")], some .boolean⟩ := by decide +kernel
set_option maxRecDepth 65536 in
set_option maxHeartbeats 4000000 in
theorem sg77 {l : Launch} {Z : State} {a0 : Array Value} (G : Env1 Z a0) (p1 : Int32) (p2 : Int32) (p3 : Int32) (p4 : Int32) (p5 : Int32) (p6 : Int32) (un : Int32) (tn : Int32) (ul : Int32) (tl : Int32) (vu : Value) (vt : Value) (h : Heap) (hul : ul = 0 ∨ ul = 1 ∨ ul = 2 ∨ ul = 3) (htl : tl = 0 ∨ tl = 1 ∨ tl = 2 ∨ tl = 3) (hu' : OS Z h un vu (strcs ul p2 p3)) (ht' : OS Z h tn vt (strcs tl p4 p5)) :
    Seg l Z a0 EL1 x code maxLocals ret room_1 (fun v h => v = some (.int 1)) h 16 100 [] 77 #[.val (.int p1), .val (.int p2), .val (.int p3), .val (.int p4), .val (.int p5), .val (.int p6), .val (.int un), .val (.int tn), .val (.int ul), .val (.int tl), .val vu, .val vt, .unset, .unset, .unset, .unset, .unset, .unset, .unset] [] := by
  have hu := hu'.isRef
  have ht := ht'.isRef
  refine Seg.start fun hZ0 => ?_
  obtain ⟨es, sys, Se, Ae0, Ss, As0, Fs00, Fs20, Fs30⟩ := G.2.2.2
  have Ae := Ae0.ext hZ0
  have As := As0.ext hZ0
  have Fs0 := Fs00.ext hZ0
  have Fs2 := Fs20.ext hZ0
  have Fs3 := Fs30.ext hZ0
  refine Seg.iload at_77 rfl (pc' := 79) rfl ?_
  refine Seg.sipush (v := 255) at_79 (by decide) (pc' := 82) rfl ?_
  refine Seg.iand (v := (p6 &&& (255 : Int32))) at_82 rfl (pc' := 83) rfl ?_
  refine Seg.i2c (v := (p6 &&& (255 : Int32))) at_83 (i2c_mask _) (pc' := 84) rfl ?_
  refine Seg.callS (y' := (⟨"java/lang/String", "valueOf", "(C)Ljava/lang/String;"⟩ : MethodName)) (wd G 26 rfl) (wd G 27 rfl) (wd G 7 rfl) (wd G 28 rfl) ⟨by decide, by decide⟩ (Pays.of_ct (W := 0) (ct_vof G (p6 &&& (255 : Int32)) h (and255 _)) all0 (wd G 28 rfl) (wd G 7 rfl) (by decide) (by decide) rfl rfl) (argsL := [(.int (p6 &&& (255 : Int32)))]) (rest := []) rfl (lenOf pd_20 rfl) rfl (Nat.le_of_eq rfl) rfl at_84 (pc' := 87) rfl (k' := 18) (n' := 105) rfl rfl (by decide) (by decide) ?_
  intro v_1 h_4 sz_2 q_3
  obtain ⟨ro, rfl, E1, Fro⟩ := q_3
  refine Seg.astore (L' := #[.val (.int p1), .val (.int p2), .val (.int p3), .val (.int p4), .val (.int p5), .val (.int p6), .val (.int un), .val (.int tn), .val (.int ul), .val (.int tl), .val vu, .val vt, .val (.ref ro), .unset, .unset, .unset, .unset, .unset, .unset]) at_87 rfl rfl (pc' := 89) rfl ?_
  refine Seg.aload at_89 rfl hu (pc' := 91) rfl ?_
  refine Seg.aload at_91 rfl ht (pc' := 93) rfl ?_
  refine Seg.callS (y' := (⟨"pentrewick/api/UserContext", "handling", "(Ljava/lang/String;Ljava/lang/String;)Lpentrewick/api/UserContext;"⟩ : MethodName)) (wd G 41 rfl) (wd G 42 rfl) (wd G 43 rfl) (wd G 44 rfl) ⟨by decide, by decide⟩ (Pays.of_ct (W := 0) (ct_hand G vu vt es h_4 hu ht Se) all0 (wd G 44 rfl) (wd G 43 rfl) (by decide) (by decide) rfl rfl) (argsL := [vu, vt]) (rest := []) rfl (lenOf pd_21 rfl) rfl (Nat.le_of_eq rfl) rfl at_93 (pc' := 96) rfl (k' := 19) (n' := 109) rfl rfl (by decide) (by decide) ?_
  intro v_5 h_8 sz_6 q_7
  obtain ⟨hd, rfl, E2, Ah, Fh0, Fh1, Fh2, Fh3⟩ := q_7
  refine Seg.astore (L' := #[.val (.int p1), .val (.int p2), .val (.int p3), .val (.int p4), .val (.int p5), .val (.int p6), .val (.int un), .val (.int tn), .val (.int ul), .val (.int tl), .val vu, .val vt, .val (.ref ro), .val (.ref hd), .unset, .unset, .unset, .unset, .unset]) at_96 rfl rfl (pc' := 98) rfl ?_
  refine Seg.aload at_98 rfl rfl (pc' := 100) rfl ?_
  refine Seg.callV (y' := (⟨"pentrewick/api/UserContext", "userId", "()Ljava/lang/String;"⟩ : MethodName)) (z := (⟨"pentrewick/api/UserContext", "userId", "()Ljava/lang/String;"⟩ : MethodName)) (a := hd) (wd G 65 rfl) (wd G 66 rfl) (nf_sel (wd G 68 rfl)) (wd G 68 rfl) (wd G 67 rfl) ⟨by decide, by decide⟩ Ah (Pays.of_ct (W := 0) (ct_uid G hd vu h_8 hu Fh0) all0 (wd G 69 rfl) (wd G 43 rfl) (by decide) (by decide) rfl rfl) (argsL := []) (rest := []) rfl (lenOf pd_22 rfl) rfl (Nat.le_of_eq rfl) rfl at_100 (pc' := 103) rfl (k' := 19) (n' := 109) rfl rfl (by decide) (by decide) ?_
  intro v_9 h_12 sz_10 q_11
  obtain ⟨rfl, rfl⟩ := q_11
  refine Seg.aload at_103 rfl hu (pc' := 105) rfl ?_
  have E_13 : Ext h h_8 := ext_tr E1 E2
  have F_14 := hu'.ext E_13
  refine Seg.callS (y' := (⟨"pentrewick/api/UserContextHandlingPinLaw", "same", "(Ljava/lang/String;Ljava/lang/String;)Z"⟩ : MethodName)) (wd G 70 rfl) (wd G 71 rfl) (wd G 2 rfl) (wd G 72 rfl) ⟨by decide, by decide⟩ (Pays.of_ct (W := 0) (ct_same G vu h_8 hu F_14.or) all0 (wd G 72 rfl) (wd G 2 rfl) (by decide) (by decide) rfl rfl) (argsL := [vu, vu]) (rest := []) rfl (lenOf pd_23 rfl) rfl (Nat.le_of_eq rfl) rfl at_105 (pc' := 108) rfl (k' := 19) (n' := 109) rfl rfl (by decide) (by decide) ?_
  intro v_15 h_18 sz_16 q_17
  obtain ⟨rfl, rfl⟩ := q_17
  refine Seg.istore (L' := #[.val (.int p1), .val (.int p2), .val (.int p3), .val (.int p4), .val (.int p5), .val (.int p6), .val (.int un), .val (.int tn), .val (.int ul), .val (.int tl), .val vu, .val vt, .val (.ref ro), .val (.ref hd), .val (.int (1 : Int32)), .unset, .unset, .unset, .unset]) at_108 rfl (pc' := 110) rfl ?_
  refine Seg.iload at_110 rfl (pc' := 112) rfl ?_
  refine Seg.ifN at_112 (by decide) (pc' := 115) rfl ?_
  refine Seg.aload at_115 rfl rfl (pc' := 117) rfl ?_
  refine Seg.callV (y' := (⟨"pentrewick/api/UserContext", "tenant", "()Ljava/lang/String;"⟩ : MethodName)) (z := (⟨"pentrewick/api/UserContext", "tenant", "()Ljava/lang/String;"⟩ : MethodName)) (a := hd) (wd G 78 rfl) (wd G 79 rfl) (nf_sel (wd G 81 rfl)) (wd G 81 rfl) (wd G 80 rfl) ⟨by decide, by decide⟩ Ah (Pays.of_ct (W := 0) (ct_ten G hd vt h_8 ht Fh1) all0 (wd G 82 rfl) (wd G 43 rfl) (by decide) (by decide) rfl rfl) (argsL := []) (rest := []) rfl (lenOf pd_22 rfl) rfl (Nat.le_of_eq rfl) rfl at_117 (pc' := 120) rfl (k' := 19) (n' := 109) rfl rfl (by decide) (by decide) ?_
  intro v_19 h_22 sz_20 q_21
  obtain ⟨rfl, rfl⟩ := q_21
  refine Seg.aload at_120 rfl ht (pc' := 122) rfl ?_
  have F_23 := ht'.ext E_13
  refine Seg.callS (y' := (⟨"pentrewick/api/UserContextHandlingPinLaw", "same", "(Ljava/lang/String;Ljava/lang/String;)Z"⟩ : MethodName)) (wd G 70 rfl) (wd G 71 rfl) (wd G 2 rfl) (wd G 72 rfl) ⟨by decide, by decide⟩ (Pays.of_ct (W := 0) (ct_same G vt h_8 ht F_23.or) all0 (wd G 72 rfl) (wd G 2 rfl) (by decide) (by decide) rfl rfl) (argsL := [vt, vt]) (rest := []) rfl (lenOf pd_23 rfl) rfl (Nat.le_of_eq rfl) rfl at_122 (pc' := 125) rfl (k' := 19) (n' := 109) rfl rfl (by decide) (by decide) ?_
  intro v_24 h_27 sz_25 q_26
  obtain ⟨rfl, rfl⟩ := q_26
  refine Seg.ifN at_125 (by decide) (pc' := 128) rfl ?_
  refine Seg.iconst (v := 1) at_128 (by decide) (pc' := 129) rfl ?_
  refine Seg.goto (pc' := 133) at_129 (by decide) (by decide) ?_
  refine Seg.istore (L' := #[.val (.int p1), .val (.int p2), .val (.int p3), .val (.int p4), .val (.int p5), .val (.int p6), .val (.int un), .val (.int tn), .val (.int ul), .val (.int tl), .val vu, .val vt, .val (.ref ro), .val (.ref hd), .val (.int (1 : Int32)), .unset, .unset, .unset, .unset]) at_133 rfl (pc' := 135) rfl ?_
  refine Seg.iload at_135 rfl (pc' := 137) rfl ?_
  refine Seg.ifN at_137 (by decide) (pc' := 140) rfl ?_
  refine Seg.aload at_140 rfl rfl (pc' := 142) rfl ?_
  refine Seg.callV (y' := (⟨"pentrewick/api/UserContext", "privileged", "()Z"⟩ : MethodName)) (z := (⟨"pentrewick/api/UserContext", "privileged", "()Z"⟩ : MethodName)) (a := hd) (wd G 83 rfl) (wd G 84 rfl) (nf_sel (wd G 86 rfl)) (wd G 86 rfl) (wd G 85 rfl) ⟨by decide, by decide⟩ Ah (Pays.of_ct (W := 0) (ct_prv G hd h_8 Fh3) all0 (wd G 87 rfl) (wd G 43 rfl) (by decide) (by decide) rfl rfl) (argsL := []) (rest := []) rfl (lenOf pd_7 rfl) rfl (Nat.le_of_eq rfl) rfl at_142 (pc' := 145) rfl (k' := 19) (n' := 109) rfl rfl (by decide) (by decide) ?_
  intro v_28 h_31 sz_29 q_30
  obtain ⟨rfl, rfl⟩ := q_30
  refine Seg.ifN at_145 (by decide) (pc' := 148) rfl ?_
  refine Seg.iconst (v := 1) at_148 (by decide) (pc' := 149) rfl ?_
  refine Seg.goto (pc' := 153) at_149 (by decide) (by decide) ?_
  refine Seg.istore (L' := #[.val (.int p1), .val (.int p2), .val (.int p3), .val (.int p4), .val (.int p5), .val (.int p6), .val (.int un), .val (.int tn), .val (.int ul), .val (.int tl), .val vu, .val vt, .val (.ref ro), .val (.ref hd), .val (.int (1 : Int32)), .unset, .unset, .unset, .unset]) at_153 rfl (pc' := 155) rfl ?_
  refine Seg.iload at_155 rfl (pc' := 157) rfl ?_
  refine Seg.ifN at_157 (by decide) (pc' := 160) rfl ?_
  refine Seg.aload at_160 rfl rfl (pc' := 162) rfl ?_
  refine Seg.aload at_162 rfl rfl (pc' := 164) rfl ?_
  refine Seg.callV (y' := (⟨"pentrewick/api/UserContext", "hasRole", "(Ljava/lang/String;)Z"⟩ : MethodName)) (z := (⟨"pentrewick/api/UserContext", "hasRole", "(Ljava/lang/String;)Z"⟩ : MethodName)) (a := hd) (wd G 88 rfl) (wd G 89 rfl) (nf_sel (wd G 91 rfl)) (wd G 91 rfl) (wd G 90 rfl) ⟨by decide, by decide⟩ Ah (Pays.of_ct (W := 0) (ct_hasRole G hd ro h_8 Fh3) all0 (wd G 92 rfl) (wd G 43 rfl) (by decide) (by decide) rfl rfl) (argsL := [(.ref ro)]) (rest := []) rfl (lenOf pd_24 rfl) rfl (Nat.le_of_eq rfl) rfl at_164 (pc' := 167) rfl (k' := 21) (n' := 129) rfl rfl (by decide) (by decide) ?_
  intro v_32 h_35 sz_33 q_34
  obtain ⟨rfl, E3⟩ := q_34
  refine Seg.ifN at_167 (by decide) (pc' := 170) rfl ?_
  refine Seg.iconst (v := 1) at_170 (by decide) (pc' := 171) rfl ?_
  refine Seg.goto (pc' := 175) at_171 (by decide) (by decide) ?_
  refine Seg.istore (L' := #[.val (.int p1), .val (.int p2), .val (.int p3), .val (.int p4), .val (.int p5), .val (.int p6), .val (.int un), .val (.int tn), .val (.int ul), .val (.int tl), .val vu, .val vt, .val (.ref ro), .val (.ref hd), .val (.int (1 : Int32)), .unset, .unset, .unset, .unset]) at_175 rfl (pc' := 177) rfl ?_
  have F_36 := F_14.ext E3
  have F_37 := F_23.ext E3
  have F_38 := Ah.ext E3
  have F_39 := Fh0.ext E3
  have F_40 := Fh1.ext E3
  have F_41 := Fh2.ext E3
  have F_42 := Fh3.ext E3
  have E_43 : Ext h h_35 := ext_tr E_13 E3
  have F_44 := Ae.ext E_43
  have F_45 := As.ext E_43
  have F_46 := Fs0.ext E_43
  have F_47 := Fs2.ext E_43
  have F_48 := Fs3.ext E_43
  exact (sg177 G p1 p2 p3 p4 p5 p6 un tn ul tl vu vt ro hd es sys h_35 hul htl F_36 F_37 F_38 F_39 F_40 F_41 F_42 F_44 Se Ss F_45 F_46 F_47 F_48).mono (by decide) (by decide) all0
theorem pd_25 : parseMethodDescriptor "(III)Ljava/lang/String;" = some ⟨[.int, .int, .int], some (.object "java/lang/String")⟩ := by decide +kernel
set_option maxRecDepth 65536 in
set_option maxHeartbeats 4000000 in
theorem sg58 {l : Launch} {Z : State} {a0 : Array Value} (G : Env1 Z a0) (p1 : Int32) (p2 : Int32) (p3 : Int32) (p4 : Int32) (p5 : Int32) (p6 : Int32) (un : Int32) (tn : Int32) (ul : Int32) (tl : Int32) (vu : Value) (h : Heap) (htn : tn = 0 ∨ tn = 1) (hul : ul = 0 ∨ ul = 1 ∨ ul = 2 ∨ ul = 3) (htl : tl = 0 ∨ tl = 1 ∨ tl = 2 ∨ tl = 3) (hu' : OS Z h un vu (strcs ul p2 p3)) :
    Seg l Z a0 EL1 x code maxLocals ret room_1 (fun v h => v = some (.int 1)) h 8 50 [] 58 #[.val (.int p1), .val (.int p2), .val (.int p3), .val (.int p4), .val (.int p5), .val (.int p6), .val (.int un), .val (.int tn), .val (.int ul), .val (.int tl), .val vu, .unset, .unset, .unset, .unset, .unset, .unset, .unset, .unset] [] := by
  have hu := hu'.isRef
  refine Seg.iload at_58 rfl (pc' := 60) rfl ?_
  rcases htn with q | q
  · refine Seg.ifY (pc' := 67) at_60 (XT.i0_eq_t (by rw [q])) (by decide) (by decide) ?_
    refine Seg.iload at_67 rfl (pc' := 69) rfl ?_
    refine Seg.iloadN at_69 rfl (pc' := 70) rfl ?_
    refine Seg.iload at_70 rfl (pc' := 72) rfl ?_
    refine Seg.callS (y' := (⟨"pentrewick/api/UserContextHandlingPinLaw", "str", "(III)Ljava/lang/String;"⟩ : MethodName)) (wd G 0 rfl) (wd G 1 rfl) (wd G 2 rfl) (wd G 3 rfl) ⟨by decide, by decide⟩ (Pays.of_ct (W := 0) (ct_str G tl p4 p5 h) all0 (wd G 3 rfl) (wd G 2 rfl) (by decide) (by decide) rfl rfl) (argsL := [(.int tl), (.int p4), (.int p5)]) (rest := []) rfl (lenOf pd_25 rfl) rfl (Nat.le_of_eq rfl) rfl at_72 (pc' := 75) rfl (k' := 16) (n' := 65) rfl rfl (by decide) (by decide) ?_
    intro v_1 h_4 sz_2 q_3
    obtain ⟨r, rfl, E1, F1⟩ := q_3
    refine Seg.astore (L' := #[.val (.int p1), .val (.int p2), .val (.int p3), .val (.int p4), .val (.int p5), .val (.int p6), .val (.int un), .val (.int tn), .val (.int ul), .val (.int tl), .val vu, .val (.ref r), .unset, .unset, .unset, .unset, .unset, .unset, .unset]) at_75 rfl rfl (pc' := 77) rfl ?_
    have F_5 := hu'.ext E1
    exact (sg77 G p1 p2 p3 p4 p5 p6 un tn ul tl vu (.ref r) h_4 hul htl F_5 (Or.inr ⟨q, r, rfl, F1⟩)).mono (by decide) (by decide) all0
  · refine Seg.ifN at_60 (XT.i0_eq_f (by rw [q]; decide)) (pc' := 63) rfl ?_
    refine Seg.anull at_63 (pc' := 64) rfl ?_
    refine Seg.goto (pc' := 75) at_64 (by decide) (by decide) ?_
    refine Seg.astore (L' := #[.val (.int p1), .val (.int p2), .val (.int p3), .val (.int p4), .val (.int p5), .val (.int p6), .val (.int un), .val (.int tn), .val (.int ul), .val (.int tl), .val vu, .val Value.null, .unset, .unset, .unset, .unset, .unset, .unset, .unset]) at_75 rfl rfl (pc' := 77) rfl ?_
    exact (sg77 G p1 p2 p3 p4 p5 p6 un tn ul tl vu Value.null h hul htl hu' (Or.inl ⟨q, rfl⟩)).mono (by decide) (by decide) all0
set_option maxRecDepth 65536 in
set_option maxHeartbeats 4000000 in
theorem sg40 {l : Launch} {Z : State} {a0 : Array Value} (G : Env1 Z a0) (p1 : Int32) (p2 : Int32) (p3 : Int32) (p4 : Int32) (p5 : Int32) (p6 : Int32) (un : Int32) (tn : Int32) (ul : Int32) (tl : Int32) (h : Heap) (hun : un = 0 ∨ un = 1) (htn : tn = 0 ∨ tn = 1) (hul : ul = 0 ∨ ul = 1 ∨ ul = 2 ∨ ul = 3) (htl : tl = 0 ∨ tl = 1 ∨ tl = 2 ∨ tl = 3) :
    Seg l Z a0 EL1 x code maxLocals ret room_1 (fun v h => v = some (.int 1)) h 0 0 [] 40 #[.val (.int p1), .val (.int p2), .val (.int p3), .val (.int p4), .val (.int p5), .val (.int p6), .val (.int un), .val (.int tn), .val (.int ul), .val (.int tl), .unset, .unset, .unset, .unset, .unset, .unset, .unset, .unset, .unset] [] := by
  refine Seg.iload at_40 rfl (pc' := 42) rfl ?_
  rcases hun with q | q
  · refine Seg.ifY (pc' := 49) at_42 (XT.i0_eq_t (by rw [q])) (by decide) (by decide) ?_
    refine Seg.iload at_49 rfl (pc' := 51) rfl ?_
    refine Seg.iloadN at_51 rfl (pc' := 52) rfl ?_
    refine Seg.iloadN at_52 rfl (pc' := 53) rfl ?_
    refine Seg.callS (y' := (⟨"pentrewick/api/UserContextHandlingPinLaw", "str", "(III)Ljava/lang/String;"⟩ : MethodName)) (wd G 0 rfl) (wd G 1 rfl) (wd G 2 rfl) (wd G 3 rfl) ⟨by decide, by decide⟩ (Pays.of_ct (W := 0) (ct_str G ul p2 p3 h) all0 (wd G 3 rfl) (wd G 2 rfl) (by decide) (by decide) rfl rfl) (argsL := [(.int ul), (.int p2), (.int p3)]) (rest := []) rfl (lenOf pd_25 rfl) rfl (Nat.le_of_eq rfl) rfl at_53 (pc' := 56) rfl (k' := 8) (n' := 15) rfl rfl (by decide) (by decide) ?_
    intro v_1 h_4 sz_2 q_3
    obtain ⟨r, rfl, E1, F1⟩ := q_3
    refine Seg.astore (L' := #[.val (.int p1), .val (.int p2), .val (.int p3), .val (.int p4), .val (.int p5), .val (.int p6), .val (.int un), .val (.int tn), .val (.int ul), .val (.int tl), .val (.ref r), .unset, .unset, .unset, .unset, .unset, .unset, .unset, .unset]) at_56 rfl rfl (pc' := 58) rfl ?_
    exact (sg58 G p1 p2 p3 p4 p5 p6 un tn ul tl (.ref r) h_4 htn hul htl (Or.inr ⟨q, r, rfl, F1⟩)).mono (by decide) (by decide) all0
  · refine Seg.ifN at_42 (XT.i0_eq_f (by rw [q]; decide)) (pc' := 45) rfl ?_
    refine Seg.anull at_45 (pc' := 46) rfl ?_
    refine Seg.goto (pc' := 56) at_46 (by decide) (by decide) ?_
    refine Seg.astore (L' := #[.val (.int p1), .val (.int p2), .val (.int p3), .val (.int p4), .val (.int p5), .val (.int p6), .val (.int un), .val (.int tn), .val (.int ul), .val (.int tl), .val Value.null, .unset, .unset, .unset, .unset, .unset, .unset, .unset, .unset]) at_56 rfl rfl (pc' := 58) rfl ?_
    exact (sg58 G p1 p2 p3 p4 p5 p6 un tn ul tl Value.null h htn hul htl (Or.inl ⟨q, rfl⟩)).mono (by decide) (by decide) all0
set_option maxRecDepth 65536 in
set_option maxHeartbeats 4000000 in
theorem sg0 {l : Launch} {Z : State} {a0 : Array Value} (G : Env1 Z a0) (p1 : Int32) (p2 : Int32) (p3 : Int32) (p4 : Int32) (p5 : Int32) (p6 : Int32) (h0 : Heap) :
    Seg l Z a0 EL1 x code maxLocals ret room_1 (fun v h => v = some (.int 1)) h0 0 0 [] 0 #[.val (.int p1), .val (.int p2), .val (.int p3), .val (.int p4), .val (.int p5), .val (.int p6), .unset, .unset, .unset, .unset, .unset, .unset, .unset, .unset, .unset, .unset, .unset, .unset, .unset] [] := by
  refine Seg.iloadN at_0 rfl (pc' := 1) rfl ?_
  refine Seg.iconst (v := 1) at_1 (by decide) (pc' := 2) rfl ?_
  refine Seg.iand (v := (p1 &&& (1 : Int32))) at_2 rfl (pc' := 3) rfl ?_
  by_cases h1 : (p1 &&& (1 : Int32)) = 0
  · refine Seg.ifY (pc' := 10) at_3 (XT.i0_eq_t h1) (by decide) (by decide) ?_
    refine Seg.iconst (v := 0) at_10 (by decide) (pc' := 11) rfl ?_
    refine Seg.istore (L' := #[.val (.int p1), .val (.int p2), .val (.int p3), .val (.int p4), .val (.int p5), .val (.int p6), .val (.int (0 : Int32)), .unset, .unset, .unset, .unset, .unset, .unset, .unset, .unset, .unset, .unset, .unset, .unset]) at_11 rfl (pc' := 13) rfl ?_
    refine Seg.iloadN at_13 rfl (pc' := 14) rfl ?_
    refine Seg.iconst (v := 2) at_14 (by decide) (pc' := 15) rfl ?_
    refine Seg.iand (v := (p1 &&& (2 : Int32))) at_15 rfl (pc' := 16) rfl ?_
    by_cases h2 : (p1 &&& (2 : Int32)) = 0
    · refine Seg.ifY (pc' := 23) at_16 (XT.i0_eq_t h2) (by decide) (by decide) ?_
      refine Seg.iconst (v := 0) at_23 (by decide) (pc' := 24) rfl ?_
      refine Seg.istore (L' := #[.val (.int p1), .val (.int p2), .val (.int p3), .val (.int p4), .val (.int p5), .val (.int p6), .val (.int (0 : Int32)), .val (.int (0 : Int32)), .unset, .unset, .unset, .unset, .unset, .unset, .unset, .unset, .unset, .unset, .unset]) at_24 rfl (pc' := 26) rfl ?_
      refine Seg.iloadN at_26 rfl (pc' := 27) rfl ?_
      refine Seg.iconst (v := 2) at_27 (by decide) (pc' := 28) rfl ?_
      refine Seg.iushr (v := ((p1).toUInt32 >>> ((2 : Int32) &&& 31).toUInt32).toInt32) at_28 rfl (pc' := 29) rfl ?_
      refine Seg.iconst (v := 3) at_29 (by decide) (pc' := 30) rfl ?_
      refine Seg.iand (v := (((p1).toUInt32 >>> ((2 : Int32) &&& 31).toUInt32).toInt32 &&& (3 : Int32))) at_30 rfl (pc' := 31) rfl ?_
      refine Seg.istore (L' := #[.val (.int p1), .val (.int p2), .val (.int p3), .val (.int p4), .val (.int p5), .val (.int p6), .val (.int (0 : Int32)), .val (.int (0 : Int32)), .val (.int (((p1).toUInt32 >>> ((2 : Int32) &&& 31).toUInt32).toInt32 &&& (3 : Int32))), .unset, .unset, .unset, .unset, .unset, .unset, .unset, .unset, .unset, .unset]) at_31 rfl (pc' := 33) rfl ?_
      refine Seg.iloadN at_33 rfl (pc' := 34) rfl ?_
      refine Seg.iconst (v := 4) at_34 (by decide) (pc' := 35) rfl ?_
      refine Seg.iushr (v := ((p1).toUInt32 >>> ((4 : Int32) &&& 31).toUInt32).toInt32) at_35 rfl (pc' := 36) rfl ?_
      refine Seg.iconst (v := 3) at_36 (by decide) (pc' := 37) rfl ?_
      refine Seg.iand (v := (((p1).toUInt32 >>> ((4 : Int32) &&& 31).toUInt32).toInt32 &&& (3 : Int32))) at_37 rfl (pc' := 38) rfl ?_
      refine Seg.istore (L' := #[.val (.int p1), .val (.int p2), .val (.int p3), .val (.int p4), .val (.int p5), .val (.int p6), .val (.int (0 : Int32)), .val (.int (0 : Int32)), .val (.int (((p1).toUInt32 >>> ((2 : Int32) &&& 31).toUInt32).toInt32 &&& (3 : Int32))), .val (.int (((p1).toUInt32 >>> ((4 : Int32) &&& 31).toUInt32).toInt32 &&& (3 : Int32))), .unset, .unset, .unset, .unset, .unset, .unset, .unset, .unset, .unset]) at_38 rfl (pc' := 40) rfl ?_
      exact sg40 G p1 p2 p3 p4 p5 p6 (0 : Int32) (0 : Int32) (((p1).toUInt32 >>> ((2 : Int32) &&& 31).toUInt32).toInt32 &&& (3 : Int32)) (((p1).toUInt32 >>> ((4 : Int32) &&& 31).toUInt32).toInt32 &&& (3 : Int32)) h0 (by decide) (by decide) (and3 _) (and3 _)
    · refine Seg.ifN at_16 (XT.i0_eq_f h2) (pc' := 19) rfl ?_
      refine Seg.iconst (v := 1) at_19 (by decide) (pc' := 20) rfl ?_
      refine Seg.goto (pc' := 24) at_20 (by decide) (by decide) ?_
      refine Seg.istore (L' := #[.val (.int p1), .val (.int p2), .val (.int p3), .val (.int p4), .val (.int p5), .val (.int p6), .val (.int (0 : Int32)), .val (.int (1 : Int32)), .unset, .unset, .unset, .unset, .unset, .unset, .unset, .unset, .unset, .unset, .unset]) at_24 rfl (pc' := 26) rfl ?_
      refine Seg.iloadN at_26 rfl (pc' := 27) rfl ?_
      refine Seg.iconst (v := 2) at_27 (by decide) (pc' := 28) rfl ?_
      refine Seg.iushr (v := ((p1).toUInt32 >>> ((2 : Int32) &&& 31).toUInt32).toInt32) at_28 rfl (pc' := 29) rfl ?_
      refine Seg.iconst (v := 3) at_29 (by decide) (pc' := 30) rfl ?_
      refine Seg.iand (v := (((p1).toUInt32 >>> ((2 : Int32) &&& 31).toUInt32).toInt32 &&& (3 : Int32))) at_30 rfl (pc' := 31) rfl ?_
      refine Seg.istore (L' := #[.val (.int p1), .val (.int p2), .val (.int p3), .val (.int p4), .val (.int p5), .val (.int p6), .val (.int (0 : Int32)), .val (.int (1 : Int32)), .val (.int (((p1).toUInt32 >>> ((2 : Int32) &&& 31).toUInt32).toInt32 &&& (3 : Int32))), .unset, .unset, .unset, .unset, .unset, .unset, .unset, .unset, .unset, .unset]) at_31 rfl (pc' := 33) rfl ?_
      refine Seg.iloadN at_33 rfl (pc' := 34) rfl ?_
      refine Seg.iconst (v := 4) at_34 (by decide) (pc' := 35) rfl ?_
      refine Seg.iushr (v := ((p1).toUInt32 >>> ((4 : Int32) &&& 31).toUInt32).toInt32) at_35 rfl (pc' := 36) rfl ?_
      refine Seg.iconst (v := 3) at_36 (by decide) (pc' := 37) rfl ?_
      refine Seg.iand (v := (((p1).toUInt32 >>> ((4 : Int32) &&& 31).toUInt32).toInt32 &&& (3 : Int32))) at_37 rfl (pc' := 38) rfl ?_
      refine Seg.istore (L' := #[.val (.int p1), .val (.int p2), .val (.int p3), .val (.int p4), .val (.int p5), .val (.int p6), .val (.int (0 : Int32)), .val (.int (1 : Int32)), .val (.int (((p1).toUInt32 >>> ((2 : Int32) &&& 31).toUInt32).toInt32 &&& (3 : Int32))), .val (.int (((p1).toUInt32 >>> ((4 : Int32) &&& 31).toUInt32).toInt32 &&& (3 : Int32))), .unset, .unset, .unset, .unset, .unset, .unset, .unset, .unset, .unset]) at_38 rfl (pc' := 40) rfl ?_
      exact sg40 G p1 p2 p3 p4 p5 p6 (0 : Int32) (1 : Int32) (((p1).toUInt32 >>> ((2 : Int32) &&& 31).toUInt32).toInt32 &&& (3 : Int32)) (((p1).toUInt32 >>> ((4 : Int32) &&& 31).toUInt32).toInt32 &&& (3 : Int32)) h0 (by decide) (by decide) (and3 _) (and3 _)
  · refine Seg.ifN at_3 (XT.i0_eq_f h1) (pc' := 6) rfl ?_
    refine Seg.iconst (v := 1) at_6 (by decide) (pc' := 7) rfl ?_
    refine Seg.goto (pc' := 11) at_7 (by decide) (by decide) ?_
    refine Seg.istore (L' := #[.val (.int p1), .val (.int p2), .val (.int p3), .val (.int p4), .val (.int p5), .val (.int p6), .val (.int (1 : Int32)), .unset, .unset, .unset, .unset, .unset, .unset, .unset, .unset, .unset, .unset, .unset, .unset]) at_11 rfl (pc' := 13) rfl ?_
    refine Seg.iloadN at_13 rfl (pc' := 14) rfl ?_
    refine Seg.iconst (v := 2) at_14 (by decide) (pc' := 15) rfl ?_
    refine Seg.iand (v := (p1 &&& (2 : Int32))) at_15 rfl (pc' := 16) rfl ?_
    by_cases h2 : (p1 &&& (2 : Int32)) = 0
    · refine Seg.ifY (pc' := 23) at_16 (XT.i0_eq_t h2) (by decide) (by decide) ?_
      refine Seg.iconst (v := 0) at_23 (by decide) (pc' := 24) rfl ?_
      refine Seg.istore (L' := #[.val (.int p1), .val (.int p2), .val (.int p3), .val (.int p4), .val (.int p5), .val (.int p6), .val (.int (1 : Int32)), .val (.int (0 : Int32)), .unset, .unset, .unset, .unset, .unset, .unset, .unset, .unset, .unset, .unset, .unset]) at_24 rfl (pc' := 26) rfl ?_
      refine Seg.iloadN at_26 rfl (pc' := 27) rfl ?_
      refine Seg.iconst (v := 2) at_27 (by decide) (pc' := 28) rfl ?_
      refine Seg.iushr (v := ((p1).toUInt32 >>> ((2 : Int32) &&& 31).toUInt32).toInt32) at_28 rfl (pc' := 29) rfl ?_
      refine Seg.iconst (v := 3) at_29 (by decide) (pc' := 30) rfl ?_
      refine Seg.iand (v := (((p1).toUInt32 >>> ((2 : Int32) &&& 31).toUInt32).toInt32 &&& (3 : Int32))) at_30 rfl (pc' := 31) rfl ?_
      refine Seg.istore (L' := #[.val (.int p1), .val (.int p2), .val (.int p3), .val (.int p4), .val (.int p5), .val (.int p6), .val (.int (1 : Int32)), .val (.int (0 : Int32)), .val (.int (((p1).toUInt32 >>> ((2 : Int32) &&& 31).toUInt32).toInt32 &&& (3 : Int32))), .unset, .unset, .unset, .unset, .unset, .unset, .unset, .unset, .unset, .unset]) at_31 rfl (pc' := 33) rfl ?_
      refine Seg.iloadN at_33 rfl (pc' := 34) rfl ?_
      refine Seg.iconst (v := 4) at_34 (by decide) (pc' := 35) rfl ?_
      refine Seg.iushr (v := ((p1).toUInt32 >>> ((4 : Int32) &&& 31).toUInt32).toInt32) at_35 rfl (pc' := 36) rfl ?_
      refine Seg.iconst (v := 3) at_36 (by decide) (pc' := 37) rfl ?_
      refine Seg.iand (v := (((p1).toUInt32 >>> ((4 : Int32) &&& 31).toUInt32).toInt32 &&& (3 : Int32))) at_37 rfl (pc' := 38) rfl ?_
      refine Seg.istore (L' := #[.val (.int p1), .val (.int p2), .val (.int p3), .val (.int p4), .val (.int p5), .val (.int p6), .val (.int (1 : Int32)), .val (.int (0 : Int32)), .val (.int (((p1).toUInt32 >>> ((2 : Int32) &&& 31).toUInt32).toInt32 &&& (3 : Int32))), .val (.int (((p1).toUInt32 >>> ((4 : Int32) &&& 31).toUInt32).toInt32 &&& (3 : Int32))), .unset, .unset, .unset, .unset, .unset, .unset, .unset, .unset, .unset]) at_38 rfl (pc' := 40) rfl ?_
      exact sg40 G p1 p2 p3 p4 p5 p6 (1 : Int32) (0 : Int32) (((p1).toUInt32 >>> ((2 : Int32) &&& 31).toUInt32).toInt32 &&& (3 : Int32)) (((p1).toUInt32 >>> ((4 : Int32) &&& 31).toUInt32).toInt32 &&& (3 : Int32)) h0 (by decide) (by decide) (and3 _) (and3 _)
    · refine Seg.ifN at_16 (XT.i0_eq_f h2) (pc' := 19) rfl ?_
      refine Seg.iconst (v := 1) at_19 (by decide) (pc' := 20) rfl ?_
      refine Seg.goto (pc' := 24) at_20 (by decide) (by decide) ?_
      refine Seg.istore (L' := #[.val (.int p1), .val (.int p2), .val (.int p3), .val (.int p4), .val (.int p5), .val (.int p6), .val (.int (1 : Int32)), .val (.int (1 : Int32)), .unset, .unset, .unset, .unset, .unset, .unset, .unset, .unset, .unset, .unset, .unset]) at_24 rfl (pc' := 26) rfl ?_
      refine Seg.iloadN at_26 rfl (pc' := 27) rfl ?_
      refine Seg.iconst (v := 2) at_27 (by decide) (pc' := 28) rfl ?_
      refine Seg.iushr (v := ((p1).toUInt32 >>> ((2 : Int32) &&& 31).toUInt32).toInt32) at_28 rfl (pc' := 29) rfl ?_
      refine Seg.iconst (v := 3) at_29 (by decide) (pc' := 30) rfl ?_
      refine Seg.iand (v := (((p1).toUInt32 >>> ((2 : Int32) &&& 31).toUInt32).toInt32 &&& (3 : Int32))) at_30 rfl (pc' := 31) rfl ?_
      refine Seg.istore (L' := #[.val (.int p1), .val (.int p2), .val (.int p3), .val (.int p4), .val (.int p5), .val (.int p6), .val (.int (1 : Int32)), .val (.int (1 : Int32)), .val (.int (((p1).toUInt32 >>> ((2 : Int32) &&& 31).toUInt32).toInt32 &&& (3 : Int32))), .unset, .unset, .unset, .unset, .unset, .unset, .unset, .unset, .unset, .unset]) at_31 rfl (pc' := 33) rfl ?_
      refine Seg.iloadN at_33 rfl (pc' := 34) rfl ?_
      refine Seg.iconst (v := 4) at_34 (by decide) (pc' := 35) rfl ?_
      refine Seg.iushr (v := ((p1).toUInt32 >>> ((4 : Int32) &&& 31).toUInt32).toInt32) at_35 rfl (pc' := 36) rfl ?_
      refine Seg.iconst (v := 3) at_36 (by decide) (pc' := 37) rfl ?_
      refine Seg.iand (v := (((p1).toUInt32 >>> ((4 : Int32) &&& 31).toUInt32).toInt32 &&& (3 : Int32))) at_37 rfl (pc' := 38) rfl ?_
      refine Seg.istore (L' := #[.val (.int p1), .val (.int p2), .val (.int p3), .val (.int p4), .val (.int p5), .val (.int p6), .val (.int (1 : Int32)), .val (.int (1 : Int32)), .val (.int (((p1).toUInt32 >>> ((2 : Int32) &&& 31).toUInt32).toInt32 &&& (3 : Int32))), .val (.int (((p1).toUInt32 >>> ((4 : Int32) &&& 31).toUInt32).toInt32 &&& (3 : Int32))), .unset, .unset, .unset, .unset, .unset, .unset, .unset, .unset, .unset]) at_38 rfl (pc' := 40) rfl ?_
      exact sg40 G p1 p2 p3 p4 p5 p6 (1 : Int32) (1 : Int32) (((p1).toUInt32 >>> ((2 : Int32) &&& 31).toUInt32).toInt32 &&& (3 : Int32)) (((p1).toUInt32 >>> ((4 : Int32) &&& 31).toUInt32).toInt32 &&& (3 : Int32)) h0 (by decide) (by decide) (and3 _) (and3 _)
theorem eqint {args : Array Value} {first s : State} {o : Option Outcome} {idx : List Nat} {t : Term} {n : Int32} (h : (Jvm.Cond.eq t (.int n)).value args first o s idx = some true) : t.eval args first o idx s = some (.int n) := by
  obtain ⟨x, y, h1, h2, h3, -⟩ := cmp_v (Or.inl h)
  cases h2
  cases x <;> simp [Cond.value, h1, Term.eval] at h ⊢
  · exact h
theorem eqref {args : Array Value} {first s : State} {o : Option Outcome} {idx : List Nat} {t u : Term} {a : Addr} (hu : u.eval args first o idx s = some (.ref a)) (h : (Jvm.Cond.eq t u).value args first o s idx = some true) : t.eval args first o idx s = some (.ref a) := by
  obtain ⟨x, y, h1, h2, h3, -⟩ := cmp_v (Or.inl h)
  cases hu.symm.trans h2
  cases x <;> simp [Cond.value, h1, hu] at h ⊢
  · exact h
theorem ef_law (i1 : Int32) (i2 : Int32) (i3 : Int32) (i4 : Int32) (i5 : Int32) (i6 : Int32) (m : MethodId) : entryFrame m #[(.int i1), (.int i2), (.int i3), (.int i4), (.int i5), (.int i6)] maxLocals = mkF m 0 #[.val (.int i1), .val (.int i2), .val (.int i3), .val (.int i4), .val (.int i5), .val (.int i6), .unset, .unset, .unset, .unset, .unset, .unset, .unset, .unset, .unset, .unset, .unset, .unset, .unset] [] := by first | (simp [entryFrame, mkF, argsToLocals, Value.category, maxLocals]; done) | rfl
set_option maxRecDepth 65536 in
set_option maxHeartbeats 40000000 in
theorem comes_1 {Post : Tables → Env → Array Value → State → Outcome → State → Prop} (hpost : ∀ tb e args s v u, (limb_1_1.after args s (.returned v) u = true ∧ limb_1_2.after args s (.returned v) u = true ∧ True) → Jvm.Pilot.@@N@@.Jvm.D.FramedW s (.returned v) u (Jvm.fieldLocs frame_1_writes args s ++ Jvm.arrayLocs frame_1_arrays args s ++ Jvm.staticLocs frame_1_statics s) 48 4288 → Post tb e args s (.returned v) u) :
    Jvm.Pilot.@@N@@.Jvm.D.ArmFor flags0 classFile x code maxLocals ret World_1 tables_1 room_1 Calls_1 rest_1 Pre_1 Post := by
  intro l hfl _ _ p e ha hc hk s m args below hf hA hF happ hP
  obtain ⟨hcalls, hrest, hpre⟩ := hP
  obtain ⟨-, -, -, hnamed, -, -, -, hat⟩ := (Spec.applies_iff hf).mp happ
  obtain ⟨hg, hn⟩ := and_e (Cond.before_iff.mp (show (Jvm.Cond.and given_1 narrow_1).before args s = true from hpre))
  obtain ⟨hc0, g1⟩ := and_e hg
  obtain ⟨a1, g2⟩ := and_e g1
  obtain ⟨a2, g3⟩ := and_e g2
  obtain ⟨a3, g4⟩ := and_e g3
  obtain ⟨a4, g5⟩ := and_e g4
  obtain ⟨a5, g6⟩ := and_e g5
  obtain ⟨w0, w1, w2, w3, w4, w5, rfl⟩ : ∃ w0 w1 w2 w3 w4 w5 : Value, args = #[w0, w1, w2, w3, w4, w5] := by
    have hs : args.size = 6 := by simpa [Cond.value, given_1] using hc0
    obtain ⟨L⟩ := args
    match L, hs with
    | [w0, w1, w2, w3, w4, w5], _ => exact ⟨w0, w1, w2, w3, w4, w5, rfl⟩
  have hw := fun d (hd : d ∈ tables_1) => atoms_spec (ws := Jvm.Cond.code x code maxLocals ret :: tables_1) hat d (List.mem_cons_of_mem _ hd)
  obtain ⟨hsets, hown0⟩ := atoms_of _ (rest_1_c_eq ▸ (show rest_1_c.before _ s = true from hrest))
  have hfit : Fit s := fun {y c} hc i hi => by
    obtain ⟨ha, rfl⟩ := Array.getElem?_eq_some_iff.mp hc
    have q := List.all_eq_true.mp ((Array.all_eq_true_iff_forall_mem.mp hF) _ (Array.getElem_mem ha)) i (List.mem_range.mpr hi)
    simpa [Array.getElem?_eq_getElem hi] using q
  obtain ⟨i1, u0⟩ := is_v a1
  obtain rfl : w0 = (.int i1) := Option.some.inj u0
  obtain ⟨i2, u1⟩ := is_v a2
  obtain rfl : w1 = (.int i2) := Option.some.inj u1
  obtain ⟨i3, u2⟩ := is_v a3
  obtain rfl : w2 = (.int i3) := Option.some.inj u2
  obtain ⟨i4, u3⟩ := is_v a4
  obtain rfl : w3 = (.int i4) := Option.some.inj u3
  obtain ⟨i5, u4⟩ := is_v a5
  obtain rfl : w4 = (.int i5) := Option.some.inj u4
  obtain ⟨i6, u5⟩ := is_v g6
  obtain rfl : w5 = (.int i6) := Option.some.inj u5
  obtain ⟨zc, ec⟩ := is_v (Cond.before_iff.mp (hsets _ (List.mem_of_getElem? (i := 1) rfl)))
  have Sc : Sta s s.heap "java/lang/String" "COMPACT_STRINGS" "Z" (.int zc) := Sta.start ec (Or.inl (hsets _ (List.mem_of_getElem? (i := 0) rfl)))
  have hcw := hsets _ (List.mem_of_getElem? (i := 2) rfl)
  have hzc : ¬ (zc = (0 : Int32)) := gotF (Cond.eq_ints ec (Term.int_eval (0))) (not_v (Cond.before_iff.mp hcw))
  have hEW : EW s #[(.int i1), (.int i2), (.int i3), (.int i4), (.int i5), (.int i6)] EL1 := (EW.cons (hw _ (List.mem_of_getElem? (i := 18) rfl)) (by decide) (EW.cons (hw _ (List.mem_of_getElem? (i := 198) rfl)) (by decide) (EW.cons (hw _ (List.mem_of_getElem? (i := 121) rfl)) (by decide) (EW.cons (hw _ (List.mem_of_getElem? (i := 93) rfl)) (by decide) EW.nil))))
  have ha0 := Cond.before_iff.mp (hsets _ (List.mem_of_getElem? (i := 11) rfl))
  obtain ⟨es, ea⟩ := exa_v ha0
  have Ae : Exa s s.heap es "java/util/ImmutableCollections$SetN" := Exa.start ea ha0
  have Se : Sta s s.heap "java/util/ImmutableCollections" "EMPTY_SET" "Ljava/util/ImmutableCollections$SetN;" (.ref es) := Sta.start ea (Or.inl (hsets _ (List.mem_of_getElem? (i := 10) rfl)))
  obtain ⟨n1, n2⟩ := and_e hn
  obtain ⟨n3, n4⟩ := and_e n2
  obtain ⟨n5, n6⟩ := and_e n4
  obtain ⟨sys, eb⟩ := exa_v n1
  have As : Exa s s.heap sys "pentrewick/api/UserContext" := Exa.start eb n1
  have Ss : Sta s s.heap "pentrewick/api/UserContext" "SYSTEM" "Lpentrewick/api/UserContext;" (.ref sys) := Sta.start eb (Or.inr ⟨hw _ (List.mem_of_getElem? (i := 43) rfl), hw _ (List.mem_of_getElem? (i := 115) rfl)⟩)
  have Fs0 := Fld.start ((fld_at eb).symm.trans (null_v n3))
  have Fs2 := Fld.start ((fld_at eb).symm.trans (eqref ea n5))
  have Fs3 := Fld.start ((fld_at eb).symm.trans (eqint n6))
  have G : Env1 s #[(.int i1), (.int i2), (.int i3), (.int i4), (.int i5), (.int i6)] := ⟨hw, hEW, ⟨zc, Sc, hzc⟩, ⟨es, sys, Se, Ae, Ss, As, Fs0, Fs2, Fs3⟩⟩
  have hH : CHv s EL1 s.vm s.heap := CHv.start hEW (fun p hp => hcalls.1 p hp) hcw (hw _ (List.mem_of_getElem? (i := 19) rfl)) (hw _ (List.mem_of_getElem? (i := 6) rfl))
  have ct : Ct l s EL1 [] tables_1 x code maxLocals ret room_1 #[(.int i1), (.int i2), (.int i3), (.int i4), (.int i5), (.int i6)] s.heap (fun v h => v = some (.int 1)) := Ct.of_seg (a0 := #[(.int i1), (.int i2), (.int i3), (.int i4), (.int i5), (.int i6)]) (plainFor_of_name pn_pentrewick_api_UserContextHandlingPinLaw) G.2.1 (ef_law i1 i2 i3 i4 i5 i6) (sg0 G i1 i2 i3 i4 i5 i6 s.heap)
  obtain ⟨n, o, h1, h2, h3, v, L, rfl, ⟨N, -, rfl⟩, -, hq⟩ := ct p e ha hc hk s m _ below hf ((Spec.applies_iff_loose hf).mp happ).1 ⟨rfl, State.Warmed39.refl s, rfl, hH, (fun x q => nomatch q), ext_rfl _⟩ trivial
  refine ⟨n, _, h1, h2, h3, hpost _ _ _ _ _ _ ⟨Cond.after_iff.mpr rfl, Cond.after_iff.mpr (eq_i res_at (Term.int_eval (1)) rfl), trivial⟩ ?_⟩
  exact ⟨hq.1, hq.2.1, hq.2.2.1, (hq.2.2.2.sift fun y hy => Or.inr (N y hy)).mono (by decide) (by decide)⟩
theorem main_1_1 : Claimed_1_1 := comes_1 fun _ _ _ _ _ _ h hF => ⟨h.1, hF⟩
theorem main_1_2 : Claimed_1_2 := comes_1 fun _ _ _ _ _ _ h hF => ⟨h.2.1, hF⟩
end Jvm.Pilot.@@N@@
namespace Jvm.Pilot.@@N@@
open Jvm Jvm.ClassFile Sem Op Lib Jvm.Free Jvm.Stand Jvm.Pilot.@@N@@.Jvm.D
/-! MADE BY PROGRAM (witnessworld.py) out of the Statement's table words and the real class files: 31 classes; the members and pool entries that the words name. The judged class is class 1, her method 4. -/
namespace start1
open Jvm.ClassFile
def u (s : String) : CpInfo := .utf8 (stringToUtf16 s)
/-- a pool by its gaps: so many unusable entries, then the entry; so many at the end -/
def gap : Nat → List CpInfo → List CpInfo
  | 0, r => r
  | n + 1, r => .unusable :: gap n r
def poolList (es : List (Nat × CpInfo)) (last : Nat) : List CpInfo := es.foldr (fun e r => gap e.1 (e.2 :: r)) (gap last [])
def pool (es : List (Nat × CpInfo)) (last : Nat) : Array CpInfo := ⟨poolList es last⟩
def fileOf (pool : Array CpInfo) (this : Nat) (attrs : Array Attribute := #[]) (ms : Array MethodInfo := #[]) (fl : Nat := 33) (sup : Nat := 0) (ifs : Array Nat := #[]) (fds : Array FieldInfo := #[]) : ClassFile where
  minorVersion := 0
  majorVersion := 65
  constantPool := pool
  accessFlags := fl
  thisClass := this
  superClass := sup
  interfaces := ifs
  fields := fds
  methods := ms
  attributes := attrs
def plain (name : String) (sup : Option ClassId) : Class where
  name := name
  kind := .ordinary
  loader := none
  accessFlags := 33
  super := sup
  interfaces := #[]
  cf := none
  fields := #[]
  methods := #[]
  instanceTypes := #[]
  staticTypes := #[]
  resolved := #[]
  callSites := []
  init := .initialized
  statics := none
  mirror := none

def pool0 : Array CpInfo := pool [(5, u "<init>"), (0, u "()V"), (1, .class_ 10), (1, u "java/lang/Object")] 113

def k0c0 : Code := { maxStack := 0, maxLocals := 1, code := object_method_1_code, exceptionTable := #[], attributes := #[] }
def k0m0 : Method := { name := "<init>", desc := "()V", sig := { parameters := [], returnType := none }, accessFlags := 1, code := some k0c0 }
/-- java/lang/Object -/
def k0 : Class := { plain "java/lang/Object" none with
  accessFlags := 33
  interfaces := #[]
  cf := some (fileOf pool0 8 #[] #[{ accessFlags := 1, nameIndex := 5, descriptorIndex := 6, attributes := #[] }] 33 0 #[] #[])
  fields := #[]
  methods := #[k0m0]
  instanceTypes := #[]
  staticTypes := #[]
  resolved := Array.replicate 124 none
  statics := none }

def pool1 : Array CpInfo := pool [(2, .class_ 4), (1, u "java/lang/Object"), (0, u "<init>"), (0, u "()V"), (0, .class_ 8), (0, u "java/lang/String"), (0, .methodref 7 10), (0, .nameAndType 5 11), (0, u "([C)V"), (0, .methodref 7 13), (0, .nameAndType 14 15), (0, u "equals"), (0, u "(Ljava/lang/Object;)Z"), (0, .methodref 17 18), (0, .class_ 19), (0, .nameAndType 20 21), (0, u "pentrewick/api/UserContextHandlingPinLaw"), (0, u "str"), (0, u "(III)Ljava/lang/String;"), (0, .methodref 7 23), (0, .nameAndType 24 25), (0, u "valueOf"), (0, u "(C)Ljava/lang/String;"), (0, .methodref 27 28), (0, .class_ 29), (0, .nameAndType 30 31), (0, u "pentrewick/api/UserContext"), (0, u "handling"), (0, u "(Ljava/lang/String;Ljava/lang/String;)Lpentrewick/api/UserContext;"), (0, .methodref 27 33), (0, .nameAndType 34 35), (0, u "userId"), (0, u "()Ljava/lang/String;"), (0, .methodref 17 37), (0, .nameAndType 38 39), (0, u "same"), (0, u "(Ljava/lang/String;Ljava/lang/String;)Z"), (0, .methodref 27 41), (0, .nameAndType 42 35), (0, u "tenant"), (0, .methodref 27 44), (0, .nameAndType 45 46), (0, u "privileged"), (0, u "()Z"), (0, .methodref 27 48), (0, .nameAndType 49 50), (0, u "hasRole"), (0, u "(Ljava/lang/String;)Z"), (0, .methodref 17 52), (0, .nameAndType 53 54), (0, u "valid"), (0, u "(III)Z"), (0, .methodref 27 56), (0, .nameAndType 57 58), (0, u "system"), (0, u "()Lpentrewick/api/UserContext;"), (0, .methodref 27 60), (0, .nameAndType 61 62), (0, u "of"), (0, u "(Ljava/lang/String;)Lpentrewick/api/UserContext;"), (0, .methodref 27 64), (0, .nameAndType 65 62), (0, u "withTenant"), (0, .methodref 27 67), (0, .nameAndType 68 58), (0, u "asPrivileged"), (0, .methodref 27 13), (5, u "law"), (0, u "(IIIIII)Z")] 2

def k1m0 : Method := { name := "<init>", desc := "()V", sig := { parameters := [], returnType := none }, accessFlags := 1, code := none }
def k1c1 : Code := { maxStack := 5, maxLocals := 6, code := method_2_code, exceptionTable := #[], attributes := #[] }
def k1m1 : Method := { name := "str", desc := "(III)Ljava/lang/String;", sig := { parameters := [.int, .int, .int], returnType := some (.object "java/lang/String") }, accessFlags := 10, code := some k1c1 }
def k1c2 : Code := { maxStack := 2, maxLocals := 3, code := method_3_code, exceptionTable := #[], attributes := #[] }
def k1m2 : Method := { name := "valid", desc := "(III)Z", sig := { parameters := [.int, .int, .int], returnType := some .boolean }, accessFlags := 10, code := some k1c2 }
def k1c3 : Code := { maxStack := 2, maxLocals := 2, code := method_4_code, exceptionTable := #[], attributes := #[] }
def k1m3 : Method := { name := "same", desc := "(Ljava/lang/String;Ljava/lang/String;)Z", sig := { parameters := [(.object "java/lang/String"), (.object "java/lang/String")], returnType := some .boolean }, accessFlags := 10, code := some k1c3 }
def k1c4 : Code := { maxStack := 3, maxLocals := 19, code := code, exceptionTable := #[], attributes := #[] }
def k1m4 : Method := { name := "law", desc := "(IIIIII)Z", sig := { parameters := [.int, .int, .int, .int, .int, .int], returnType := some .boolean }, accessFlags := 9, code := some k1c4 }
/-- pentrewick/api/UserContextHandlingPinLaw -/
def k1 : Class := { plain "pentrewick/api/UserContextHandlingPinLaw" (some 0) with
  accessFlags := 49
  interfaces := #[]
  cf := some (fileOf pool1 17 #[] #[{ accessFlags := 1, nameIndex := 5, descriptorIndex := 6, attributes := #[] }, { accessFlags := 10, nameIndex := 20, descriptorIndex := 21, attributes := #[] }, { accessFlags := 10, nameIndex := 53, descriptorIndex := 54, attributes := #[] }, { accessFlags := 10, nameIndex := 38, descriptorIndex := 39, attributes := #[] }, { accessFlags := 9, nameIndex := 75, descriptorIndex := 76, attributes := #[] }] 49 2 #[] #[])
  fields := #[]
  methods := #[k1m0, k1m1, k1m2, k1m3, k1m4]
  instanceTypes := #[]
  staticTypes := #[]
  resolved := Array.replicate 79 none
  statics := none }

def pool2 : Array CpInfo := pool [(1, .class_ 2), (0, u "java/io/Serializable"), (0, .class_ 4), (0, u "java/lang/Object")] 2

/-- java/io/Serializable -/
def k2 : Class := { plain "java/io/Serializable" (some 0) with
  accessFlags := 1537
  interfaces := #[]
  cf := some (fileOf pool2 1 #[] #[] 1537 3 #[] #[])
  fields := #[]
  methods := #[]
  instanceTypes := #[]
  staticTypes := #[]
  resolved := Array.replicate 7 none
  statics := none }

def pool3 : Array CpInfo := pool [(1, .class_ 2), (0, u "java/lang/Comparable"), (0, .class_ 4), (0, u "java/lang/Object")] 7

/-- java/lang/Comparable -/
def k3 : Class := { plain "java/lang/Comparable" (some 0) with
  accessFlags := 1537
  interfaces := #[]
  cf := some (fileOf pool3 1 #[] #[] 1537 3 #[] #[])
  fields := #[]
  methods := #[]
  instanceTypes := #[]
  staticTypes := #[]
  resolved := Array.replicate 12 none
  statics := none }

def pool4 : Array CpInfo := pool [(2, .class_ 4), (1, u "java/lang/CharSequence"), (42, .class_ 48), (0, u "java/lang/CharSequence$1CodePointIterator"), (10, .class_ 60), (0, u "java/lang/CharSequence$1CharIterator"), (5, .class_ 67), (0, u "java/lang/Object")] 63

/-- java/lang/CharSequence -/
def k4 : Class := { plain "java/lang/CharSequence" (some 0) with
  accessFlags := 1537
  interfaces := #[]
  cf := some (fileOf pool4 2 #[.nestMembers #[47, 59]] #[] 1537 66 #[] #[])
  fields := #[]
  methods := #[]
  instanceTypes := #[]
  staticTypes := #[]
  resolved := Array.replicate 131 none
  statics := none }

def pool5 : Array CpInfo := pool [(1, .class_ 2), (0, u "java/lang/constant/Constable"), (0, .class_ 4), (0, u "java/lang/Object")] 6

/-- java/lang/constant/Constable -/
def k5 : Class := { plain "java/lang/constant/Constable" (some 0) with
  accessFlags := 1537
  interfaces := #[]
  cf := some (fileOf pool5 1 #[] #[] 1537 3 #[] #[])
  fields := #[]
  methods := #[]
  instanceTypes := #[]
  staticTypes := #[]
  resolved := Array.replicate 11 none
  statics := none }

def pool6 : Array CpInfo := pool [(1, .class_ 2), (0, u "java/lang/constant/ConstantDesc"), (0, .class_ 4), (0, u "java/lang/Object")] 32

/-- java/lang/constant/ConstantDesc -/
def k6 : Class := { plain "java/lang/constant/ConstantDesc" (some 0) with
  accessFlags := 1537
  interfaces := #[]
  cf := some (fileOf pool6 1 #[] #[] 1537 3 #[] #[])
  fields := #[]
  methods := #[]
  instanceTypes := #[]
  staticTypes := #[]
  resolved := Array.replicate 37 none
  statics := none }

def pool7 : Array CpInfo := pool [(1, .methodref 2 3), (0, .class_ 4), (0, .nameAndType 5 6), (0, u "java/lang/Object"), (0, u "<init>"), (0, u "()V"), (0, .string 8), (0, u ""), (0, .fieldref 10 11), (0, .class_ 12), (0, .nameAndType 13 14), (0, u "java/lang/String"), (0, u "value"), (0, u "[B"), (0, .fieldref 10 16), (0, .nameAndType 17 18), (0, u "coder"), (0, u "B"), (2, u "hash"), (0, u "I"), (2, u "hashIsZero"), (0, u "Z"), (0, .methodref 10 28), (0, .nameAndType 5 29), (0, u "([CIILjava/lang/Void;)V"), (8, .fieldref 10 39), (0, .nameAndType 40 26), (0, u "COMPACT_STRINGS"), (1, .class_ 44), (1, u "java/lang/StringUTF16"), (0, u "compress"), (1, .methodref 42 48), (0, .nameAndType 49 50), (0, u "coderFromArrayLen"), (0, u "([BI)B"), (2, u "toBytes"), (53, .class_ 109), (1, u "java/lang/StringLatin1"), (32, u "()Z"), (34, .methodref 42 178), (0, .nameAndType 45 179), (0, u "([CII)[B"), (29, .methodref 10 210), (0, .nameAndType 5 211), (0, u "([BB)V"), (122, u "()I"), (0, .methodref 10 336), (0, .nameAndType 17 337), (0, u "()B"), (31, u "(C)Z"), (122, .methodref 10 493), (0, .nameAndType 494 142), (0, u "isLatin1"), (10, .methodref 10 506), (0, .nameAndType 507 334), (0, u "length"), (35, u "equals"), (29, u "(Ljava/lang/Object;)Z"), (1, .class_ 576), (0, u "java/lang/CharSequence"), (22, u "CASE_INSENSITIVE_ORDER"), (0, u "Ljava/util/Comparator;"), (32, .methodref 10 634), (0, .nameAndType 635 636), (0, u "indexOf"), (0, u "(II)I"), (0, .methodref 107 638), (0, .nameAndType 635 639), (0, u "([BIII)I"), (52, u "isEmpty"), (72, u "(I)I"), (16, u "valueOf"), (0, u "(C)Ljava/lang/String;"), (226, u "([C)V"), (4, .methodref 107 1016), (0, .nameAndType 1017 369), (0, u "canEncode"), (0, .methodref 107 1019), (0, .nameAndType 53 1020), (0, u "(C)[B"), (80, u "serialPersistentFields"), (0, u "[Ljava/io/ObjectStreamField;"), (0, .class_ 1104), (0, u "java/lang/String$CaseInsensitiveComparator"), (1, .class_ 1107), (0, u "java/io/Serializable"), (0, .class_ 1109), (0, u "java/lang/Comparable"), (0, .class_ 1111), (0, u "java/lang/constant/Constable"), (0, .class_ 1113), (0, u "java/lang/constant/ConstantDesc"), (2, u "serialVersionUID"), (0, u "J"), (3, u "REPL"), (0, u "C"), (2, u "LATIN1"), (1, u "UTF16")] 323

def k7m0 : Method := { name := "<init>", desc := "()V", sig := { parameters := [], returnType := none }, accessFlags := 1, code := none }
def k7c1 : Code := { maxStack := 5, maxLocals := 2, code := jdk_42_method_3_code, exceptionTable := #[], attributes := #[] }
def k7m1 : Method := { name := "<init>", desc := "([C)V", sig := { parameters := [(.array .char)], returnType := none }, accessFlags := 1, code := some k7c1 }
def k7c2 : Code := { maxStack := 2, maxLocals := 1, code := jdk_42_method_54_code, exceptionTable := #[], attributes := #[] }
def k7m2 : Method := { name := "length", desc := "()I", sig := { parameters := [], returnType := some .int }, accessFlags := 1, code := some k7c2 }
def k7c3 : Code := { maxStack := 1, maxLocals := 1, code := jdk_42_method_55_code, exceptionTable := #[], attributes := #[] }
def k7m3 : Method := { name := "isEmpty", desc := "()Z", sig := { parameters := [], returnType := some .boolean }, accessFlags := 1, code := some k7c3 }
def k7c4 : Code := { maxStack := 2, maxLocals := 3, code := jdk_42_method_66_code, exceptionTable := #[], attributes := #[] }
def k7m4 : Method := { name := "equals", desc := "(Ljava/lang/Object;)Z", sig := { parameters := [(.object "java/lang/Object")], returnType := some .boolean }, accessFlags := 1, code := some k7c4 }
def k7c5 : Code := { maxStack := 3, maxLocals := 2, code := jdk_42_method_79_code, exceptionTable := #[], attributes := #[] }
def k7m5 : Method := { name := "indexOf", desc := "(I)I", sig := { parameters := [.int], returnType := some .int }, accessFlags := 1, code := some k7c5 }
def k7c6 : Code := { maxStack := 4, maxLocals := 3, code := jdk_42_method_80_code, exceptionTable := #[], attributes := #[] }
def k7m6 : Method := { name := "indexOf", desc := "(II)I", sig := { parameters := [.int, .int], returnType := some .int }, accessFlags := 1, code := some k7c6 }
def k7c7 : Code := { maxStack := 4, maxLocals := 1, code := jdk_42_method_139_code, exceptionTable := #[], attributes := #[] }
def k7m7 : Method := { name := "valueOf", desc := "(C)Ljava/lang/String;", sig := { parameters := [.char], returnType := some (.object "java/lang/String") }, accessFlags := 9, code := some k7c7 }
def k7c8 : Code := { maxStack := 4, maxLocals := 6, code := jdk_42_method_149_code, exceptionTable := #[], attributes := #[] }
def k7m8 : Method := { name := "<init>", desc := "([CIILjava/lang/Void;)V", sig := { parameters := [(.array .char), .int, .int, (.object "java/lang/Void")], returnType := none }, accessFlags := 2, code := some k7c8 }
def k7c9 : Code := { maxStack := 2, maxLocals := 3, code := jdk_42_method_151_code, exceptionTable := #[], attributes := #[] }
def k7m9 : Method := { name := "<init>", desc := "([BB)V", sig := { parameters := [(.array .byte), .byte], returnType := none }, accessFlags := 0, code := some k7c9 }
def k7c10 : Code := { maxStack := 1, maxLocals := 1, code := jdk_42_method_152_code, exceptionTable := #[], attributes := #[] }
def k7m10 : Method := { name := "coder", desc := "()B", sig := { parameters := [], returnType := some .byte }, accessFlags := 0, code := some k7c10 }
def k7c11 : Code := { maxStack := 1, maxLocals := 1, code := jdk_42_method_154_code, exceptionTable := #[], attributes := #[] }
def k7m11 : Method := { name := "isLatin1", desc := "()Z", sig := { parameters := [], returnType := some .boolean }, accessFlags := 0, code := some k7c11 }
/-- java/lang/String -/
def k7 : Class := { plain "java/lang/String" (some 0) with
  accessFlags := 49
  interfaces := #[2, 3, 4, 5, 6]
  cf := some (fileOf pool7 10 #[.nestMembers #[1103]] #[{ accessFlags := 1, nameIndex := 5, descriptorIndex := 6, attributes := #[] }, { accessFlags := 1, nameIndex := 5, descriptorIndex := 1010, attributes := #[] }, { accessFlags := 1, nameIndex := 507, descriptorIndex := 334, attributes := #[] }, { accessFlags := 1, nameIndex := 692, descriptorIndex := 142, attributes := #[] }, { accessFlags := 1, nameIndex := 543, descriptorIndex := 573, attributes := #[] }, { accessFlags := 1, nameIndex := 635, descriptorIndex := 765, attributes := #[] }, { accessFlags := 1, nameIndex := 635, descriptorIndex := 636, attributes := #[] }, { accessFlags := 9, nameIndex := 782, descriptorIndex := 783, attributes := #[] }, { accessFlags := 2, nameIndex := 5, descriptorIndex := 29, attributes := #[] }, { accessFlags := 0, nameIndex := 5, descriptorIndex := 211, attributes := #[] }, { accessFlags := 0, nameIndex := 17, descriptorIndex := 337, attributes := #[] }, { accessFlags := 0, nameIndex := 494, descriptorIndex := 142, attributes := #[] }] 49 2 #[1106, 1108, 575, 1110, 1112] #[{ accessFlags := 18, nameIndex := 13, descriptorIndex := 14, attributes := #[] }, { accessFlags := 18, nameIndex := 17, descriptorIndex := 18, attributes := #[] }, { accessFlags := 2, nameIndex := 21, descriptorIndex := 22, attributes := #[] }, { accessFlags := 2, nameIndex := 25, descriptorIndex := 26, attributes := #[] }, { accessFlags := 26, nameIndex := 1116, descriptorIndex := 1117, attributes := #[] }, { accessFlags := 24, nameIndex := 40, descriptorIndex := 26, attributes := #[] }, { accessFlags := 26, nameIndex := 1101, descriptorIndex := 1102, attributes := #[] }, { accessFlags := 26, nameIndex := 1121, descriptorIndex := 1122, attributes := #[] }, { accessFlags := 25, nameIndex := 599, descriptorIndex := 600, attributes := #[] }, { accessFlags := 24, nameIndex := 1125, descriptorIndex := 18, attributes := #[] }, { accessFlags := 24, nameIndex := 1127, descriptorIndex := 18, attributes := #[] }])
  fields := #[{ name := "value", type := (.array .byte), accessFlags := 18, slot := 0, constantValue := 0 }, { name := "coder", type := .byte, accessFlags := 18, slot := 1, constantValue := 0 }, { name := "hash", type := .int, accessFlags := 2, slot := 2, constantValue := 0 }, { name := "hashIsZero", type := .boolean, accessFlags := 2, slot := 3, constantValue := 0 }, { name := "serialVersionUID", type := .long, accessFlags := 26, slot := 0, constantValue := 0 }, { name := "COMPACT_STRINGS", type := .boolean, accessFlags := 24, slot := 1, constantValue := 0 }, { name := "serialPersistentFields", type := (.array (.object "java/io/ObjectStreamField")), accessFlags := 26, slot := 2, constantValue := 0 }, { name := "REPL", type := .char, accessFlags := 26, slot := 3, constantValue := 0 }, { name := "CASE_INSENSITIVE_ORDER", type := (.object "java/util/Comparator"), accessFlags := 25, slot := 4, constantValue := 0 }, { name := "LATIN1", type := .byte, accessFlags := 24, slot := 5, constantValue := 0 }, { name := "UTF16", type := .byte, accessFlags := 24, slot := 6, constantValue := 0 }]
  methods := #[k7m0, k7m1, k7m2, k7m3, k7m4, k7m5, k7m6, k7m7, k7m8, k7m9, k7m10, k7m11]
  instanceTypes := #[(.array .byte), .byte, .int, .boolean]
  staticTypes := #[.long, .boolean, (.array (.object "java/io/ObjectStreamField")), .char, (.object "java/util/Comparator"), .byte, .byte]
  resolved := Array.replicate 1451 none
  statics := some 0 }

def pool8 : Array CpInfo := pool [(4, .class_ 6), (1, u "java/lang/Object"), (0, u "<init>"), (0, u "()V"), (5, .class_ 16), (1, u "java/lang/StringLatin1"), (21, .methodref 39 40), (0, .class_ 41), (0, .nameAndType 42 43), (0, u "java/lang/Math"), (0, u "min"), (0, u "(II)I"), (44, .methodref 14 89), (0, .nameAndType 90 91), (0, u "canEncode"), (0, u "(I)Z"), (0, .methodref 39 93), (0, .nameAndType 94 43), (0, u "max"), (0, .methodref 14 96), (0, .nameAndType 97 98), (0, u "indexOfChar"), (0, u "([BIII)I"), (2, u "indexOf"), (3, u "(C)Z"), (15, u "$assertionsDisabled"), (0, u "Z"), (98, .class_ 223), (1, u "java/lang/StringLatin1$LinesSpliterator"), (156, u "toBytes"), (1, u "(C)[B"), (7, .class_ 391), (0, u "java/lang/StringLatin1$CharsSpliterator")] 3

def k8m0 : Method := { name := "<init>", desc := "()V", sig := { parameters := [], returnType := none }, accessFlags := 0, code := none }
def k8c1 : Code := { maxStack := 2, maxLocals := 1, code := jdk_43_method_3_code, exceptionTable := #[], attributes := #[] }
def k8m1 : Method := { name := "canEncode", desc := "(C)Z", sig := { parameters := [.char], returnType := some .boolean }, accessFlags := 9, code := some k8c1 }
def k8c2 : Code := { maxStack := 2, maxLocals := 1, code := jdk_43_method_4_code, exceptionTable := #[], attributes := #[] }
def k8m2 : Method := { name := "canEncode", desc := "(I)Z", sig := { parameters := [.int], returnType := some .boolean }, accessFlags := 9, code := some k8c2 }
def k8c3 : Code := { maxStack := 4, maxLocals := 4, code := jdk_43_method_22_code, exceptionTable := #[], attributes := #[] }
def k8m3 : Method := { name := "indexOf", desc := "([BIII)I", sig := { parameters := [(.array .byte), .int, .int, .int], returnType := some .int }, accessFlags := 9, code := some k8c3 }
def k8c4 : Code := { maxStack := 2, maxLocals := 6, code := jdk_43_method_23_code, exceptionTable := #[], attributes := #[] }
def k8m4 : Method := { name := "indexOfChar", desc := "([BIII)I", sig := { parameters := [(.array .byte), .int, .int, .int], returnType := some .int }, accessFlags := 10, code := some k8c4 }
def k8c5 : Code := { maxStack := 4, maxLocals := 1, code := jdk_43_method_46_code, exceptionTable := #[], attributes := #[] }
def k8m5 : Method := { name := "toBytes", desc := "(C)[B", sig := { parameters := [.char], returnType := some (.array .byte) }, accessFlags := 9, code := some k8c5 }
/-- java/lang/StringLatin1 -/
def k8 : Class := { plain "java/lang/StringLatin1" (some 0) with
  accessFlags := 48
  interfaces := #[]
  cf := some (fileOf pool8 14 #[.nestMembers #[390, 221]] #[{ accessFlags := 0, nameIndex := 7, descriptorIndex := 8, attributes := #[] }, { accessFlags := 9, nameIndex := 90, descriptorIndex := 105, attributes := #[] }, { accessFlags := 9, nameIndex := 90, descriptorIndex := 91, attributes := #[] }, { accessFlags := 9, nameIndex := 101, descriptorIndex := 98, attributes := #[] }, { accessFlags := 10, nameIndex := 97, descriptorIndex := 98, attributes := #[] }, { accessFlags := 9, nameIndex := 380, descriptorIndex := 382, attributes := #[] }] 48 4 #[] #[{ accessFlags := 4120, nameIndex := 121, descriptorIndex := 122, attributes := #[] }])
  fields := #[{ name := "$assertionsDisabled", type := .boolean, accessFlags := 4120, slot := 0, constantValue := 0 }]
  methods := #[k8m0, k8m1, k8m2, k8m3, k8m4, k8m5]
  instanceTypes := #[]
  staticTypes := #[.boolean]
  resolved := Array.replicate 395 none
  statics := none }

def pool9 : Array CpInfo := pool [(1, .methodref 2 3), (0, .class_ 4), (0, .nameAndType 5 6), (0, u "java/lang/Object"), (0, u "<init>"), (0, u "()V"), (0, .fieldref 8 9), (0, .class_ 10), (0, .nameAndType 11 12), (0, u "pentrewick/api/UserContext"), (0, u "m_userId"), (0, u "Ljava/lang/String;"), (0, .fieldref 8 14), (0, .nameAndType 15 12), (0, u "m_tenant"), (0, .fieldref 8 17), (0, .nameAndType 18 19), (0, u "m_roles"), (0, u "Ljava/util/Set;"), (0, .fieldref 8 21), (0, .nameAndType 22 23), (0, u "m_privileged"), (0, u "Z"), (2, u "CURRENT"), (0, u "Ljava/lang/ThreadLocal;"), (6, .fieldref 8 35), (0, .nameAndType 36 37), (0, u "SYSTEM"), (0, u "Lpentrewick/api/UserContext;"), (0, .string 39), (0, u "user id"), (0, .methodref 8 41), (0, .nameAndType 42 43), (0, u "requireId"), (0, u "(Ljava/lang/String;Ljava/lang/String;)Ljava/lang/String;"), (0, .interfaceMethodref 45 46), (0, .class_ 47), (0, .nameAndType 48 49), (0, u "java/util/Set"), (0, u "of"), (0, u "()Ljava/util/Set;"), (0, .methodref 8 51), (0, .nameAndType 5 52), (0, u "(Ljava/lang/String;Ljava/lang/String;Ljava/util/Set;Z)V"), (0, .string 54), (0, u "tenant id"), (10, .string 66), (0, u "role"), (0, .methodref 68 69), (0, .class_ 70), (0, .nameAndType 71 72), (0, u "java/util/Objects"), (0, u "requireNonNull"), (0, u "(Ljava/lang/Object;Ljava/lang/String;)Ljava/lang/Object;"), (3, u "(Ljava/lang/Object;)Z"), (11, .class_ 90), (1, u "pentrewick/api/UserContext$Work"), (4, .methodref 68 96), (0, .nameAndType 97 98), (0, u "equals"), (0, u "(Ljava/lang/Object;Ljava/lang/Object;)Z"), (0, .interfaceMethodref 45 100), (0, .nameAndType 97 76), (18, .class_ 121), (1, u "java/lang/String"), (5, .methodref 119 128), (0, .nameAndType 129 130), (0, u "isEmpty"), (0, u "()Z"), (8, .methodref 119 140), (0, .nameAndType 141 142), (0, u "indexOf"), (0, u "(I)I"), (9, u "()Lpentrewick/api/UserContext;"), (1, u "system"), (0, u "(Ljava/lang/String;)Lpentrewick/api/UserContext;"), (0, u "withTenant"), (2, u "asPrivileged"), (0, u "userId"), (0, u "()Ljava/lang/String;"), (0, u "tenant"), (2, u "privileged"), (0, u "hasRole"), (0, u "(Ljava/lang/String;)Z"), (9, u "handling"), (0, u "(Ljava/lang/String;Ljava/lang/String;)Lpentrewick/api/UserContext;")] 27

def k9c0 : Code := { maxStack := 2, maxLocals := 5, code := prog_4_method_1_code, exceptionTable := #[], attributes := #[] }
def k9m0 : Method := { name := "<init>", desc := "(Ljava/lang/String;Ljava/lang/String;Ljava/util/Set;Z)V", sig := { parameters := [(.object "java/lang/String"), (.object "java/lang/String"), (.object "java/util/Set"), .boolean], returnType := none }, accessFlags := 2, code := some k9c0 }
def k9c1 : Code := { maxStack := 1, maxLocals := 0, code := prog_4_method_3_code, exceptionTable := #[], attributes := #[] }
def k9m1 : Method := { name := "system", desc := "()Lpentrewick/api/UserContext;", sig := { parameters := [], returnType := some (.object "pentrewick/api/UserContext") }, accessFlags := 9, code := some k9c1 }
def k9c2 : Code := { maxStack := 6, maxLocals := 1, code := prog_4_method_4_code, exceptionTable := #[], attributes := #[] }
def k9m2 : Method := { name := "of", desc := "(Ljava/lang/String;)Lpentrewick/api/UserContext;", sig := { parameters := [(.object "java/lang/String")], returnType := some (.object "pentrewick/api/UserContext") }, accessFlags := 9, code := some k9c2 }
def k9c3 : Code := { maxStack := 6, maxLocals := 2, code := prog_4_method_5_code, exceptionTable := #[], attributes := #[] }
def k9m3 : Method := { name := "withTenant", desc := "(Ljava/lang/String;)Lpentrewick/api/UserContext;", sig := { parameters := [(.object "java/lang/String")], returnType := some (.object "pentrewick/api/UserContext") }, accessFlags := 1, code := some k9c3 }
def k9c4 : Code := { maxStack := 6, maxLocals := 1, code := prog_4_method_7_code, exceptionTable := #[], attributes := #[] }
def k9m4 : Method := { name := "asPrivileged", desc := "()Lpentrewick/api/UserContext;", sig := { parameters := [], returnType := some (.object "pentrewick/api/UserContext") }, accessFlags := 1, code := some k9c4 }
def k9c5 : Code := { maxStack := 1, maxLocals := 1, code := prog_4_method_8_code, exceptionTable := #[], attributes := #[] }
def k9m5 : Method := { name := "userId", desc := "()Ljava/lang/String;", sig := { parameters := [], returnType := some (.object "java/lang/String") }, accessFlags := 1, code := some k9c5 }
def k9c6 : Code := { maxStack := 1, maxLocals := 1, code := prog_4_method_9_code, exceptionTable := #[], attributes := #[] }
def k9m6 : Method := { name := "tenant", desc := "()Ljava/lang/String;", sig := { parameters := [], returnType := some (.object "java/lang/String") }, accessFlags := 1, code := some k9c6 }
def k9c7 : Code := { maxStack := 1, maxLocals := 1, code := prog_4_method_11_code, exceptionTable := #[], attributes := #[] }
def k9m7 : Method := { name := "privileged", desc := "()Z", sig := { parameters := [], returnType := some .boolean }, accessFlags := 1, code := some k9c7 }
def k9c8 : Code := { maxStack := 2, maxLocals := 2, code := prog_4_method_12_code, exceptionTable := #[], attributes := #[] }
def k9m8 : Method := { name := "hasRole", desc := "(Ljava/lang/String;)Z", sig := { parameters := [(.object "java/lang/String")], returnType := some .boolean }, accessFlags := 1, code := some k9c8 }
def k9c9 : Code := { maxStack := 6, maxLocals := 2, code := prog_4_method_15_code, exceptionTable := #[], attributes := #[] }
def k9m9 : Method := { name := "handling", desc := "(Ljava/lang/String;Ljava/lang/String;)Lpentrewick/api/UserContext;", sig := { parameters := [(.object "java/lang/String"), (.object "java/lang/String")], returnType := some (.object "pentrewick/api/UserContext") }, accessFlags := 8, code := some k9c9 }
def k9c10 : Code := { maxStack := 2, maxLocals := 3, code := prog_4_method_16_code, exceptionTable := #[], attributes := #[] }
def k9m10 : Method := { name := "equals", desc := "(Ljava/lang/Object;)Z", sig := { parameters := [(.object "java/lang/Object")], returnType := some .boolean }, accessFlags := 1, code := some k9c10 }
def k9c11 : Code := { maxStack := 3, maxLocals := 2, code := prog_4_method_19_code, exceptionTable := #[], attributes := #[] }
def k9m11 : Method := { name := "requireId", desc := "(Ljava/lang/String;Ljava/lang/String;)Ljava/lang/String;", sig := { parameters := [(.object "java/lang/String"), (.object "java/lang/String")], returnType := some (.object "java/lang/String") }, accessFlags := 10, code := some k9c11 }
/-- pentrewick/api/UserContext -/
def k9 : Class := { plain "pentrewick/api/UserContext" (some 0) with
  accessFlags := 49
  interfaces := #[]
  cf := some (fileOf pool9 8 #[.nestMembers #[88]] #[{ accessFlags := 2, nameIndex := 5, descriptorIndex := 52, attributes := #[] }, { accessFlags := 9, nameIndex := 154, descriptorIndex := 152, attributes := #[] }, { accessFlags := 9, nameIndex := 48, descriptorIndex := 155, attributes := #[] }, { accessFlags := 1, nameIndex := 156, descriptorIndex := 155, attributes := #[] }, { accessFlags := 1, nameIndex := 159, descriptorIndex := 152, attributes := #[] }, { accessFlags := 1, nameIndex := 160, descriptorIndex := 161, attributes := #[] }, { accessFlags := 1, nameIndex := 162, descriptorIndex := 161, attributes := #[] }, { accessFlags := 1, nameIndex := 165, descriptorIndex := 130, attributes := #[] }, { accessFlags := 1, nameIndex := 166, descriptorIndex := 167, attributes := #[] }, { accessFlags := 8, nameIndex := 177, descriptorIndex := 178, attributes := #[] }, { accessFlags := 1, nameIndex := 97, descriptorIndex := 76, attributes := #[] }, { accessFlags := 10, nameIndex := 42, descriptorIndex := 43, attributes := #[] }] 49 2 #[] #[{ accessFlags := 26, nameIndex := 36, descriptorIndex := 37, attributes := #[] }, { accessFlags := 26, nameIndex := 26, descriptorIndex := 27, attributes := #[] }, { accessFlags := 18, nameIndex := 11, descriptorIndex := 12, attributes := #[] }, { accessFlags := 18, nameIndex := 15, descriptorIndex := 12, attributes := #[] }, { accessFlags := 18, nameIndex := 18, descriptorIndex := 19, attributes := #[] }, { accessFlags := 18, nameIndex := 22, descriptorIndex := 23, attributes := #[] }])
  fields := #[{ name := "SYSTEM", type := (.object "pentrewick/api/UserContext"), accessFlags := 26, slot := 0, constantValue := 0 }, { name := "CURRENT", type := (.object "java/lang/ThreadLocal"), accessFlags := 26, slot := 1, constantValue := 0 }, { name := "m_userId", type := (.object "java/lang/String"), accessFlags := 18, slot := 0, constantValue := 0 }, { name := "m_tenant", type := (.object "java/lang/String"), accessFlags := 18, slot := 1, constantValue := 0 }, { name := "m_roles", type := (.object "java/util/Set"), accessFlags := 18, slot := 2, constantValue := 0 }, { name := "m_privileged", type := .boolean, accessFlags := 18, slot := 3, constantValue := 0 }]
  methods := #[k9m0, k9m1, k9m2, k9m3, k9m4, k9m5, k9m6, k9m7, k9m8, k9m9, k9m10, k9m11]
  instanceTypes := #[(.object "java/lang/String"), (.object "java/lang/String"), (.object "java/util/Set"), .boolean]
  staticTypes := #[(.object "pentrewick/api/UserContext"), (.object "java/lang/ThreadLocal")]
  resolved := Array.replicate 206 none
  statics := some 1 }

def pool10 : Array CpInfo := pool [(8, .class_ 10), (1, u "java/lang/Iterable"), (24, .class_ 36), (0, u "java/lang/Object")] 25

/-- java/lang/Iterable -/
def k10 : Class := { plain "java/lang/Iterable" (some 0) with
  accessFlags := 1537
  interfaces := #[]
  cf := some (fileOf pool10 8 #[] #[] 1537 35 #[] #[])
  fields := #[]
  methods := #[]
  instanceTypes := #[]
  staticTypes := #[]
  resolved := Array.replicate 62 none
  statics := none }

def pool11 : Array CpInfo := pool [(10, .class_ 12), (1, u "java/util/Collection"), (47, .class_ 61), (0, u "java/lang/Object"), (0, .class_ 63), (0, u "java/lang/Iterable")] 51

/-- java/util/Collection -/
def k11 : Class := { plain "java/util/Collection" (some 0) with
  accessFlags := 1537
  interfaces := #[10]
  cf := some (fileOf pool11 10 #[] #[] 1537 60 #[62] #[])
  fields := #[]
  methods := #[]
  instanceTypes := #[]
  staticTypes := #[]
  resolved := Array.replicate 115 none
  statics := none }

def pool12 : Array CpInfo := pool [(9, .fieldref 10 11), (0, .class_ 12), (0, .nameAndType 13 14), (0, u "java/util/ImmutableCollections"), (0, u "EMPTY_SET"), (0, u "Ljava/util/ImmutableCollections$SetN;"), (11, .class_ 27), (0, u "java/lang/Object"), (5, .class_ 34), (0, u "java/util/Set"), (1, .class_ 38), (1, u "java/util/Collection"), (4, u "of"), (0, u "()Ljava/util/Set;"), (15, u "(Ljava/lang/Object;)Z"), (18, u "equals")] 64

def k12m0 : Method := { name := "equals", desc := "(Ljava/lang/Object;)Z", sig := { parameters := [(.object "java/lang/Object")], returnType := some .boolean }, accessFlags := 1025, code := none }
def k12c1 : Code := { maxStack := 1, maxLocals := 0, code := jdk_96_method_17_code, exceptionTable := #[], attributes := #[] }
def k12m1 : Method := { name := "of", desc := "()Ljava/util/Set;", sig := { parameters := [], returnType := some (.object "java/util/Set") }, accessFlags := 9, code := some k12c1 }
/-- java/util/Set -/
def k12 : Class := { plain "java/util/Set" (some 0) with
  accessFlags := 1537
  interfaces := #[11]
  cf := some (fileOf pool12 33 #[] #[{ accessFlags := 1025, nameIndex := 79, descriptorIndex := 60, attributes := #[] }, { accessFlags := 9, nameIndex := 43, descriptorIndex := 44, attributes := #[] }] 1537 26 #[36] #[])
  fields := #[]
  methods := #[k12m0, k12m1]
  instanceTypes := #[]
  staticTypes := #[]
  resolved := Array.replicate 144 none
  statics := none }

def pool13 : Array CpInfo := pool [(2, .class_ 4), (1, u "java/lang/Object"), (0, u "<init>"), (0, u "()V"), (3, .class_ 11), (0, u "java/util/ImmutableCollections$List12"), (0, .class_ 13), (0, u "java/util/ImmutableCollections$ListN"), (3, u "Z"), (29, .class_ 49), (1, u "java/util/ImmutableCollections"), (0, u "$assertionsDisabled"), (5, u "[Ljava/lang/Object;"), (5, u "EMPTY_LIST"), (0, u "Ljava/util/ImmutableCollections$ListN;"), (8, u "EMPTY_LIST_NULLS"), (22, u "SALT32L"), (0, u "J"), (2, u "REVERSE"), (6, u "archivedObjects"), (2, u "EMPTY"), (0, u "Ljava/lang/Object;"), (0, .class_ 112), (0, u "java/util/ImmutableCollections$SetN"), (5, u "EMPTY_SET"), (0, u "Ljava/util/ImmutableCollections$SetN;"), (0, .class_ 121), (0, u "java/util/ImmutableCollections$MapN"), (3, u "EMPTY_MAP"), (0, u "Ljava/util/ImmutableCollections$MapN;"), (4, u "EXPAND_FACTOR"), (0, u "I"), (36, .class_ 170), (0, u "java/util/ImmutableCollections$MapN$MapNIterator"), (0, .class_ 172), (0, u "java/util/ImmutableCollections$MapN$1"), (0, .class_ 174), (0, u "java/util/ImmutableCollections$Map1"), (0, .class_ 176), (0, u "java/util/ImmutableCollections$AbstractImmutableMap"), (0, .class_ 178), (0, u "java/util/ImmutableCollections$SetN$SetNIterator"), (0, .class_ 180), (0, u "java/util/ImmutableCollections$Set12"), (0, .class_ 182), (0, u "java/util/ImmutableCollections$Set12$1"), (0, .class_ 184), (0, u "java/util/ImmutableCollections$AbstractImmutableSet"), (0, .class_ 186), (0, u "java/util/ImmutableCollections$SubList"), (0, .class_ 188), (0, u "java/util/ImmutableCollections$ListItr"), (0, .class_ 190), (0, u "java/util/ImmutableCollections$AbstractImmutableList"), (0, .class_ 192), (0, u "java/util/ImmutableCollections$AbstractImmutableCollection"), (0, .class_ 194), (0, u "java/util/ImmutableCollections$Access"), (0, .class_ 196), (0, u "java/util/ImmutableCollections$Access$1")] 16

def k13m0 : Method := { name := "<init>", desc := "()V", sig := { parameters := [], returnType := none }, accessFlags := 2, code := none }
/-- java/util/ImmutableCollections -/
def k13 : Class := { plain "java/util/ImmutableCollections" (some 0) with
  accessFlags := 32
  interfaces := #[]
  cf := some (fileOf pool13 47 #[.nestMembers #[120, 169, 171, 173, 175, 111, 177, 179, 181, 183, 12, 10, 185, 187, 189, 191, 193, 195]] #[{ accessFlags := 2, nameIndex := 5, descriptorIndex := 6, attributes := #[] }] 32 2 #[] #[{ accessFlags := 26, nameIndex := 95, descriptorIndex := 96, attributes := #[] }, { accessFlags := 26, nameIndex := 99, descriptorIndex := 17, attributes := #[] }, { accessFlags := 10, nameIndex := 106, descriptorIndex := 56, attributes := #[] }, { accessFlags := 26, nameIndex := 109, descriptorIndex := 110, attributes := #[] }, { accessFlags := 24, nameIndex := 62, descriptorIndex := 63, attributes := #[] }, { accessFlags := 24, nameIndex := 72, descriptorIndex := 63, attributes := #[] }, { accessFlags := 24, nameIndex := 118, descriptorIndex := 119, attributes := #[] }, { accessFlags := 24, nameIndex := 125, descriptorIndex := 126, attributes := #[] }, { accessFlags := 24, nameIndex := 131, descriptorIndex := 132, attributes := #[] }, { accessFlags := 4120, nameIndex := 50, descriptorIndex := 17, attributes := #[] }])
  fields := #[{ name := "SALT32L", type := .long, accessFlags := 26, slot := 0, constantValue := 0 }, { name := "REVERSE", type := .boolean, accessFlags := 26, slot := 1, constantValue := 0 }, { name := "archivedObjects", type := (.array (.object "java/lang/Object")), accessFlags := 10, slot := 2, constantValue := 0 }, { name := "EMPTY", type := (.object "java/lang/Object"), accessFlags := 26, slot := 3, constantValue := 0 }, { name := "EMPTY_LIST", type := (.object "java/util/ImmutableCollections$ListN"), accessFlags := 24, slot := 4, constantValue := 0 }, { name := "EMPTY_LIST_NULLS", type := (.object "java/util/ImmutableCollections$ListN"), accessFlags := 24, slot := 5, constantValue := 0 }, { name := "EMPTY_SET", type := (.object "java/util/ImmutableCollections$SetN"), accessFlags := 24, slot := 6, constantValue := 0 }, { name := "EMPTY_MAP", type := (.object "java/util/ImmutableCollections$MapN"), accessFlags := 24, slot := 7, constantValue := 0 }, { name := "EXPAND_FACTOR", type := .int, accessFlags := 24, slot := 8, constantValue := 0 }, { name := "$assertionsDisabled", type := .boolean, accessFlags := 4120, slot := 9, constantValue := 0 }]
  methods := #[k13m0]
  instanceTypes := #[]
  staticTypes := #[.long, .boolean, (.array (.object "java/lang/Object")), (.object "java/lang/Object"), (.object "java/util/ImmutableCollections$ListN"), (.object "java/util/ImmutableCollections$ListN"), (.object "java/util/ImmutableCollections$SetN"), (.object "java/util/ImmutableCollections$MapN"), .int, .boolean]
  resolved := Array.replicate 213 none
  statics := some 2 }

def pool14 : Array CpInfo := pool [(2, .class_ 4), (1, u "java/lang/Object"), (0, u "<init>"), (0, u "()V"), (9, u "equals"), (6, u "(Ljava/lang/Object;Ljava/lang/Object;)Z"), (18, .class_ 44), (1, u "java/util/Objects"), (0, u "requireNonNull"), (48, u "(Ljava/lang/Object;Ljava/lang/String;)Ljava/lang/Object;")] 89

def k14m0 : Method := { name := "<init>", desc := "()V", sig := { parameters := [], returnType := none }, accessFlags := 2, code := none }
def k14c1 : Code := { maxStack := 2, maxLocals := 2, code := jdk_31_method_2_code, exceptionTable := #[], attributes := #[] }
def k14m1 : Method := { name := "equals", desc := "(Ljava/lang/Object;Ljava/lang/Object;)Z", sig := { parameters := [(.object "java/lang/Object"), (.object "java/lang/Object")], returnType := some .boolean }, accessFlags := 9, code := some k14c1 }
def k14c2 : Code := { maxStack := 3, maxLocals := 2, code := jdk_31_method_11_code, exceptionTable := #[], attributes := #[] }
def k14m2 : Method := { name := "requireNonNull", desc := "(Ljava/lang/Object;Ljava/lang/String;)Ljava/lang/Object;", sig := { parameters := [(.object "java/lang/Object"), (.object "java/lang/String")], returnType := some (.object "java/lang/Object") }, accessFlags := 9, code := some k14c2 }
/-- java/util/Objects -/
def k14 : Class := { plain "java/util/Objects" (some 0) with
  accessFlags := 49
  interfaces := #[]
  cf := some (fileOf pool14 42 #[] #[{ accessFlags := 2, nameIndex := 5, descriptorIndex := 6, attributes := #[] }, { accessFlags := 9, nameIndex := 16, descriptorIndex := 23, attributes := #[] }, { accessFlags := 9, nameIndex := 45, descriptorIndex := 94, attributes := #[] }] 49 2 #[] #[])
  fields := #[]
  methods := #[k14m0, k14m1, k14m2]
  instanceTypes := #[]
  staticTypes := #[]
  resolved := Array.replicate 184 none
  statics := none }

def pool15 : Array CpInfo := pool [(6, .class_ 8), (1, u "java/lang/Object"), (0, u "<init>"), (0, u "()V"), (1, .class_ 14), (1, u "java/lang/StringUTF16"), (31, u "$assertionsDisabled"), (0, u "Z"), (13, u "HI_BYTE_SHIFT"), (0, u "I"), (2, u "LO_BYTE_SHIFT"), (49, .methodref 12 116), (0, .nameAndType 117 118), (0, u "compress"), (0, u "([CI[BII)I"), (3, u "([CII)[B"), (138, u "coderFromArrayLen"), (0, u "([BI)B"), (106, .class_ 371), (1, u "java/lang/StringUTF16$LinesSpliterator"), (58, u "MAX_LENGTH"), (196, .class_ 628), (0, u "java/lang/StringUTF16$CodePointsSpliterator"), (0, .class_ 630), (0, u "java/lang/StringUTF16$CharsSpliterator")] 4

def k15m0 : Method := { name := "<init>", desc := "()V", sig := { parameters := [], returnType := none }, accessFlags := 0, code := none }
def k15c1 : Code := { maxStack := 2, maxLocals := 2, code := jdk_52_method_15_code, exceptionTable := #[], attributes := #[] }
def k15m1 : Method := { name := "coderFromArrayLen", desc := "([BI)B", sig := { parameters := [(.array .byte), .int], returnType := some .byte }, accessFlags := 8, code := some k15c1 }
def k15c2 : Code := { maxStack := 5, maxLocals := 6, code := jdk_52_method_16_code, exceptionTable := #[], attributes := #[] }
def k15m2 : Method := { name := "compress", desc := "([CII)[B", sig := { parameters := [(.array .char), .int, .int], returnType := some (.array .byte) }, accessFlags := 9, code := some k15c2 }
def k15c3 : Code := { maxStack := 3, maxLocals := 7, code := jdk_52_method_21_code, exceptionTable := #[], attributes := #[] }
def k15m3 : Method := { name := "compress", desc := "([CI[BII)I", sig := { parameters := [(.array .char), .int, (.array .byte), .int, .int], returnType := some .int }, accessFlags := 9, code := some k15c3 }
/-- java/lang/StringUTF16 -/
def k15 : Class := { plain "java/lang/StringUTF16" (some 0) with
  accessFlags := 48
  interfaces := #[]
  cf := some (fileOf pool15 12 #[.nestMembers #[627, 629, 369]] #[{ accessFlags := 0, nameIndex := 9, descriptorIndex := 10, attributes := #[] }, { accessFlags := 8, nameIndex := 261, descriptorIndex := 262, attributes := #[] }, { accessFlags := 9, nameIndex := 117, descriptorIndex := 122, attributes := #[] }, { accessFlags := 9, nameIndex := 117, descriptorIndex := 118, attributes := #[] }] 48 6 #[] #[{ accessFlags := 26, nameIndex := 61, descriptorIndex := 62, attributes := #[] }, { accessFlags := 26, nameIndex := 65, descriptorIndex := 62, attributes := #[] }, { accessFlags := 24, nameIndex := 430, descriptorIndex := 62, attributes := #[] }, { accessFlags := 4120, nameIndex := 46, descriptorIndex := 47, attributes := #[] }])
  fields := #[{ name := "HI_BYTE_SHIFT", type := .int, accessFlags := 26, slot := 0, constantValue := 0 }, { name := "LO_BYTE_SHIFT", type := .int, accessFlags := 26, slot := 1, constantValue := 0 }, { name := "MAX_LENGTH", type := .int, accessFlags := 24, slot := 2, constantValue := 0 }, { name := "$assertionsDisabled", type := .boolean, accessFlags := 4120, slot := 3, constantValue := 0 }]
  methods := #[k15m0, k15m1, k15m2, k15m3]
  instanceTypes := #[]
  staticTypes := #[.int, .int, .int, .boolean]
  resolved := Array.replicate 635 none
  statics := none }

def pool16 : Array CpInfo := pool [(1, .class_ 2), (0, u "java/lang/Math"), (1, .class_ 6), (1, u "java/lang/Object"), (0, u "<init>"), (0, u "()V"), (89, .class_ 100), (1, u "java/lang/Math$RandomNumberGeneratorHolder"), (71, u "negativeZeroFloatBits"), (0, u "J"), (2, u "negativeZeroDoubleBits"), (21, u "max"), (2, u "min"), (43, u "$assertionsDisabled"), (0, u "Z"), (88, u "(II)I"), (2, u "twoToTheDoubleScaleDown"), (0, u "D"), (4, u "twoToTheDoubleScaleUp"), (9, u "E"), (3, u "PI"), (2, u "TAU"), (2, u "DEGREES_TO_RADIANS"), (0, u "RADIANS_TO_DEGREES")] 94

def k16m0 : Method := { name := "<init>", desc := "()V", sig := { parameters := [], returnType := none }, accessFlags := 2, code := none }
def k16c1 : Code := { maxStack := 2, maxLocals := 2, code := jdk_29_method_65_code, exceptionTable := #[], attributes := #[] }
def k16m1 : Method := { name := "max", desc := "(II)I", sig := { parameters := [.int, .int], returnType := some .int }, accessFlags := 9, code := some k16c1 }
def k16c2 : Code := { maxStack := 2, maxLocals := 2, code := jdk_29_method_69_code, exceptionTable := #[], attributes := #[] }
def k16m2 : Method := { name := "min", desc := "(II)I", sig := { parameters := [.int, .int], returnType := some .int }, accessFlags := 9, code := some k16c2 }
/-- java/lang/Math -/
def k16 : Class := { plain "java/lang/Math" (some 0) with
  accessFlags := 49
  interfaces := #[]
  cf := some (fileOf pool16 1 #[.nestMembers #[98]] #[{ accessFlags := 2, nameIndex := 7, descriptorIndex := 8, attributes := #[] }, { accessFlags := 9, nameIndex := 198, descriptorIndex := 335, attributes := #[] }, { accessFlags := 9, nameIndex := 201, descriptorIndex := 335, attributes := #[] }] 49 4 #[] #[{ accessFlags := 25, nameIndex := 354, descriptorIndex := 339, attributes := #[] }, { accessFlags := 25, nameIndex := 358, descriptorIndex := 339, attributes := #[] }, { accessFlags := 25, nameIndex := 361, descriptorIndex := 339, attributes := #[] }, { accessFlags := 26, nameIndex := 364, descriptorIndex := 339, attributes := #[] }, { accessFlags := 26, nameIndex := 365, descriptorIndex := 339, attributes := #[] }, { accessFlags := 26, nameIndex := 172, descriptorIndex := 173, attributes := #[] }, { accessFlags := 26, nameIndex := 176, descriptorIndex := 173, attributes := #[] }, { accessFlags := 8, nameIndex := 344, descriptorIndex := 339, attributes := #[] }, { accessFlags := 8, nameIndex := 338, descriptorIndex := 339, attributes := #[] }, { accessFlags := 4120, nameIndex := 245, descriptorIndex := 246, attributes := #[] }])
  fields := #[{ name := "E", type := .double, accessFlags := 25, slot := 0, constantValue := 0 }, { name := "PI", type := .double, accessFlags := 25, slot := 1, constantValue := 0 }, { name := "TAU", type := .double, accessFlags := 25, slot := 2, constantValue := 0 }, { name := "DEGREES_TO_RADIANS", type := .double, accessFlags := 26, slot := 3, constantValue := 0 }, { name := "RADIANS_TO_DEGREES", type := .double, accessFlags := 26, slot := 4, constantValue := 0 }, { name := "negativeZeroFloatBits", type := .long, accessFlags := 26, slot := 5, constantValue := 0 }, { name := "negativeZeroDoubleBits", type := .long, accessFlags := 26, slot := 6, constantValue := 0 }, { name := "twoToTheDoubleScaleUp", type := .double, accessFlags := 8, slot := 7, constantValue := 0 }, { name := "twoToTheDoubleScaleDown", type := .double, accessFlags := 8, slot := 8, constantValue := 0 }, { name := "$assertionsDisabled", type := .boolean, accessFlags := 4120, slot := 9, constantValue := 0 }]
  methods := #[k16m0, k16m1, k16m2]
  instanceTypes := #[]
  staticTypes := #[.double, .double, .double, .double, .double, .long, .long, .double, .double, .boolean]
  resolved := Array.replicate 460 none
  statics := none }

def pool17 : Array CpInfo := pool [(2, .class_ 4), (1, u "java/lang/Object"), (0, u "<init>"), (0, u "()V"), (1, .class_ 10), (1, u "java/util/AbstractCollection"), (66, .class_ 78), (0, u "java/util/Collection")] 81

def k17m0 : Method := { name := "<init>", desc := "()V", sig := { parameters := [], returnType := none }, accessFlags := 4, code := none }
/-- java/util/AbstractCollection -/
def k17 : Class := { plain "java/util/AbstractCollection" (some 0) with
  accessFlags := 1057
  interfaces := #[11]
  cf := some (fileOf pool17 8 #[] #[{ accessFlags := 4, nameIndex := 5, descriptorIndex := 6, attributes := #[] }] 1057 2 #[77] #[])
  fields := #[]
  methods := #[k17m0]
  instanceTypes := #[]
  staticTypes := #[]
  resolved := Array.replicate 160 none
  statics := none }

def pool18 : Array CpInfo := pool [(2, .class_ 4), (1, u "java/util/AbstractCollection"), (0, u "<init>"), (0, u "()V"), (1, .class_ 10), (1, u "java/util/ImmutableCollections"), (2, .class_ 14), (0, u "java/util/ImmutableCollections$AbstractImmutableCollection")] 41

def k18m0 : Method := { name := "<init>", desc := "()V", sig := { parameters := [], returnType := none }, accessFlags := 0, code := none }
/-- java/util/ImmutableCollections$AbstractImmutableCollection -/
def k18 : Class := { plain "java/util/ImmutableCollections$AbstractImmutableCollection" (some 17) with
  accessFlags := 1056
  interfaces := #[]
  cf := some (fileOf pool18 13 #[.nestHost 8] #[{ accessFlags := 0, nameIndex := 5, descriptorIndex := 6, attributes := #[] }] 1056 2 #[] #[])
  fields := #[]
  methods := #[k18m0]
  instanceTypes := #[]
  staticTypes := #[]
  resolved := Array.replicate 56 none
  statics := none }

def pool19 : Array CpInfo := pool [(2, .class_ 4), (1, u "java/util/ImmutableCollections$AbstractImmutableCollection"), (0, u "<init>"), (0, u "()V"), (0, .class_ 8), (0, u "java/util/Set"), (7, .class_ 17), (0, u "java/util/ImmutableCollections$AbstractImmutableSet"), (17, u "(Ljava/lang/Object;)Z"), (7, u "equals"), (17, .class_ 62), (0, u "java/util/ImmutableCollections")] 3

def k19m0 : Method := { name := "<init>", desc := "()V", sig := { parameters := [], returnType := none }, accessFlags := 0, code := none }
def k19c1 : Code := { maxStack := 2, maxLocals := 5, code := jdk_100_method_2_code, exceptionTable := #[], attributes := #[] }
def k19m1 : Method := { name := "equals", desc := "(Ljava/lang/Object;)Z", sig := { parameters := [(.object "java/lang/Object")], returnType := some .boolean }, accessFlags := 1, code := some k19c1 }
/-- java/util/ImmutableCollections$AbstractImmutableSet -/
def k19 : Class := { plain "java/util/ImmutableCollections$AbstractImmutableSet" (some 18) with
  accessFlags := 1056
  interfaces := #[12]
  cf := some (fileOf pool19 16 #[.nestHost 61] #[{ accessFlags := 0, nameIndex := 5, descriptorIndex := 6, attributes := #[] }, { accessFlags := 1, nameIndex := 43, descriptorIndex := 35, attributes := #[] }] 1056 2 #[7] #[])
  fields := #[]
  methods := #[k19m0, k19m1]
  instanceTypes := #[]
  staticTypes := #[]
  resolved := Array.replicate 66 none
  statics := none }

def pool20 : Array CpInfo := pool [(1, .class_ 2), (0, u "java/util/ImmutableCollections"), (1, .class_ 6), (1, u "java/util/ImmutableCollections$AbstractImmutableSet"), (3, .class_ 12), (1, u "java/util/ImmutableCollections$SetN"), (0, u "size"), (0, u "I"), (4, u "elements"), (0, u "[Ljava/lang/Object;"), (86, .class_ 108), (0, u "java/io/Serializable")] 59

/-- java/util/ImmutableCollections$SetN -/
def k20 : Class := { plain "java/util/ImmutableCollections$SetN" (some 19) with
  accessFlags := 48
  interfaces := #[2]
  cf := some (fileOf pool20 10 #[.nestHost 1] #[] 48 4 #[107] #[{ accessFlags := 16, nameIndex := 19, descriptorIndex := 20, attributes := #[] }, { accessFlags := 16, nameIndex := 13, descriptorIndex := 14, attributes := #[] }])
  fields := #[{ name := "elements", type := (.array (.object "java/lang/Object")), accessFlags := 16, slot := 0, constantValue := 0 }, { name := "size", type := .int, accessFlags := 16, slot := 1, constantValue := 0 }]
  methods := #[]
  instanceTypes := #[(.array (.object "java/lang/Object")), .int]
  staticTypes := #[]
  resolved := Array.replicate 168 none
  statics := none }

def pool21 : Array CpInfo := pool [(2, .class_ 4), (1, u "java/lang/Object"), (0, u "<init>"), (0, u "()V"), (17, .class_ 26), (1, u "jdk/internal/util/Preconditions"), (28, .class_ 56), (0, u "jdk/internal/util/Preconditions$4"), (57, .class_ 115), (0, u "jdk/internal/util/Preconditions$1"), (7, u "SIOOBE_FORMATTER"), (0, u "Ljava/util/function/BiFunction;"), (0, .class_ 126), (0, u "jdk/internal/util/Preconditions$2"), (3, u "AIOOBE_FORMATTER"), (0, .class_ 132), (0, u "jdk/internal/util/Preconditions$3"), (3, u "IOOBE_FORMATTER")] 57

def k21m0 : Method := { name := "<init>", desc := "()V", sig := { parameters := [], returnType := none }, accessFlags := 1, code := none }
/-- jdk/internal/util/Preconditions -/
def k21 : Class := { plain "jdk/internal/util/Preconditions" (some 0) with
  accessFlags := 33
  interfaces := #[]
  cf := some (fileOf pool21 24 #[.nestMembers #[55, 131, 125, 114]] #[{ accessFlags := 1, nameIndex := 5, descriptorIndex := 6, attributes := #[] }] 33 2 #[] #[{ accessFlags := 25, nameIndex := 123, descriptorIndex := 124, attributes := #[] }, { accessFlags := 25, nameIndex := 130, descriptorIndex := 124, attributes := #[] }, { accessFlags := 25, nameIndex := 136, descriptorIndex := 124, attributes := #[] }])
  fields := #[{ name := "SIOOBE_FORMATTER", type := (.object "java/util/function/BiFunction"), accessFlags := 25, slot := 0, constantValue := 0 }, { name := "AIOOBE_FORMATTER", type := (.object "java/util/function/BiFunction"), accessFlags := 25, slot := 1, constantValue := 0 }, { name := "IOOBE_FORMATTER", type := (.object "java/util/function/BiFunction"), accessFlags := 25, slot := 2, constantValue := 0 }]
  methods := #[k21m0]
  instanceTypes := #[]
  staticTypes := #[(.object "java/util/function/BiFunction"), (.object "java/util/function/BiFunction"), (.object "java/util/function/BiFunction")]
  resolved := Array.replicate 194 none
  statics := some 3 }

def pool22 : Array CpInfo := pool [(9, u "<init>"), (6, .class_ 18), (1, u "java/lang/Object"), (0, u "()V"), (1, .class_ 23), (1, u "jdk/internal/util/ArraysSupport"), (0, u "LOG2_ARRAY_LONG_INDEX_SCALE"), (0, u "I"), (2, u "U"), (0, u "Ljdk/internal/misc/Unsafe;"), (8, u "BIG_ENDIAN"), (0, u "Z"), (8, u "LOG2_BYTE_BIT_SIZE"), (4, u "LOG2_ARRAY_INT_INDEX_SCALE"), (54, u "JLA"), (0, u "Ljdk/internal/access/JavaLangAccess;"), (11, u "LOG2_ARRAY_BOOLEAN_INDEX_SCALE"), (9, u "LOG2_ARRAY_BYTE_INDEX_SCALE"), (5, u "LOG2_ARRAY_CHAR_INDEX_SCALE"), (5, u "LOG2_ARRAY_SHORT_INDEX_SCALE"), (18, u "LOG2_ARRAY_FLOAT_INDEX_SCALE"), (24, u "LOG2_ARRAY_DOUBLE_INDEX_SCALE"), (89, u "T_BOOLEAN"), (2, u "T_CHAR"), (1, u "T_FLOAT"), (1, u "T_DOUBLE"), (1, u "T_BYTE"), (1, u "T_SHORT"), (1, u "T_INT"), (1, u "T_LONG"), (1, u "SOFT_MAX_ARRAY_LENGTH")] 83

def k22m0 : Method := { name := "<init>", desc := "()V", sig := { parameters := [], returnType := none }, accessFlags := 2, code := none }
/-- jdk/internal/util/ArraysSupport -/
def k22 : Class := { plain "jdk/internal/util/ArraysSupport" (some 0) with
  accessFlags := 33
  interfaces := #[]
  cf := some (fileOf pool22 21 #[] #[{ accessFlags := 2, nameIndex := 9, descriptorIndex := 19, attributes := #[] }] 33 16 #[] #[{ accessFlags := 24, nameIndex := 28, descriptorIndex := 29, attributes := #[] }, { accessFlags := 26, nameIndex := 38, descriptorIndex := 39, attributes := #[] }, { accessFlags := 25, nameIndex := 121, descriptorIndex := 25, attributes := #[] }, { accessFlags := 25, nameIndex := 131, descriptorIndex := 25, attributes := #[] }, { accessFlags := 25, nameIndex := 137, descriptorIndex := 25, attributes := #[] }, { accessFlags := 25, nameIndex := 143, descriptorIndex := 25, attributes := #[] }, { accessFlags := 25, nameIndex := 53, descriptorIndex := 25, attributes := #[] }, { accessFlags := 25, nameIndex := 24, descriptorIndex := 25, attributes := #[] }, { accessFlags := 25, nameIndex := 162, descriptorIndex := 25, attributes := #[] }, { accessFlags := 25, nameIndex := 187, descriptorIndex := 25, attributes := #[] }, { accessFlags := 26, nameIndex := 48, descriptorIndex := 25, attributes := #[] }, { accessFlags := 25, nameIndex := 277, descriptorIndex := 25, attributes := #[] }, { accessFlags := 25, nameIndex := 280, descriptorIndex := 25, attributes := #[] }, { accessFlags := 25, nameIndex := 282, descriptorIndex := 25, attributes := #[] }, { accessFlags := 25, nameIndex := 284, descriptorIndex := 25, attributes := #[] }, { accessFlags := 25, nameIndex := 286, descriptorIndex := 25, attributes := #[] }, { accessFlags := 25, nameIndex := 288, descriptorIndex := 25, attributes := #[] }, { accessFlags := 25, nameIndex := 290, descriptorIndex := 25, attributes := #[] }, { accessFlags := 25, nameIndex := 292, descriptorIndex := 25, attributes := #[] }, { accessFlags := 26, nameIndex := 108, descriptorIndex := 109, attributes := #[] }, { accessFlags := 25, nameIndex := 294, descriptorIndex := 25, attributes := #[] }])
  fields := #[{ name := "U", type := (.object "jdk/internal/misc/Unsafe"), accessFlags := 24, slot := 0, constantValue := 0 }, { name := "BIG_ENDIAN", type := .boolean, accessFlags := 26, slot := 1, constantValue := 0 }, { name := "LOG2_ARRAY_BOOLEAN_INDEX_SCALE", type := .int, accessFlags := 25, slot := 2, constantValue := 0 }, { name := "LOG2_ARRAY_BYTE_INDEX_SCALE", type := .int, accessFlags := 25, slot := 3, constantValue := 0 }, { name := "LOG2_ARRAY_CHAR_INDEX_SCALE", type := .int, accessFlags := 25, slot := 4, constantValue := 0 }, { name := "LOG2_ARRAY_SHORT_INDEX_SCALE", type := .int, accessFlags := 25, slot := 5, constantValue := 0 }, { name := "LOG2_ARRAY_INT_INDEX_SCALE", type := .int, accessFlags := 25, slot := 6, constantValue := 0 }, { name := "LOG2_ARRAY_LONG_INDEX_SCALE", type := .int, accessFlags := 25, slot := 7, constantValue := 0 }, { name := "LOG2_ARRAY_FLOAT_INDEX_SCALE", type := .int, accessFlags := 25, slot := 8, constantValue := 0 }, { name := "LOG2_ARRAY_DOUBLE_INDEX_SCALE", type := .int, accessFlags := 25, slot := 9, constantValue := 0 }, { name := "LOG2_BYTE_BIT_SIZE", type := .int, accessFlags := 26, slot := 10, constantValue := 0 }, { name := "T_BOOLEAN", type := .int, accessFlags := 25, slot := 11, constantValue := 0 }, { name := "T_CHAR", type := .int, accessFlags := 25, slot := 12, constantValue := 0 }, { name := "T_FLOAT", type := .int, accessFlags := 25, slot := 13, constantValue := 0 }, { name := "T_DOUBLE", type := .int, accessFlags := 25, slot := 14, constantValue := 0 }, { name := "T_BYTE", type := .int, accessFlags := 25, slot := 15, constantValue := 0 }, { name := "T_SHORT", type := .int, accessFlags := 25, slot := 16, constantValue := 0 }, { name := "T_INT", type := .int, accessFlags := 25, slot := 17, constantValue := 0 }, { name := "T_LONG", type := .int, accessFlags := 25, slot := 18, constantValue := 0 }, { name := "JLA", type := (.object "jdk/internal/access/JavaLangAccess"), accessFlags := 26, slot := 19, constantValue := 0 }, { name := "SOFT_MAX_ARRAY_LENGTH", type := .int, accessFlags := 25, slot := 20, constantValue := 0 }]
  methods := #[k22m0]
  instanceTypes := #[]
  staticTypes := #[(.object "jdk/internal/misc/Unsafe"), .boolean, .int, .int, .int, .int, .int, .int, .int, .int, .int, .int, .int, .int, .int, .int, .int, .int, .int, (.object "jdk/internal/access/JavaLangAccess"), .int]
  resolved := Array.replicate 378 none
  statics := none }

def pool23 : Array CpInfo := pool [(1, u "java/lang/Cloneable"), (0, .class_ 1), (0, u "java/lang/Object"), (0, .class_ 3)] 3

/-- java/lang/Cloneable -/
def k23 : Class := { plain "java/lang/Cloneable" (some 0) with
  accessFlags := 1537
  interfaces := #[]
  cf := some (fileOf pool23 2 #[] #[] 1537 4 #[] #[])
  fields := #[]
  methods := #[]
  instanceTypes := #[]
  staticTypes := #[]
  resolved := Array.replicate 8 none
  statics := none }

/-- the primitive byte -/
def k24 : Class := { plain "byte" none with kind := .primitive 'B', accessFlags := 0x411 }
/-- [B -/
def k25 : Class := { plain "[B" (some 0) with kind := .array 24 .byte, interfaces := #[23, 2], accessFlags := 1041 }

/-- the primitive char -/
def k26 : Class := { plain "char" none with kind := .primitive 'C', accessFlags := 0x411 }
/-- [C -/
def k27 : Class := { plain "[C" (some 0) with kind := .array 26 .char, interfaces := #[23, 2], accessFlags := 1041 }

/-- the primitive int -/
def k28 : Class := { plain "int" none with kind := .primitive 'I', accessFlags := 0x411 }
/-- [I -/
def k29 : Class := { plain "[I" (some 0) with kind := .array 28 .int, interfaces := #[23, 2], accessFlags := 1041 }

/-- [Ljava/lang/Object; -/
def k30 : Class := { plain "[Ljava/lang/Object;" (some 0) with kind := .array 0 (.object "java/lang/Object"), interfaces := #[23, 2], accessFlags := 1041 }

def heap : Heap := #[{ cls := 7, slots := #[.long 0, .int 1, .null, .int 0, .null, .int 0, .int 0], vm := .statics 7 },
  { cls := 9, slots := #[.ref 6, .null], vm := .statics 9 },
  { cls := 13, slots := #[.long 0, .int 0, .null, .null, .null, .null, .ref 5, .null, .int 0, .int 0], vm := .statics 13 },
  { cls := 21, slots := #[.null, .null, .null], vm := .statics 21 },
  { cls := 30, slots := #[], vm := .none },
  { cls := 20, slots := #[.ref 4, .int 0], vm := .none },
  { cls := 9, slots := #[.null, .null, .ref 5, .int 0], vm := .none }]
def classes : Array Class := #[k0, k1, k2, k3, k4, k5, k6, k7, k8, k9, k10, k11, k12, k13, k14, k15, k16, k17, k18, k19, k20, k21, k22, k23, k24, k25, k26, k27, k28, k29, k30]
def interned : List (Array UInt16 × Addr) := []
def slotsUsed : Nat := 28
def theMethod : MethodId := ⟨1, 4⟩
def args0 : Array Value := #[.int 5, .int 6, .int 7, .int 8, .int 9, .int 10]
def aboutOver (below : List Frame) : State where
  vm := { classes := classes, interned := interned.toArray }
  heap := heap
  slotsUsed := slotsUsed
  threads := #[{ frames := .invoking theMethod args0 :: below }]
def below0 : List Frame := [.native { method := ⟨0, 0⟩, args := #[] }]
def about1 : State := aboutOver below0
def p0 : Program := .bare "" "" ""
def e0 : Env := launch0.env 0 0 0
theorem w_frames : about1.frames = Frame.invoking theMethod args0 :: below0 := rfl
set_option maxRecDepth 65536 in
theorem w_args : argsFit about1.vm theMethod args0 = true := by decide +kernel
set_option maxRecDepth 65536 in
theorem w_heap : heapFits about1 = true := by decide +kernel
set_option maxRecDepth 65536 in
theorem w_runnable : about1.curStatus? = some .runnable := by decide +kernel
set_option maxRecDepth 65536 in
theorem w_alone : about1.alone = true := by decide +kernel
set_option maxRecDepth 65536 in
theorem w_named : about1.methodNamed? x = some theMethod := by decide +kernel
set_option maxRecDepth 65536 in
theorem w_hears : about1.hears theMethod below0 = true := by decide +kernel
set_option maxRecDepth 65536 in
theorem w_ripe : about1.ripe theMethod args0 below0 = true := by decide +kernel
theorem w_running : about1.status = .running := rfl
set_option maxRecDepth 65536 in
theorem w_room : about1.hasRoom e0.platform room_1 = true :=
  launch0.hasRoom_least _ room_1 (by decide +kernel) (by decide +kernel) (by decide +kernel) (by decide +kernel) (by decide +kernel) (by decide +kernel)
theorem allAtoms_all (ts : List Jvm.Cond) (a : Array Jvm.Value) (st : Jvm.State) : (allAtoms ts).before a st = ts.all (fun c => c.before a st) := by
  induction ts with
  | nil => rfl
  | cons c t ih =>
    show (Jvm.Cond.and c (allAtoms t)).before a st = _
    rw [Jvm.Cond.before_and, ih, List.all_cons]
def words1 : List Jvm.Cond := Jvm.Cond.code x code maxLocals ret :: tables_1
/-- a 'code' word, met by the world's own term for the bytes: nothing is compared byte by byte -/
theorem code_word {y : MethodName} {bytes : ByteArray} {mx : Nat} {rt : Option FieldType} {a : Array Value} {s : State} {m : MethodId} {meth : Method} {c : Code} (h1 : s.methodNamed? y = some m) (h2 : s.vm.method? m = some meth) (h3 : meth.code = some c) (h4 : c.code = bytes)
    (h5 : (c.maxLocals == mx && c.exceptionTable.isEmpty && decide (c.maxStack ≤ mostOperands) && decide (meth.sig.returnType = rt) && !meth.locks && decide (parseMethodDescriptor y.desc = some meth.sig)) = true) : (Jvm.Cond.code y bytes mx rt).before a s = true := by
  simp only [Bool.and_eq_true, beq_iff_eq, Bool.not_eq_true', decide_eq_true_eq] at h5
  obtain ⟨⟨⟨⟨⟨g1, g2⟩, g3⟩, g4⟩, g5⟩, g6⟩ := h5
  simp [Cond.before, Cond.holds, Cond.value, h1, h2, h3, h4, g1, g2, g3, g4, g5, g6]
def isCode : Jvm.Cond → Bool
  | .code _ _ _ _ => true
  | _ => false
theorem all_split {L : List Jvm.Cond} {P : Jvm.Cond → Bool} (h1 : L.all (fun c => isCode c || P c) = true) (h2 : ∀ c ∈ L.filter isCode, P c = true) : L.all P = true := by
  refine List.all_eq_true.mpr fun c hc => ?_
  have h := List.all_eq_true.mp h1 c hc
  rcases Bool.eq_false_or_eq_true (isCode c) with hi | hi
  · exact h2 c (List.mem_filter.mpr ⟨hc, hi⟩)
  · simpa [hi] using h
set_option maxRecDepth 65536 in
theorem w_c0 : (Jvm.Cond.code x code maxLocals ret).before args0 about1 = true := code_word (m := ⟨1, 4⟩) (meth := k1m4) (c := k1c4) (by decide +kernel) rfl rfl rfl (by decide +kernel)
set_option maxRecDepth 65536 in
theorem w_c1 : (Jvm.Cond.code ({ cls := "pentrewick/api/UserContextHandlingPinLaw", name := "str", desc := "(III)Ljava/lang/String;" } : Jvm.MethodName) method_2_code (6 : Nat) (Option.some (Jvm.ClassFile.FieldType.object "java/lang/String"))).before args0 about1 = true := code_word (m := ⟨1, 1⟩) (meth := k1m1) (c := k1c1) (by decide +kernel) rfl rfl rfl (by decide +kernel)
set_option maxRecDepth 65536 in
theorem w_c2 : (Jvm.Cond.code ({ cls := "java/lang/String", name := "<init>", desc := "([C)V" } : Jvm.MethodName) jdk_42_method_3_code (2 : Nat) (Option.none : Option Jvm.ClassFile.FieldType)).before args0 about1 = true := code_word (m := ⟨7, 1⟩) (meth := k7m1) (c := k7c1) (by decide +kernel) rfl rfl rfl (by decide +kernel)
set_option maxRecDepth 65536 in
theorem w_c3 : (Jvm.Cond.code ({ cls := "java/lang/String", name := "<init>", desc := "([CIILjava/lang/Void;)V" } : Jvm.MethodName) jdk_42_method_149_code (6 : Nat) (Option.none : Option Jvm.ClassFile.FieldType)).before args0 about1 = true := code_word (m := ⟨7, 8⟩) (meth := k7m8) (c := k7c8) (by decide +kernel) rfl rfl rfl (by decide +kernel)
set_option maxRecDepth 65536 in
theorem w_c4 : (Jvm.Cond.code ({ cls := "java/lang/Object", name := "<init>", desc := "()V" } : Jvm.MethodName) object_method_1_code (1 : Nat) (Option.none : Option Jvm.ClassFile.FieldType)).before args0 about1 = true := code_word (m := ⟨0, 0⟩) (meth := k0m0) (c := k0c0) (by decide +kernel) rfl rfl rfl (by decide +kernel)
set_option maxRecDepth 65536 in
theorem w_c5 : (Jvm.Cond.code ({ cls := "java/lang/String", name := "valueOf", desc := "(C)Ljava/lang/String;" } : Jvm.MethodName) jdk_42_method_139_code (1 : Nat) (Option.some (Jvm.ClassFile.FieldType.object "java/lang/String"))).before args0 about1 = true := code_word (m := ⟨7, 7⟩) (meth := k7m7) (c := k7c7) (by decide +kernel) rfl rfl rfl (by decide +kernel)
set_option maxRecDepth 65536 in
theorem w_c6 : (Jvm.Cond.code ({ cls := "java/lang/StringLatin1", name := "canEncode", desc := "(C)Z" } : Jvm.MethodName) jdk_43_method_3_code (1 : Nat) (Option.some Jvm.ClassFile.FieldType.boolean)).before args0 about1 = true := code_word (m := ⟨8, 1⟩) (meth := k8m1) (c := k8c1) (by decide +kernel) rfl rfl rfl (by decide +kernel)
set_option maxRecDepth 65536 in
theorem w_c7 : (Jvm.Cond.code ({ cls := "java/lang/StringLatin1", name := "toBytes", desc := "(C)[B" } : Jvm.MethodName) jdk_43_method_46_code (1 : Nat) (Option.some (Jvm.ClassFile.FieldType.array Jvm.ClassFile.FieldType.byte))).before args0 about1 = true := code_word (m := ⟨8, 5⟩) (meth := k8m5) (c := k8c5) (by decide +kernel) rfl rfl rfl (by decide +kernel)
set_option maxRecDepth 65536 in
theorem w_c8 : (Jvm.Cond.code ({ cls := "java/lang/String", name := "<init>", desc := "([BB)V" } : Jvm.MethodName) jdk_42_method_151_code (3 : Nat) (Option.none : Option Jvm.ClassFile.FieldType)).before args0 about1 = true := code_word (m := ⟨7, 9⟩) (meth := k7m9) (c := k7c9) (by decide +kernel) rfl rfl rfl (by decide +kernel)
set_option maxRecDepth 65536 in
theorem w_c9 : (Jvm.Cond.code ({ cls := "pentrewick/api/UserContext", name := "handling", desc := "(Ljava/lang/String;Ljava/lang/String;)Lpentrewick/api/UserContext;" } : Jvm.MethodName) prog_4_method_15_code (2 : Nat) (Option.some (Jvm.ClassFile.FieldType.object "pentrewick/api/UserContext"))).before args0 about1 = true := code_word (m := ⟨9, 9⟩) (meth := k9m9) (c := k9c9) (by decide +kernel) rfl rfl rfl (by decide +kernel)
set_option maxRecDepth 65536 in
theorem w_c10 : (Jvm.Cond.code ({ cls := "java/util/Set", name := "of", desc := "()Ljava/util/Set;" } : Jvm.MethodName) jdk_96_method_17_code (0 : Nat) (Option.some (Jvm.ClassFile.FieldType.object "java/util/Set"))).before args0 about1 = true := code_word (m := ⟨12, 1⟩) (meth := k12m1) (c := k12c1) (by decide +kernel) rfl rfl rfl (by decide +kernel)
set_option maxRecDepth 65536 in
theorem w_c11 : (Jvm.Cond.code ({ cls := "pentrewick/api/UserContext", name := "<init>", desc := "(Ljava/lang/String;Ljava/lang/String;Ljava/util/Set;Z)V" } : Jvm.MethodName) prog_4_method_1_code (5 : Nat) (Option.none : Option Jvm.ClassFile.FieldType)).before args0 about1 = true := code_word (m := ⟨9, 0⟩) (meth := k9m0) (c := k9c0) (by decide +kernel) rfl rfl rfl (by decide +kernel)
set_option maxRecDepth 65536 in
theorem w_c12 : (Jvm.Cond.code ({ cls := "pentrewick/api/UserContext", name := "userId", desc := "()Ljava/lang/String;" } : Jvm.MethodName) prog_4_method_8_code (1 : Nat) (Option.some (Jvm.ClassFile.FieldType.object "java/lang/String"))).before args0 about1 = true := code_word (m := ⟨9, 5⟩) (meth := k9m5) (c := k9c5) (by decide +kernel) rfl rfl rfl (by decide +kernel)
set_option maxRecDepth 65536 in
theorem w_c13 : (Jvm.Cond.code ({ cls := "pentrewick/api/UserContextHandlingPinLaw", name := "same", desc := "(Ljava/lang/String;Ljava/lang/String;)Z" } : Jvm.MethodName) method_4_code (2 : Nat) (Option.some Jvm.ClassFile.FieldType.boolean)).before args0 about1 = true := code_word (m := ⟨1, 3⟩) (meth := k1m3) (c := k1c3) (by decide +kernel) rfl rfl rfl (by decide +kernel)
set_option maxRecDepth 65536 in
theorem w_c14 : (Jvm.Cond.code ({ cls := "java/lang/String", name := "equals", desc := "(Ljava/lang/Object;)Z" } : Jvm.MethodName) jdk_42_method_66_code (3 : Nat) (Option.some Jvm.ClassFile.FieldType.boolean)).before args0 about1 = true := code_word (m := ⟨7, 4⟩) (meth := k7m4) (c := k7c4) (by decide +kernel) rfl rfl rfl (by decide +kernel)
set_option maxRecDepth 65536 in
theorem w_c15 : (Jvm.Cond.code ({ cls := "pentrewick/api/UserContext", name := "tenant", desc := "()Ljava/lang/String;" } : Jvm.MethodName) prog_4_method_9_code (1 : Nat) (Option.some (Jvm.ClassFile.FieldType.object "java/lang/String"))).before args0 about1 = true := code_word (m := ⟨9, 6⟩) (meth := k9m6) (c := k9c6) (by decide +kernel) rfl rfl rfl (by decide +kernel)
set_option maxRecDepth 65536 in
theorem w_c16 : (Jvm.Cond.code ({ cls := "pentrewick/api/UserContext", name := "privileged", desc := "()Z" } : Jvm.MethodName) prog_4_method_11_code (1 : Nat) (Option.some Jvm.ClassFile.FieldType.boolean)).before args0 about1 = true := code_word (m := ⟨9, 7⟩) (meth := k9m7) (c := k9c7) (by decide +kernel) rfl rfl rfl (by decide +kernel)
set_option maxRecDepth 65536 in
theorem w_c17 : (Jvm.Cond.code ({ cls := "pentrewick/api/UserContext", name := "hasRole", desc := "(Ljava/lang/String;)Z" } : Jvm.MethodName) prog_4_method_12_code (2 : Nat) (Option.some Jvm.ClassFile.FieldType.boolean)).before args0 about1 = true := code_word (m := ⟨9, 8⟩) (meth := k9m8) (c := k9c8) (by decide +kernel) rfl rfl rfl (by decide +kernel)
set_option maxRecDepth 65536 in
theorem w_c18 : (Jvm.Cond.code ({ cls := "java/util/Objects", name := "requireNonNull", desc := "(Ljava/lang/Object;Ljava/lang/String;)Ljava/lang/Object;" } : Jvm.MethodName) jdk_31_method_11_code (2 : Nat) (Option.some (Jvm.ClassFile.FieldType.object "java/lang/Object"))).before args0 about1 = true := code_word (m := ⟨14, 2⟩) (meth := k14m2) (c := k14c2) (by decide +kernel) rfl rfl rfl (by decide +kernel)
set_option maxRecDepth 65536 in
theorem w_c19 : (Jvm.Cond.code ({ cls := "pentrewick/api/UserContextHandlingPinLaw", name := "valid", desc := "(III)Z" } : Jvm.MethodName) method_3_code (3 : Nat) (Option.some Jvm.ClassFile.FieldType.boolean)).before args0 about1 = true := code_word (m := ⟨1, 2⟩) (meth := k1m2) (c := k1c2) (by decide +kernel) rfl rfl rfl (by decide +kernel)
set_option maxRecDepth 65536 in
theorem w_c20 : (Jvm.Cond.code ({ cls := "java/lang/StringUTF16", name := "compress", desc := "([CII)[B" } : Jvm.MethodName) jdk_52_method_16_code (6 : Nat) (Option.some (Jvm.ClassFile.FieldType.array Jvm.ClassFile.FieldType.byte))).before args0 about1 = true := code_word (m := ⟨15, 2⟩) (meth := k15m2) (c := k15c2) (by decide +kernel) rfl rfl rfl (by decide +kernel)
set_option maxRecDepth 65536 in
theorem w_c21 : (Jvm.Cond.code ({ cls := "java/lang/StringUTF16", name := "compress", desc := "([CI[BII)I" } : Jvm.MethodName) jdk_52_method_21_code (7 : Nat) (Option.some Jvm.ClassFile.FieldType.int)).before args0 about1 = true := code_word (m := ⟨15, 3⟩) (meth := k15m3) (c := k15c3) (by decide +kernel) rfl rfl rfl (by decide +kernel)
set_option maxRecDepth 65536 in
theorem w_c22 : (Jvm.Cond.code ({ cls := "java/lang/StringUTF16", name := "coderFromArrayLen", desc := "([BI)B" } : Jvm.MethodName) jdk_52_method_15_code (2 : Nat) (Option.some Jvm.ClassFile.FieldType.byte)).before args0 about1 = true := code_word (m := ⟨15, 1⟩) (meth := k15m1) (c := k15c1) (by decide +kernel) rfl rfl rfl (by decide +kernel)
set_option maxRecDepth 65536 in
theorem w_c23 : (Jvm.Cond.code ({ cls := "pentrewick/api/UserContext", name := "system", desc := "()Lpentrewick/api/UserContext;" } : Jvm.MethodName) prog_4_method_3_code (0 : Nat) (Option.some (Jvm.ClassFile.FieldType.object "pentrewick/api/UserContext"))).before args0 about1 = true := code_word (m := ⟨9, 1⟩) (meth := k9m1) (c := k9c1) (by decide +kernel) rfl rfl rfl (by decide +kernel)
set_option maxRecDepth 65536 in
theorem w_c24 : (Jvm.Cond.code ({ cls := "pentrewick/api/UserContext", name := "withTenant", desc := "(Ljava/lang/String;)Lpentrewick/api/UserContext;" } : Jvm.MethodName) prog_4_method_5_code (2 : Nat) (Option.some (Jvm.ClassFile.FieldType.object "pentrewick/api/UserContext"))).before args0 about1 = true := code_word (m := ⟨9, 3⟩) (meth := k9m3) (c := k9c3) (by decide +kernel) rfl rfl rfl (by decide +kernel)
set_option maxRecDepth 65536 in
theorem w_c25 : (Jvm.Cond.code ({ cls := "pentrewick/api/UserContext", name := "requireId", desc := "(Ljava/lang/String;Ljava/lang/String;)Ljava/lang/String;" } : Jvm.MethodName) prog_4_method_19_code (2 : Nat) (Option.some (Jvm.ClassFile.FieldType.object "java/lang/String"))).before args0 about1 = true := code_word (m := ⟨9, 11⟩) (meth := k9m11) (c := k9c11) (by decide +kernel) rfl rfl rfl (by decide +kernel)
set_option maxRecDepth 65536 in
theorem w_c26 : (Jvm.Cond.code ({ cls := "java/lang/String", name := "isEmpty", desc := "()Z" } : Jvm.MethodName) jdk_42_method_55_code (1 : Nat) (Option.some Jvm.ClassFile.FieldType.boolean)).before args0 about1 = true := code_word (m := ⟨7, 3⟩) (meth := k7m3) (c := k7c3) (by decide +kernel) rfl rfl rfl (by decide +kernel)
set_option maxRecDepth 65536 in
theorem w_c27 : (Jvm.Cond.code ({ cls := "java/lang/String", name := "indexOf", desc := "(I)I" } : Jvm.MethodName) jdk_42_method_79_code (2 : Nat) (Option.some Jvm.ClassFile.FieldType.int)).before args0 about1 = true := code_word (m := ⟨7, 5⟩) (meth := k7m5) (c := k7c5) (by decide +kernel) rfl rfl rfl (by decide +kernel)
set_option maxRecDepth 65536 in
theorem w_c28 : (Jvm.Cond.code ({ cls := "java/lang/String", name := "indexOf", desc := "(II)I" } : Jvm.MethodName) jdk_42_method_80_code (3 : Nat) (Option.some Jvm.ClassFile.FieldType.int)).before args0 about1 = true := code_word (m := ⟨7, 6⟩) (meth := k7m6) (c := k7c6) (by decide +kernel) rfl rfl rfl (by decide +kernel)
set_option maxRecDepth 65536 in
theorem w_c29 : (Jvm.Cond.code ({ cls := "java/lang/String", name := "isLatin1", desc := "()Z" } : Jvm.MethodName) jdk_42_method_154_code (1 : Nat) (Option.some Jvm.ClassFile.FieldType.boolean)).before args0 about1 = true := code_word (m := ⟨7, 11⟩) (meth := k7m11) (c := k7c11) (by decide +kernel) rfl rfl rfl (by decide +kernel)
set_option maxRecDepth 65536 in
theorem w_c30 : (Jvm.Cond.code ({ cls := "java/lang/String", name := "length", desc := "()I" } : Jvm.MethodName) jdk_42_method_54_code (1 : Nat) (Option.some Jvm.ClassFile.FieldType.int)).before args0 about1 = true := code_word (m := ⟨7, 2⟩) (meth := k7m2) (c := k7c2) (by decide +kernel) rfl rfl rfl (by decide +kernel)
set_option maxRecDepth 65536 in
theorem w_c31 : (Jvm.Cond.code ({ cls := "java/lang/String", name := "coder", desc := "()B" } : Jvm.MethodName) jdk_42_method_152_code (1 : Nat) (Option.some Jvm.ClassFile.FieldType.byte)).before args0 about1 = true := code_word (m := ⟨7, 10⟩) (meth := k7m10) (c := k7c10) (by decide +kernel) rfl rfl rfl (by decide +kernel)
set_option maxRecDepth 65536 in
theorem w_c32 : (Jvm.Cond.code ({ cls := "java/lang/StringLatin1", name := "indexOf", desc := "([BIII)I" } : Jvm.MethodName) jdk_43_method_22_code (4 : Nat) (Option.some Jvm.ClassFile.FieldType.int)).before args0 about1 = true := code_word (m := ⟨8, 3⟩) (meth := k8m3) (c := k8c3) (by decide +kernel) rfl rfl rfl (by decide +kernel)
set_option maxRecDepth 65536 in
theorem w_c33 : (Jvm.Cond.code ({ cls := "java/lang/StringLatin1", name := "canEncode", desc := "(I)Z" } : Jvm.MethodName) jdk_43_method_4_code (1 : Nat) (Option.some Jvm.ClassFile.FieldType.boolean)).before args0 about1 = true := code_word (m := ⟨8, 2⟩) (meth := k8m2) (c := k8c2) (by decide +kernel) rfl rfl rfl (by decide +kernel)
set_option maxRecDepth 65536 in
theorem w_c34 : (Jvm.Cond.code ({ cls := "java/lang/Math", name := "max", desc := "(II)I" } : Jvm.MethodName) jdk_29_method_65_code (2 : Nat) (Option.some Jvm.ClassFile.FieldType.int)).before args0 about1 = true := code_word (m := ⟨16, 1⟩) (meth := k16m1) (c := k16c1) (by decide +kernel) rfl rfl rfl (by decide +kernel)
set_option maxRecDepth 65536 in
theorem w_c35 : (Jvm.Cond.code ({ cls := "java/lang/Math", name := "min", desc := "(II)I" } : Jvm.MethodName) jdk_29_method_69_code (2 : Nat) (Option.some Jvm.ClassFile.FieldType.int)).before args0 about1 = true := code_word (m := ⟨16, 2⟩) (meth := k16m2) (c := k16c2) (by decide +kernel) rfl rfl rfl (by decide +kernel)
set_option maxRecDepth 65536 in
theorem w_c36 : (Jvm.Cond.code ({ cls := "java/lang/StringLatin1", name := "indexOfChar", desc := "([BIII)I" } : Jvm.MethodName) jdk_43_method_23_code (6 : Nat) (Option.some Jvm.ClassFile.FieldType.int)).before args0 about1 = true := code_word (m := ⟨8, 4⟩) (meth := k8m4) (c := k8c4) (by decide +kernel) rfl rfl rfl (by decide +kernel)
set_option maxRecDepth 65536 in
theorem w_c37 : (Jvm.Cond.code ({ cls := "pentrewick/api/UserContext", name := "asPrivileged", desc := "()Lpentrewick/api/UserContext;" } : Jvm.MethodName) prog_4_method_7_code (1 : Nat) (Option.some (Jvm.ClassFile.FieldType.object "pentrewick/api/UserContext"))).before args0 about1 = true := code_word (m := ⟨9, 4⟩) (meth := k9m4) (c := k9c4) (by decide +kernel) rfl rfl rfl (by decide +kernel)
set_option maxRecDepth 65536 in
theorem w_c38 : (Jvm.Cond.code ({ cls := "pentrewick/api/UserContext", name := "equals", desc := "(Ljava/lang/Object;)Z" } : Jvm.MethodName) prog_4_method_16_code (3 : Nat) (Option.some Jvm.ClassFile.FieldType.boolean)).before args0 about1 = true := code_word (m := ⟨9, 10⟩) (meth := k9m10) (c := k9c10) (by decide +kernel) rfl rfl rfl (by decide +kernel)
set_option maxRecDepth 65536 in
theorem w_c39 : (Jvm.Cond.code ({ cls := "java/util/Objects", name := "equals", desc := "(Ljava/lang/Object;Ljava/lang/Object;)Z" } : Jvm.MethodName) jdk_31_method_2_code (2 : Nat) (Option.some Jvm.ClassFile.FieldType.boolean)).before args0 about1 = true := code_word (m := ⟨14, 1⟩) (meth := k14m1) (c := k14c1) (by decide +kernel) rfl rfl rfl (by decide +kernel)
set_option maxRecDepth 65536 in
theorem w_c40 : (Jvm.Cond.code ({ cls := "java/util/ImmutableCollections$AbstractImmutableSet", name := "equals", desc := "(Ljava/lang/Object;)Z" } : Jvm.MethodName) jdk_100_method_2_code (5 : Nat) (Option.some Jvm.ClassFile.FieldType.boolean)).before args0 about1 = true := code_word (m := ⟨19, 1⟩) (meth := k19m1) (c := k19c1) (by decide +kernel) rfl rfl rfl (by decide +kernel)
set_option maxRecDepth 65536 in
theorem w_c41 : (Jvm.Cond.code ({ cls := "pentrewick/api/UserContext", name := "of", desc := "(Ljava/lang/String;)Lpentrewick/api/UserContext;" } : Jvm.MethodName) prog_4_method_4_code (1 : Nat) (Option.some (Jvm.ClassFile.FieldType.object "pentrewick/api/UserContext"))).before args0 about1 = true := code_word (m := ⟨9, 2⟩) (meth := k9m2) (c := k9c2) (by decide +kernel) rfl rfl rfl (by decide +kernel)
def codes1 : List Jvm.Cond := [Jvm.Cond.code x code maxLocals ret, Jvm.Cond.code ({ cls := "pentrewick/api/UserContextHandlingPinLaw", name := "str", desc := "(III)Ljava/lang/String;" } : Jvm.MethodName) method_2_code (6 : Nat) (Option.some (Jvm.ClassFile.FieldType.object "java/lang/String")), Jvm.Cond.code ({ cls := "java/lang/String", name := "<init>", desc := "([C)V" } : Jvm.MethodName) jdk_42_method_3_code (2 : Nat) (Option.none : Option Jvm.ClassFile.FieldType), Jvm.Cond.code ({ cls := "java/lang/String", name := "<init>", desc := "([CIILjava/lang/Void;)V" } : Jvm.MethodName) jdk_42_method_149_code (6 : Nat) (Option.none : Option Jvm.ClassFile.FieldType), Jvm.Cond.code ({ cls := "java/lang/Object", name := "<init>", desc := "()V" } : Jvm.MethodName) object_method_1_code (1 : Nat) (Option.none : Option Jvm.ClassFile.FieldType), Jvm.Cond.code ({ cls := "java/lang/String", name := "valueOf", desc := "(C)Ljava/lang/String;" } : Jvm.MethodName) jdk_42_method_139_code (1 : Nat) (Option.some (Jvm.ClassFile.FieldType.object "java/lang/String")), Jvm.Cond.code ({ cls := "java/lang/StringLatin1", name := "canEncode", desc := "(C)Z" } : Jvm.MethodName) jdk_43_method_3_code (1 : Nat) (Option.some Jvm.ClassFile.FieldType.boolean), Jvm.Cond.code ({ cls := "java/lang/StringLatin1", name := "toBytes", desc := "(C)[B" } : Jvm.MethodName) jdk_43_method_46_code (1 : Nat) (Option.some (Jvm.ClassFile.FieldType.array Jvm.ClassFile.FieldType.byte)), Jvm.Cond.code ({ cls := "java/lang/String", name := "<init>", desc := "([BB)V" } : Jvm.MethodName) jdk_42_method_151_code (3 : Nat) (Option.none : Option Jvm.ClassFile.FieldType), Jvm.Cond.code ({ cls := "pentrewick/api/UserContext", name := "handling", desc := "(Ljava/lang/String;Ljava/lang/String;)Lpentrewick/api/UserContext;" } : Jvm.MethodName) prog_4_method_15_code (2 : Nat) (Option.some (Jvm.ClassFile.FieldType.object "pentrewick/api/UserContext")), Jvm.Cond.code ({ cls := "java/util/Set", name := "of", desc := "()Ljava/util/Set;" } : Jvm.MethodName) jdk_96_method_17_code (0 : Nat) (Option.some (Jvm.ClassFile.FieldType.object "java/util/Set")), Jvm.Cond.code ({ cls := "pentrewick/api/UserContext", name := "<init>", desc := "(Ljava/lang/String;Ljava/lang/String;Ljava/util/Set;Z)V" } : Jvm.MethodName) prog_4_method_1_code (5 : Nat) (Option.none : Option Jvm.ClassFile.FieldType), Jvm.Cond.code ({ cls := "pentrewick/api/UserContext", name := "userId", desc := "()Ljava/lang/String;" } : Jvm.MethodName) prog_4_method_8_code (1 : Nat) (Option.some (Jvm.ClassFile.FieldType.object "java/lang/String")), Jvm.Cond.code ({ cls := "pentrewick/api/UserContextHandlingPinLaw", name := "same", desc := "(Ljava/lang/String;Ljava/lang/String;)Z" } : Jvm.MethodName) method_4_code (2 : Nat) (Option.some Jvm.ClassFile.FieldType.boolean), Jvm.Cond.code ({ cls := "java/lang/String", name := "equals", desc := "(Ljava/lang/Object;)Z" } : Jvm.MethodName) jdk_42_method_66_code (3 : Nat) (Option.some Jvm.ClassFile.FieldType.boolean), Jvm.Cond.code ({ cls := "pentrewick/api/UserContext", name := "tenant", desc := "()Ljava/lang/String;" } : Jvm.MethodName) prog_4_method_9_code (1 : Nat) (Option.some (Jvm.ClassFile.FieldType.object "java/lang/String")), Jvm.Cond.code ({ cls := "pentrewick/api/UserContext", name := "privileged", desc := "()Z" } : Jvm.MethodName) prog_4_method_11_code (1 : Nat) (Option.some Jvm.ClassFile.FieldType.boolean), Jvm.Cond.code ({ cls := "pentrewick/api/UserContext", name := "hasRole", desc := "(Ljava/lang/String;)Z" } : Jvm.MethodName) prog_4_method_12_code (2 : Nat) (Option.some Jvm.ClassFile.FieldType.boolean), Jvm.Cond.code ({ cls := "java/util/Objects", name := "requireNonNull", desc := "(Ljava/lang/Object;Ljava/lang/String;)Ljava/lang/Object;" } : Jvm.MethodName) jdk_31_method_11_code (2 : Nat) (Option.some (Jvm.ClassFile.FieldType.object "java/lang/Object")), Jvm.Cond.code ({ cls := "pentrewick/api/UserContextHandlingPinLaw", name := "valid", desc := "(III)Z" } : Jvm.MethodName) method_3_code (3 : Nat) (Option.some Jvm.ClassFile.FieldType.boolean), Jvm.Cond.code ({ cls := "java/lang/StringUTF16", name := "compress", desc := "([CII)[B" } : Jvm.MethodName) jdk_52_method_16_code (6 : Nat) (Option.some (Jvm.ClassFile.FieldType.array Jvm.ClassFile.FieldType.byte)), Jvm.Cond.code ({ cls := "java/lang/StringUTF16", name := "compress", desc := "([CI[BII)I" } : Jvm.MethodName) jdk_52_method_21_code (7 : Nat) (Option.some Jvm.ClassFile.FieldType.int), Jvm.Cond.code ({ cls := "java/lang/StringUTF16", name := "coderFromArrayLen", desc := "([BI)B" } : Jvm.MethodName) jdk_52_method_15_code (2 : Nat) (Option.some Jvm.ClassFile.FieldType.byte), Jvm.Cond.code ({ cls := "pentrewick/api/UserContext", name := "system", desc := "()Lpentrewick/api/UserContext;" } : Jvm.MethodName) prog_4_method_3_code (0 : Nat) (Option.some (Jvm.ClassFile.FieldType.object "pentrewick/api/UserContext")), Jvm.Cond.code ({ cls := "pentrewick/api/UserContext", name := "withTenant", desc := "(Ljava/lang/String;)Lpentrewick/api/UserContext;" } : Jvm.MethodName) prog_4_method_5_code (2 : Nat) (Option.some (Jvm.ClassFile.FieldType.object "pentrewick/api/UserContext")), Jvm.Cond.code ({ cls := "pentrewick/api/UserContext", name := "requireId", desc := "(Ljava/lang/String;Ljava/lang/String;)Ljava/lang/String;" } : Jvm.MethodName) prog_4_method_19_code (2 : Nat) (Option.some (Jvm.ClassFile.FieldType.object "java/lang/String")), Jvm.Cond.code ({ cls := "java/lang/String", name := "isEmpty", desc := "()Z" } : Jvm.MethodName) jdk_42_method_55_code (1 : Nat) (Option.some Jvm.ClassFile.FieldType.boolean), Jvm.Cond.code ({ cls := "java/lang/String", name := "indexOf", desc := "(I)I" } : Jvm.MethodName) jdk_42_method_79_code (2 : Nat) (Option.some Jvm.ClassFile.FieldType.int), Jvm.Cond.code ({ cls := "java/lang/String", name := "indexOf", desc := "(II)I" } : Jvm.MethodName) jdk_42_method_80_code (3 : Nat) (Option.some Jvm.ClassFile.FieldType.int), Jvm.Cond.code ({ cls := "java/lang/String", name := "isLatin1", desc := "()Z" } : Jvm.MethodName) jdk_42_method_154_code (1 : Nat) (Option.some Jvm.ClassFile.FieldType.boolean), Jvm.Cond.code ({ cls := "java/lang/String", name := "length", desc := "()I" } : Jvm.MethodName) jdk_42_method_54_code (1 : Nat) (Option.some Jvm.ClassFile.FieldType.int), Jvm.Cond.code ({ cls := "java/lang/String", name := "coder", desc := "()B" } : Jvm.MethodName) jdk_42_method_152_code (1 : Nat) (Option.some Jvm.ClassFile.FieldType.byte), Jvm.Cond.code ({ cls := "java/lang/StringLatin1", name := "indexOf", desc := "([BIII)I" } : Jvm.MethodName) jdk_43_method_22_code (4 : Nat) (Option.some Jvm.ClassFile.FieldType.int), Jvm.Cond.code ({ cls := "java/lang/StringLatin1", name := "canEncode", desc := "(I)Z" } : Jvm.MethodName) jdk_43_method_4_code (1 : Nat) (Option.some Jvm.ClassFile.FieldType.boolean), Jvm.Cond.code ({ cls := "java/lang/Math", name := "max", desc := "(II)I" } : Jvm.MethodName) jdk_29_method_65_code (2 : Nat) (Option.some Jvm.ClassFile.FieldType.int), Jvm.Cond.code ({ cls := "java/lang/Math", name := "min", desc := "(II)I" } : Jvm.MethodName) jdk_29_method_69_code (2 : Nat) (Option.some Jvm.ClassFile.FieldType.int), Jvm.Cond.code ({ cls := "java/lang/StringLatin1", name := "indexOfChar", desc := "([BIII)I" } : Jvm.MethodName) jdk_43_method_23_code (6 : Nat) (Option.some Jvm.ClassFile.FieldType.int), Jvm.Cond.code ({ cls := "pentrewick/api/UserContext", name := "asPrivileged", desc := "()Lpentrewick/api/UserContext;" } : Jvm.MethodName) prog_4_method_7_code (1 : Nat) (Option.some (Jvm.ClassFile.FieldType.object "pentrewick/api/UserContext")), Jvm.Cond.code ({ cls := "pentrewick/api/UserContext", name := "equals", desc := "(Ljava/lang/Object;)Z" } : Jvm.MethodName) prog_4_method_16_code (3 : Nat) (Option.some Jvm.ClassFile.FieldType.boolean), Jvm.Cond.code ({ cls := "java/util/Objects", name := "equals", desc := "(Ljava/lang/Object;Ljava/lang/Object;)Z" } : Jvm.MethodName) jdk_31_method_2_code (2 : Nat) (Option.some Jvm.ClassFile.FieldType.boolean), Jvm.Cond.code ({ cls := "java/util/ImmutableCollections$AbstractImmutableSet", name := "equals", desc := "(Ljava/lang/Object;)Z" } : Jvm.MethodName) jdk_100_method_2_code (5 : Nat) (Option.some Jvm.ClassFile.FieldType.boolean), Jvm.Cond.code ({ cls := "pentrewick/api/UserContext", name := "of", desc := "(Ljava/lang/String;)Lpentrewick/api/UserContext;" } : Jvm.MethodName) prog_4_method_4_code (1 : Nat) (Option.some (Jvm.ClassFile.FieldType.object "pentrewick/api/UserContext"))]
set_option maxRecDepth 65536 in
theorem codes_eq : words1.filter isCode = codes1 := rfl
theorem w_codes : ∀ c ∈ words1.filter isCode, c.before args0 about1 = true := by
  rw [codes_eq]
  intro c hc
  simp only [codes1, List.mem_cons, List.not_mem_nil, or_false] at hc
  rcases hc with rfl | rfl | rfl | rfl | rfl | rfl | rfl | rfl | rfl | rfl | rfl | rfl | rfl | rfl | rfl | rfl | rfl | rfl | rfl | rfl | rfl | rfl | rfl | rfl | rfl | rfl | rfl | rfl | rfl | rfl | rfl | rfl | rfl | rfl | rfl | rfl | rfl | rfl | rfl | rfl | rfl | rfl
  · exact w_c0
  · exact w_c1
  · exact w_c2
  · exact w_c3
  · exact w_c4
  · exact w_c5
  · exact w_c6
  · exact w_c7
  · exact w_c8
  · exact w_c9
  · exact w_c10
  · exact w_c11
  · exact w_c12
  · exact w_c13
  · exact w_c14
  · exact w_c15
  · exact w_c16
  · exact w_c17
  · exact w_c18
  · exact w_c19
  · exact w_c20
  · exact w_c21
  · exact w_c22
  · exact w_c23
  · exact w_c24
  · exact w_c25
  · exact w_c26
  · exact w_c27
  · exact w_c28
  · exact w_c29
  · exact w_c30
  · exact w_c31
  · exact w_c32
  · exact w_c33
  · exact w_c34
  · exact w_c35
  · exact w_c36
  · exact w_c37
  · exact w_c38
  · exact w_c39
  · exact w_c40
  · exact w_c41
set_option maxRecDepth 65536 in
theorem w_t1 : (words1.take 24).all (fun c => isCode c || c.before args0 about1) = true := by decide +kernel
set_option maxRecDepth 65536 in
theorem w_t2 : ((words1.drop 24).take 24).all (fun c => isCode c || c.before args0 about1) = true := by decide +kernel
set_option maxRecDepth 65536 in
theorem w_t3 : (((words1.drop 24).drop 24).take 24).all (fun c => isCode c || c.before args0 about1) = true := by decide +kernel
set_option maxRecDepth 65536 in
theorem w_t4 : ((((words1.drop 24).drop 24).drop 24).take 24).all (fun c => isCode c || c.before args0 about1) = true := by decide +kernel
set_option maxRecDepth 65536 in
theorem w_t5 : (((((words1.drop 24).drop 24).drop 24).drop 24).take 24).all (fun c => isCode c || c.before args0 about1) = true := by decide +kernel
set_option maxRecDepth 65536 in
theorem w_t6 : ((((((words1.drop 24).drop 24).drop 24).drop 24).drop 24).take 24).all (fun c => isCode c || c.before args0 about1) = true := by decide +kernel
set_option maxRecDepth 65536 in
theorem w_t7 : (((((((words1.drop 24).drop 24).drop 24).drop 24).drop 24).drop 24).take 24).all (fun c => isCode c || c.before args0 about1) = true := by decide +kernel
set_option maxRecDepth 65536 in
theorem w_t8 : ((((((((words1.drop 24).drop 24).drop 24).drop 24).drop 24).drop 24).drop 24).take 24).all (fun c => isCode c || c.before args0 about1) = true := by decide +kernel
set_option maxRecDepth 65536 in
theorem w_t9 : ((((((((words1.drop 24).drop 24).drop 24).drop 24).drop 24).drop 24).drop 24).drop 24).all (fun c => isCode c || c.before args0 about1) = true := by decide +kernel
theorem w_tables : (allAtoms (Jvm.Cond.code x code maxLocals ret :: tables_1)).before args0 about1 = true := by
  rw [allAtoms_all]
  show words1.all (fun c => c.before args0 about1) = true
  refine all_split ?_ w_codes
  rw [← List.take_append_drop 24 words1, List.all_append, w_t1, ← List.take_append_drop 24 (words1.drop 24), List.all_append, w_t2, ← List.take_append_drop 24 ((words1.drop 24).drop 24), List.all_append, w_t3, ← List.take_append_drop 24 (((words1.drop 24).drop 24).drop 24), List.all_append, w_t4, ← List.take_append_drop 24 ((((words1.drop 24).drop 24).drop 24).drop 24), List.all_append, w_t5, ← List.take_append_drop 24 (((((words1.drop 24).drop 24).drop 24).drop 24).drop 24), List.all_append, w_t6, ← List.take_append_drop 24 ((((((words1.drop 24).drop 24).drop 24).drop 24).drop 24).drop 24), List.all_append, w_t7, ← List.take_append_drop 24 (((((((words1.drop 24).drop 24).drop 24).drop 24).drop 24).drop 24).drop 24), List.all_append, w_t8, w_t9]
  rfl
set_option maxRecDepth 65536 in
theorem w_rest : rest_1_c.before args0 about1 = true := by decide +kernel
set_option maxRecDepth 65536 in
theorem w_case : (Jvm.Cond.and given_1 narrow_1).before args0 about1 = true := by decide +kernel
set_option maxRecDepth 65536 in
theorem w_consts : constsHeld consts_1 about1 := Jvm.Lit.constsHeldB_iff.mp (by decide +kernel)
theorem w_applies : (headSpec (Jvm.Cond.code x code maxLocals ret :: tables_1) room_1).applies x e0.platform about1 = true :=
  (Spec.applies_iff w_frames).mpr ⟨w_running, w_runnable, w_alone, w_named, w_hears, w_ripe, w_room, w_tables⟩
theorem atStart : AtStart classFile x code maxLocals ret World_1 tables_1 room_1 Calls_1 rest_1 Pre_1 launch0 p0 e0 about1 theMethod args0 below0 :=
  ⟨lists_1, trivial, launch0.admits_env _ _ _, launch0.least_env, fairChoices_fair.cas, fairChoices_fair.clock, w_frames, w_args, w_heap, w_applies, ⟨w_consts, trivial⟩, w_rest, w_case⟩
end start1
theorem witness_1 : WitnessClaimed_1 := ⟨start1.p0, start1.e0, start1.about1, start1.theMethod, start1.args0, start1.below0, start1.atStart⟩
end Jvm.Pilot.@@N@@
