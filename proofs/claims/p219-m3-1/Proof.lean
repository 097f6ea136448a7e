import JvmDerived
import JvmDerived.Pilot.@@N@@Statement
import JvmDerived.Pilot.@@N@@Code
set_option linter.unusedVariables false
set_option linter.unusedSimpArgs false
namespace Jvm.OwnK
open Jvm Jvm.ClassFile Sem Op Lib Jvm.Free Jvm.Stand Jvm.LawKit Jvm.RoadKit Bundle
/-! own kit, part 1: a walk as a triple on (heap, pc, locals, stack): Seg; contracts: Ct; who pays a call: Pays -/
def SfOk (Z : State) (EL : List (String × Nat)) (vm : Vm) (h : Heap) (sf : List Addr) : Prop := ∀ x ∈ sf, Z.heap.size ≤ x ∧ x < h.size ∧ Safe Z EL vm h x
def Wk (p : Program) (l : Launch) (e : Env) (R : Room) (s : State) (m : MethodId) (args : Array Value) (below : List Frame) (meth : Method) (c : Code) (Z : State) (a0 : Array Value) (EL : List (String × Nat)) (own : String) (sf : List Addr) (k n : Nat) (T : State) (h : Heap) : Prop :=
  ∃ (vm0 : Vm) (locs : List Loc) (k0 : Nat), Stand p l e R (s.setVm vm0) m args below meth c T locs k n ∧ T.heap = h ∧ s.Since vm0 k0 ∧ k0 ≤ h.size ∧ Z.Warmed39 vm0 ∧ vm0.findClass own = some m.cls ∧ CHr Z EL s.vm s.heap vm0 h ∧ Fr Z.heap.size locs ∧ Ext Z.heap h ∧ EW Z a0 EL ∧ SfOk Z EL vm0 h sf
def Cx (p : Program) (meth : Method) (c : Code) (y : MethodName) (bytes : ByteArray) (maxL : Nat) (ret : Option FieldType) : Prop :=
  p.tables.exec = Jvm.exec ∧ c.code = bytes ∧ c.maxLocals = maxL ∧ meth.sig.returnType = ret ∧ meth.locks = false ∧ meth.name = y.name
def Gl (p : Program) (e : Env) (below : List Frame) (s Z : State) (EL : List (String × Nat)) (Q : Option Value → Heap → Prop) (rc rs : Nat) (u : State) : Prop :=
  ∃ (s₂ : State) (o : Outcome), Steps p.tables e below u s₂ ∧ s₂.status = .running ∧ Ended s₂ below o ∧ ∃ v L, o = .returned v ∧ (Fr Z.heap.size L ∧ Ext Z.heap s₂.heap ∧ Q v s₂.heap) ∧ CHr Z EL s.vm s.heap s₂.vm s₂.heap ∧ ReturnedEndW s o s₂ L rc rs
def Seg (l : Launch) (Z : State) (a0 : Array Value) (EL : List (String × Nat)) (y : MethodName) (bytes : ByteArray) (maxL : Nat) (ret : Option FieldType) (rm : Room) (Q : Option Value → Heap → Prop) (h : Heap) (k n : Nat) (sf : List Addr) (pc : Nat) (L : Array Slot) (S : List Value) : Prop :=
  ∀ (p : Program) (e : Env) (s : State) (m : MethodId) (args : Array Value) (below : List Frame) (meth : Method) (c : Code) (T : State), Cx p meth c y bytes maxL ret → Wk p l e rm s m args below meth c Z a0 EL y.cls sf k n T h → Gl p e below s Z EL Q rm.cells rm.slots (T.setTop (mkF m pc L S))
/-- a contract -/
def Ct (l : Launch) (Z : State) (EL : List (String × Nat)) (sf : List Addr) (ws : List Jvm.Cond) (y : MethodName) (bytes : ByteArray) (maxL : Nat) (ret : Option FieldType) (rm : Room) (as' : Array Value) (h : Heap) (Q : Option Value → Heap → Prop) : Prop :=
  MetFree l y (head1 (Jvm.Cond.code y bytes maxL ret :: ws) rm) (fun a U => a = as' ∧ Z.Warmed39 U.vm ∧ U.heap = h ∧ CHv Z EL U.vm h ∧ SfOk Z EL U.vm h sf ∧ Ext Z.heap h) (fun _ _ _ _ _ => True)
    (fun _ U o U' => ∃ v L, o = .returned v ∧ (Fr Z.heap.size L ∧ Ext Z.heap U'.heap ∧ Q v U'.heap) ∧ CHr Z EL U.vm U.heap U'.vm U'.heap ∧ ReturnedEndW U o U' L rm.cells rm.slots)
section Facts
variable {Z : State} {EL : List (String × Nat)} {vm vm1 : Vm} {h h1 h2 h' : Heap} {sf sf' : List Addr} {ws : List Addr} {a x : Addr} {sl : Nat} {v : Value}
theorem ext_rfl (h : Heap) : Ext h h := ⟨Nat.le_refl _, fun _ _ q => q⟩
theorem ext_tr (A : Ext h h1) (B : Ext h1 h2) : Ext h h2 := ⟨Nat.le_trans A.1 B.1, fun x c q => B.2 x c (A.2 x c q)⟩
theorem ext_kp (A : Ext h h1) (K : Keep h1 h2 ws) (q : ∀ x ∈ ws, h.size ≤ x) : Ext h h2 := ⟨Nat.le_trans A.1 K.1, fun x c r => K.2.1 x c (A.2 x c r) fun z => absurd (Array.getElem?_eq_some_iff.mp r).1 (Nat.not_lt.mpr (q x z))⟩
theorem ext_wr (A : Ext h h1) (W : Wr h1 h2 a sl v) (q : h.size ≤ a) : Ext h h2 := ext_kp A (Keep.of_wr W) (allS q all0)
theorem keep_ext (E : Ext h h1) : Keep h h1 [] := (Keep.refl h []).ext E
theorem ext_keep (K : Keep h h1 []) : Ext h h1 := ⟨K.1, fun x c q => K.2.1 x c q (fun z => nomatch z)⟩
theorem keep_mono {ws' : List Addr} (K : Keep h h1 ws) (q : ∀ x ∈ ws, x ∈ ws' ∨ h.size ≤ x) : Keep h h1 ws' := (Keep.refl h ws').trans K q
theorem SfOk.sub (S : SfOk Z EL vm h sf) (q : ∀ x ∈ sf', x ∈ sf) : SfOk Z EL vm h sf' := fun x hx => S x (q x hx)
theorem SfOk.chr (S : SfOk Z EL vm h sf) (A : CHr Z EL vm h vm1 h') : SfOk Z EL vm1 h' sf := fun x hx => by
  obtain ⟨q1, q2, q3⟩ := S x hx
  exact ⟨q1, Nat.lt_of_lt_of_le q2 A.2.1, A.safe q2 q3⟩
theorem SfOk.cons (S : SfOk Z EL vm h sf) (q1 : Z.heap.size ≤ x) (q2 : x < h.size) (q3 : Safe Z EL vm h x) : SfOk Z EL vm h (x :: sf) := fun y hy => by
  rcases List.mem_cons.mp hy with rfl | hy
  · exact ⟨q1, q2, q3⟩
  · exact S y hy
theorem SfOk.safes (S : SfOk Z EL vm h sf) (q : ∀ x ∈ ws, x ∈ sf) : ∀ x ∈ ws, Safe Z EL vm h x := fun x hx => (S x (q x hx)).2.2
end Facts
section Core
variable {l : Launch} {Z : State} {a0 : Array Value} {EL : List (String × Nat)} {y : MethodName} {bytes : ByteArray} {maxL : Nat} {ret : Option FieldType} {rm : Room} {Q : Option Value → Heap → Prop} {h : Heap} {k n k' n' : Nat} {sf sf' : List Addr} {pc pc' : Nat} {L : Array Slot} {S : List Value}
variable {p : Program} {e : Env} {R : Room} {s : State} {m : MethodId} {args : Array Value} {below : List Frame} {meth : Method} {c : Code} {T : State} {own : String}
theorem Wk.here (w : Wk p l e R s m args below meth c Z a0 EL own sf k n T h) : At T m c below := by obtain ⟨_, _, _, X, -⟩ := w; exact X.here
theorem Wk.mono (w : Wk p l e R s m args below meth c Z a0 EL own sf k n T h) (hk : k ≤ k') (hn : n ≤ n') (q : ∀ x ∈ sf', x ∈ sf) : Wk p l e R s m args below meth c Z a0 EL own sf' k' n' T h := by
  obtain ⟨vm0, locs, k0, X, r1, r2, r3, r4, r5, r6, r7, r8, r9, r10⟩ := w
  exact ⟨vm0, locs, k0, X.mono hk hn, r1, r2, r3, r4, r5, r6, r7, r8, r9, r10.sub q⟩
theorem Seg.mono (hk : k ≤ k') (hn : n ≤ n') (q : ∀ x ∈ sf', x ∈ sf) (g : Seg l Z a0 EL y bytes maxL ret rm Q h k' n' sf' pc L S) : Seg l Z a0 EL y bytes maxL ret rm Q h k n sf pc L S :=
  fun p e s m args below meth c T C w => g p e s m args below meth c T C (w.mono hk hn q)
theorem Seg.post {Q' : Option Value → Heap → Prop} (q : ∀ v h, Q' v h → Q v h) (g : Seg l Z a0 EL y bytes maxL ret rm Q' h k n sf pc L S) : Seg l Z a0 EL y bytes maxL ret rm Q h k n sf pc L S :=
  fun p e s m args below meth c T C w => by
    obtain ⟨s₂, o, h1, h2, h3, v, Ls, h4, ⟨h5, h6, h7⟩, h8⟩ := g p e s m args below meth c T C w
    exact ⟨s₂, o, h1, h2, h3, v, Ls, h4, ⟨h5, h6, q _ _ h7⟩, h8⟩
theorem Gl.st {u u' : State} (hs : ∀ t, Steps p.tables e below u' t → Steps p.tables e below u t) (g : Gl p e below s Z EL Q k n u') : Gl p e below s Z EL Q k n u := by
  obtain ⟨s₂, o, h1, r⟩ := g
  exact ⟨s₂, o, hs _ h1, r⟩
theorem Seg.start (g : Ext Z.heap h → Seg l Z a0 EL y bytes maxL ret rm Q h k n sf pc L S) : Seg l Z a0 EL y bytes maxL ret rm Q h k n sf pc L S :=
  fun p e s m args below meth c T C w => by
    obtain ⟨vm0, locs, k0, X, r1, r2, r3, r4, r5, r6, r7, r8, r9, r10⟩ := w
    exact g r8 p e s m args below meth c T C ⟨vm0, locs, k0, X, r1, r2, r3, r4, r5, r6, r7, r8, r9, r10⟩
/-- a plain step -/
theorem Seg.plain {L' : Array Slot} {S' : List Value} (hs : ∀ (p : Program) (e : Env) (m : MethodId) (below : List Frame) (c : Code) (T : State) (t : State), p.tables.exec = Jvm.exec → c.code = bytes → At T m c below → Steps p.tables e below (T.setTop (mkF m pc' L' S')) t → Steps p.tables e below (T.setTop (mkF m pc L S)) t)
    (g : Seg l Z a0 EL y bytes maxL ret rm Q h k n sf pc' L' S') : Seg l Z a0 EL y bytes maxL ret rm Q h k n sf pc L S :=
  fun p e s m args below meth c T C w => Gl.st (fun t => hs p e m below c T t C.1 C.2.1 w.here) (g p e s m args below meth c T C w)
theorem Ct.of_seg {as' : Array Value} {ws : List Jvm.Cond} (hpn : plainFor y = true) (hEL : EW Z a0 EL) (hent : ∀ m, entryFrame m as' maxL = mkF m 0 L []) (g : Seg l Z a0 EL y bytes maxL ret rm Q h 0 0 sf 0 L []) :
    Ct l Z EL sf ws y bytes maxL ret rm as' h Q := by
  refine MetFree.of_bodySF hpn hisR ?_
  intro p e s m args below meth c s₁ Bd hml0 hP hK
  obtain ⟨rfl, hZ, hh, hC, hSf, hZ0⟩ := hP
  subst hh
  have X0 : Stand p l e rm (s.setVm s.vm) m _ below meth c s₁ [] 0 0 := Stand.of_body Bd
  have e0 : s₁.heap = s.heap := by rw [Bd.state]; rfl
  have hown : s.vm.findClass y.cls = some m.cls := findClass_of_methodNamed Bd.named
  rw [hent m]
  exact g p e s m _ below meth c s₁ ⟨Bd.exec, Bd.bytes, hml0, Bd.returns, Bd.notSynchronized, (name_of_methodNamed Bd.named Bd.method).1⟩ ⟨s.vm, [], 0, X0, e0, (State.WarmedH.refl s).since 0, Nat.zero_le _, hZ, hown, CHr.refl hC, Fr.nil _, hZ0, hEL, hSf⟩
theorem Wk.out (w : Wk p l e R s m args below meth c Z a0 EL own sf k n T h) (C : Cx p meth c y bytes maxL ret) {v : Option Value} (hv : ret = none → v = none) (hQ : Q v h) (hk : k ≤ R.cells) (hn : n ≤ R.slots) {u : State}
    (hs : ∀ (vm0 : Vm) (locs : List Loc), Stand p l e R (s.setVm vm0) m args below meth c T locs k n → ∀ fs, (∀ (f : JFrame) (acts : List Action), f.method = m → f.locked = none → f.entered = [] → (doReturn e (T.setTop f) acts v).1 = T.setFrames fs) → Steps p.tables e below u (T.setFrames fs)) : Gl p e below s Z EL Q R.cells R.slots u := by
  obtain ⟨vm0, locs, k0, X, rfl, r2, r3, r4, r5, r6, r7, r8, r9, r10⟩ := w
  obtain ⟨C1, C2, C3, C4, C5, C6⟩ := C
  obtain ⟨fs, h1, h2, h3, ⟨-, e1, e2, e3⟩⟩ := X.leaveW r2 r3 (v := v) (fun q => hv (C4 ▸ q)) C5
  refine ⟨_, _, hs vm0 locs X fs h1, h2, h3, v, locs, rfl, ⟨r7, r8, hQ⟩, ?_, ⟨v, rfl⟩, e1, e2, e3.mono hk hn⟩
  have A := CHv.at X r4 r9 r6.1
  exact r6.trans A
/-- returns -/
theorem Seg.retI {v : Int32} (hret : ret = some .int) (hd : decode bytes pc = .ok (.ireturn, 1)) (hk : k ≤ rm.cells) (hn : n ≤ rm.slots) (hQ : Q (some (.int v)) h) : Seg l Z a0 EL y bytes maxL ret rm Q h k n sf pc L [.int v] :=
  fun p e s m args below meth c T C w => w.out C (fun q => by rw [hret] at q; cases q) hQ hk hn fun vm0 locs X fs hl => X.ireturnOut C.1 (t := .int) (C.2.2.2.1.trans hret) rfl (Or.inl rfl) (hb C.2.1 hd) hl
theorem Seg.retN {v w : Int32} {t : FieldType} (hret : ret = some t) (ht : t = .boolean ∨ t = .byte ∨ t = .char ∨ t = .short) (hv : nar t v = w) (hd : decode bytes pc = .ok (.ireturn, 1)) (hk : k ≤ rm.cells) (hn : n ≤ rm.slots) (hQ : Q (some (.int w)) h) : Seg l Z a0 EL y bytes maxL ret rm Q h k n sf pc L [.int v] :=
  fun p e s m args below meth c T C w' => by
    subst hv
    exact w'.out C (fun q => by rw [hret] at q; cases q) hQ hk hn fun vm0 locs X fs hl => RoadKit.retN X C.1 (t := t) (C.2.2.2.1.trans hret) ht (hb C.2.1 hd) hl
theorem Seg.retA {v : Value} {t : FieldType} (hret : ret = some t) (ht : t.isReference = true) (hv : v.isRef = true) (hd : decode bytes pc = .ok (.areturn, 1)) (hk : k ≤ rm.cells) (hn : n ≤ rm.slots) (hQ : Q (some v) h) : Seg l Z a0 EL y bytes maxL ret rm Q h k n sf pc L [v] :=
  fun p e s m args below meth c T C w => w.out C (fun q => by rw [hret] at q; cases q) hQ hk hn fun vm0 locs X fs hl => X.areturnOut C.1 hv (C.2.2.2.1.trans hret) ht (hb C.2.1 hd) hl
theorem Seg.retL {v : Int64} (hret : ret = some .long) (hd : decode bytes pc = .ok (.lreturn, 1)) (hk : k ≤ rm.cells) (hn : n ≤ rm.slots) (hQ : Q (some (.long v)) h) : Seg l Z a0 EL y bytes maxL ret rm Q h k n sf pc L [.long v] :=
  fun p e s m args below meth c T C w => w.out C (fun q => by rw [hret] at q; cases q) hQ hk hn fun vm0 locs X fs hl => X.lreturnOut C.1 (C.2.2.2.1.trans hret) (hb C.2.1 hd) hl
theorem Seg.ret0 (hret : ret = none) (hd : decode bytes pc = .ok (.return_, 1)) (hk : k ≤ rm.cells) (hn : n ≤ rm.slots) (hQ : Q none h) : Seg l Z a0 EL y bytes maxL ret rm Q h k n sf pc L [] :=
  fun p e s m args below meth c T C w => w.out C (fun _ => rfl) hQ hk hn fun vm0 locs X fs hl => X.returnOut C.1 (C.2.2.2.1.trans hret) (hb C.2.1 hd) hl
end Core
section Plain
variable {l : Launch} {Z : State} {a0 : Array Value} {EL : List (String × Nat)} {y : MethodName} {bytes : ByteArray} {maxL : Nat} {ret : Option FieldType} {rm : Room} {Q : Option Value → Heap → Prop} {h : Heap} {k n : Nat} {sf : List Addr} {pc pc' : Nat} {L : Array Slot} {S : List Value}
theorem Seg.iloadN {i : Fin 4} {v : Int32} (hd : decode bytes pc = .ok (.iload_n i, 1)) (hl : L[i.val]? = some (.val (.int v))) (hp : pc + 1 = pc') (g : Seg l Z a0 EL y bytes maxL ret rm Q h k n sf pc' L (.int v :: S)) : Seg l Z a0 EL y bytes maxL ret rm Q h k n sf pc L S := by
  subst hp
  exact Seg.plain (fun p e m below c T t hx hc ha hr => XS.iloadN ha hx rfl (hb hc hd) hl hr) g
theorem Seg.iload {i : Nat} {v : Int32} (hd : decode bytes pc = .ok (.iload i, 2)) (hl : L[i]? = some (.val (.int v))) (hp : pc + 2 = pc') (g : Seg l Z a0 EL y bytes maxL ret rm Q h k n sf pc' L (.int v :: S)) : Seg l Z a0 EL y bytes maxL ret rm Q h k n sf pc L S := by
  subst hp
  exact Seg.plain (fun p e m below c T t hx hc ha hr => XS.iload ha hx rfl (hb hc hd) hl hr) g
theorem Seg.lloadN {i : Fin 4} {v : Int64} (hd : decode bytes pc = .ok (.lload_n i, 1)) (hl : L[i.val]? = some (.val (.long v))) (hp : pc + 1 = pc') (g : Seg l Z a0 EL y bytes maxL ret rm Q h k n sf pc' L (.long v :: S)) : Seg l Z a0 EL y bytes maxL ret rm Q h k n sf pc L S := by
  subst hp
  exact Seg.plain (fun p e m below c T t hx hc ha hr => XT.lloadN ha hx rfl (hb hc hd) hl hr) g
theorem Seg.lload {i : Nat} {v : Int64} (hd : decode bytes pc = .ok (.lload i, 2)) (hl : L[i]? = some (.val (.long v))) (hp : pc + 2 = pc') (g : Seg l Z a0 EL y bytes maxL ret rm Q h k n sf pc' L (.long v :: S)) : Seg l Z a0 EL y bytes maxL ret rm Q h k n sf pc L S := by
  subst hp
  exact Seg.plain (fun p e m below c T t hx hc ha hr => XT.lload ha hx rfl (hb hc hd) hl hr) g
theorem Seg.aloadN {i : Fin 4} {v : Value} (hd : decode bytes pc = .ok (.aload_n i, 1)) (hl : L[i.val]? = some (.val v)) (hv : v.isRef = true) (hp : pc + 1 = pc') (g : Seg l Z a0 EL y bytes maxL ret rm Q h k n sf pc' L (v :: S)) : Seg l Z a0 EL y bytes maxL ret rm Q h k n sf pc L S := by
  subst hp
  exact Seg.plain (fun p e m below c T t hx hc ha hr => XS.aloadN ha hx rfl (hb hc hd) hl hv hr) g
theorem Seg.aload {i : Nat} {v : Value} (hd : decode bytes pc = .ok (.aload i, 2)) (hl : L[i]? = some (.val v)) (hv : v.isRef = true) (hp : pc + 2 = pc') (g : Seg l Z a0 EL y bytes maxL ret rm Q h k n sf pc' L (v :: S)) : Seg l Z a0 EL y bytes maxL ret rm Q h k n sf pc L S := by
  subst hp
  exact Seg.plain (fun p e m below c T t hx hc ha hr => XS.aload ha hx rfl (hb hc hd) hl hv hr) g
theorem Seg.istoreN {i : Fin 4} {v : Int32} {L' : Array Slot} (hd : decode bytes pc = .ok (.istore_n i, 1)) (hl : storeLocals L i.val (.int v) = some L') (hp : pc + 1 = pc') (g : Seg l Z a0 EL y bytes maxL ret rm Q h k n sf pc' L' S) : Seg l Z a0 EL y bytes maxL ret rm Q h k n sf pc L (.int v :: S) := by
  subst hp
  exact Seg.plain (fun p e m below c T t hx hc ha hr => XS.istoreN ha hx rfl (hb hc hd) rfl hl hr) g
theorem Seg.istore {i : Nat} {v : Int32} {L' : Array Slot} (hd : decode bytes pc = .ok (.istore i, 2)) (hl : storeLocals L i (.int v) = some L') (hp : pc + 2 = pc') (g : Seg l Z a0 EL y bytes maxL ret rm Q h k n sf pc' L' S) : Seg l Z a0 EL y bytes maxL ret rm Q h k n sf pc L (.int v :: S) := by
  subst hp
  exact Seg.plain (fun p e m below c T t hx hc ha hr => XS.istore ha hx rfl (hb hc hd) rfl hl hr) g
theorem Seg.lstoreN {i : Fin 4} {v : Int64} {L' : Array Slot} (hd : decode bytes pc = .ok (.lstore_n i, 1)) (hl : storeLocals L i.val (.long v) = some L') (hp : pc + 1 = pc') (g : Seg l Z a0 EL y bytes maxL ret rm Q h k n sf pc' L' S) : Seg l Z a0 EL y bytes maxL ret rm Q h k n sf pc L (.long v :: S) := by
  subst hp
  exact Seg.plain (fun p e m below c T t hx hc ha hr => XT.lstoreN ha hx rfl (hb hc hd) rfl hl hr) g
theorem Seg.lstore {i : Nat} {v : Int64} {L' : Array Slot} (hd : decode bytes pc = .ok (.lstore i, 2)) (hl : storeLocals L i (.long v) = some L') (hp : pc + 2 = pc') (g : Seg l Z a0 EL y bytes maxL ret rm Q h k n sf pc' L' S) : Seg l Z a0 EL y bytes maxL ret rm Q h k n sf pc L (.long v :: S) := by
  subst hp
  exact Seg.plain (fun p e m below c T t hx hc ha hr => XT.lstore ha hx rfl (hb hc hd) rfl hl hr) g
theorem Seg.astoreN {i : Fin 4} {v : Value} {L' : Array Slot} (hd : decode bytes pc = .ok (.astore_n i, 1)) (hv : v.isRef = true) (hl : storeLocals L i.val v = some L') (hp : pc + 1 = pc') (g : Seg l Z a0 EL y bytes maxL ret rm Q h k n sf pc' L' S) : Seg l Z a0 EL y bytes maxL ret rm Q h k n sf pc L (v :: S) := by
  subst hp
  exact Seg.plain (fun p e m below c T t hx hc ha hr => XS.astoreN ha hx rfl (hb hc hd) rfl hv hl hr) g
theorem Seg.astore {i : Nat} {v : Value} {L' : Array Slot} (hd : decode bytes pc = .ok (.astore i, 2)) (hv : v.isRef = true) (hl : storeLocals L i v = some L') (hp : pc + 2 = pc') (g : Seg l Z a0 EL y bytes maxL ret rm Q h k n sf pc' L' S) : Seg l Z a0 EL y bytes maxL ret rm Q h k n sf pc L (v :: S) := by
  subst hp
  exact Seg.plain (fun p e m below c T t hx hc ha hr => XS.astore ha hx rfl (hb hc hd) rfl hv hl hr) g
theorem Seg.iconst {i : Int} {v : Int32} (hd : decode bytes pc = .ok (.iconst i, 1)) (hv : Int32.ofInt i = v) (hp : pc + 1 = pc') (g : Seg l Z a0 EL y bytes maxL ret rm Q h k n sf pc' L (.int v :: S)) : Seg l Z a0 EL y bytes maxL ret rm Q h k n sf pc L S := by
  subst hp
  exact Seg.plain (fun p e m below c T t hx hc ha hr => XT.iconstV ha hx rfl v (hb hc hd) hv hr) g
theorem Seg.bipush {i : Int} {v : Int32} (hd : decode bytes pc = .ok (.bipush i, 2)) (hv : (Int8.ofInt i).toInt32 = v) (hp : pc + 2 = pc') (g : Seg l Z a0 EL y bytes maxL ret rm Q h k n sf pc' L (.int v :: S)) : Seg l Z a0 EL y bytes maxL ret rm Q h k n sf pc L S := by
  subst hp
  exact Seg.plain (fun p e m below c T t hx hc ha hr => XT.bipushV ha hx rfl v (hb hc hd) hv hr) g
theorem Seg.sipush {i : Int} {v : Int32} (hd : decode bytes pc = .ok (.sipush i, 3)) (hv : (Int16.ofInt i).toInt32 = v) (hp : pc + 3 = pc') (g : Seg l Z a0 EL y bytes maxL ret rm Q h k n sf pc' L (.int v :: S)) : Seg l Z a0 EL y bytes maxL ret rm Q h k n sf pc L S := by
  subst hp
  exact Seg.plain (fun p e m below c T t hx hc ha hr => XT.sipushV ha hx rfl v (hb hc hd) hv hr) g
theorem Seg.lconst {i : Fin 2} {v : Int64} (hd : decode bytes pc = .ok (.lconst i, 1)) (hv : Int64.ofNat i = v) (hp : pc + 1 = pc') (g : Seg l Z a0 EL y bytes maxL ret rm Q h k n sf pc' L (.long v :: S)) : Seg l Z a0 EL y bytes maxL ret rm Q h k n sf pc L S := by
  subst hp
  exact Seg.plain (fun p e m below c T t hx hc ha hr => XT.lconstV ha hx rfl v (hb hc hd) hv hr) g
theorem Seg.anull  (hd : decode bytes pc = .ok (.aconst_null, 1))  (hp : pc + 1 = pc') (g : Seg l Z a0 EL y bytes maxL ret rm Q h k n sf pc' L (.null :: S)) : Seg l Z a0 EL y bytes maxL ret rm Q h k n sf pc L S := by
  subst hp
  exact Seg.plain (fun p e m below c T t hx hc ha hr => XS.aconstNull ha hx rfl (hb hc hd) hr) g
theorem Seg.iadd {x z v : Int32} (hd : decode bytes pc = .ok (.iadd, 1)) (hv : x + z = v) (hp : pc + 1 = pc') (g : Seg l Z a0 EL y bytes maxL ret rm Q h k n sf pc' L (.int v :: S)) : Seg l Z a0 EL y bytes maxL ret rm Q h k n sf pc L (.int z :: .int x :: S) := by
  subst hp
  exact Seg.plain (fun p e m below c T t hx hc ha hr => XS.iadd ha hx rfl (hb hc hd) rfl (by subst hv; exact hr)) g
theorem Seg.isub {x z v : Int32} (hd : decode bytes pc = .ok (.isub, 1)) (hv : x - z = v) (hp : pc + 1 = pc') (g : Seg l Z a0 EL y bytes maxL ret rm Q h k n sf pc' L (.int v :: S)) : Seg l Z a0 EL y bytes maxL ret rm Q h k n sf pc L (.int z :: .int x :: S) := by
  subst hp
  exact Seg.plain (fun p e m below c T t hx hc ha hr => XS.isub ha hx rfl (hb hc hd) rfl (by subst hv; exact hr)) g
theorem Seg.imul {x z v : Int32} (hd : decode bytes pc = .ok (.imul, 1)) (hv : x * z = v) (hp : pc + 1 = pc') (g : Seg l Z a0 EL y bytes maxL ret rm Q h k n sf pc' L (.int v :: S)) : Seg l Z a0 EL y bytes maxL ret rm Q h k n sf pc L (.int z :: .int x :: S) := by
  subst hp
  exact Seg.plain (fun p e m below c T t hx hc ha hr => XS.imul ha hx rfl (hb hc hd) rfl (by subst hv; exact hr)) g
theorem Seg.iand {x z v : Int32} (hd : decode bytes pc = .ok (.iand, 1)) (hv : x &&& z = v) (hp : pc + 1 = pc') (g : Seg l Z a0 EL y bytes maxL ret rm Q h k n sf pc' L (.int v :: S)) : Seg l Z a0 EL y bytes maxL ret rm Q h k n sf pc L (.int z :: .int x :: S) := by
  subst hp
  exact Seg.plain (fun p e m below c T t hx hc ha hr => XS.iand ha hx rfl (hb hc hd) rfl (by subst hv; exact hr)) g
theorem Seg.ior {x z v : Int32} (hd : decode bytes pc = .ok (.ior, 1)) (hv : x ||| z = v) (hp : pc + 1 = pc') (g : Seg l Z a0 EL y bytes maxL ret rm Q h k n sf pc' L (.int v :: S)) : Seg l Z a0 EL y bytes maxL ret rm Q h k n sf pc L (.int z :: .int x :: S) := by
  subst hp
  exact Seg.plain (fun p e m below c T t hx hc ha hr => XT.ior ha hx rfl (hb hc hd) rfl (by subst hv; exact hr)) g
theorem Seg.ixor {x z v : Int32} (hd : decode bytes pc = .ok (.ixor, 1)) (hv : x ^^^ z = v) (hp : pc + 1 = pc') (g : Seg l Z a0 EL y bytes maxL ret rm Q h k n sf pc' L (.int v :: S)) : Seg l Z a0 EL y bytes maxL ret rm Q h k n sf pc L (.int z :: .int x :: S) := by
  subst hp
  exact Seg.plain (fun p e m below c T t hx hc ha hr => XT.ixor ha hx rfl (hb hc hd) rfl (by subst hv; exact hr)) g
theorem Seg.ishl {x z v : Int32} (hd : decode bytes pc = .ok (.ishl, 1)) (hv : x <<< (z &&& 31) = v) (hp : pc + 1 = pc') (g : Seg l Z a0 EL y bytes maxL ret rm Q h k n sf pc' L (.int v :: S)) : Seg l Z a0 EL y bytes maxL ret rm Q h k n sf pc L (.int z :: .int x :: S) := by
  subst hp
  exact Seg.plain (fun p e m below c T t hx hc ha hr => XT.ishl ha hx rfl (hb hc hd) rfl (by subst hv; exact hr)) g
theorem Seg.ishr {x z v : Int32} (hd : decode bytes pc = .ok (.ishr, 1)) (hv : x >>> (z &&& 31) = v) (hp : pc + 1 = pc') (g : Seg l Z a0 EL y bytes maxL ret rm Q h k n sf pc' L (.int v :: S)) : Seg l Z a0 EL y bytes maxL ret rm Q h k n sf pc L (.int z :: .int x :: S) := by
  subst hp
  exact Seg.plain (fun p e m below c T t hx hc ha hr => XT.ishr ha hx rfl (hb hc hd) rfl (by subst hv; exact hr)) g
theorem Seg.iushr {x z v : Int32} (hd : decode bytes pc = .ok (.iushr, 1)) (hv : (x.toUInt32 >>> (z &&& 31).toUInt32).toInt32 = v) (hp : pc + 1 = pc') (g : Seg l Z a0 EL y bytes maxL ret rm Q h k n sf pc' L (.int v :: S)) : Seg l Z a0 EL y bytes maxL ret rm Q h k n sf pc L (.int z :: .int x :: S) := by
  subst hp
  exact Seg.plain (fun p e m below c T t hx hc ha hr => XT.iushr ha hx rfl (hb hc hd) rfl (by subst hv; exact hr)) g
theorem Seg.ladd {x z v : Int64} (hd : decode bytes pc = .ok (.ladd, 1)) (hv : x + z = v) (hp : pc + 1 = pc') (g : Seg l Z a0 EL y bytes maxL ret rm Q h k n sf pc' L (.long v :: S)) : Seg l Z a0 EL y bytes maxL ret rm Q h k n sf pc L (.long z :: .long x :: S) := by
  subst hp
  exact Seg.plain (fun p e m below c T t hx hc ha hr => XT.ladd ha hx rfl (hb hc hd) rfl (by subst hv; exact hr)) g
theorem Seg.lsub {x z v : Int64} (hd : decode bytes pc = .ok (.lsub, 1)) (hv : x - z = v) (hp : pc + 1 = pc') (g : Seg l Z a0 EL y bytes maxL ret rm Q h k n sf pc' L (.long v :: S)) : Seg l Z a0 EL y bytes maxL ret rm Q h k n sf pc L (.long z :: .long x :: S) := by
  subst hp
  exact Seg.plain (fun p e m below c T t hx hc ha hr => XT.lsub ha hx rfl (hb hc hd) rfl (by subst hv; exact hr)) g
theorem Seg.lmul {x z v : Int64} (hd : decode bytes pc = .ok (.lmul, 1)) (hv : x * z = v) (hp : pc + 1 = pc') (g : Seg l Z a0 EL y bytes maxL ret rm Q h k n sf pc' L (.long v :: S)) : Seg l Z a0 EL y bytes maxL ret rm Q h k n sf pc L (.long z :: .long x :: S) := by
  subst hp
  exact Seg.plain (fun p e m below c T t hx hc ha hr => XT.lmul ha hx rfl (hb hc hd) rfl (by subst hv; exact hr)) g
theorem Seg.land {x z v : Int64} (hd : decode bytes pc = .ok (.land, 1)) (hv : x &&& z = v) (hp : pc + 1 = pc') (g : Seg l Z a0 EL y bytes maxL ret rm Q h k n sf pc' L (.long v :: S)) : Seg l Z a0 EL y bytes maxL ret rm Q h k n sf pc L (.long z :: .long x :: S) := by
  subst hp
  exact Seg.plain (fun p e m below c T t hx hc ha hr => XT.land ha hx rfl (hb hc hd) rfl (by subst hv; exact hr)) g
theorem Seg.lushr {x v : Int64} {z : Int32} (hd : decode bytes pc = .ok (.lushr, 1)) (hv : XT.ushrL x z = v) (hp : pc + 1 = pc') (g : Seg l Z a0 EL y bytes maxL ret rm Q h k n sf pc' L (.long v :: S)) : Seg l Z a0 EL y bytes maxL ret rm Q h k n sf pc L (.int z :: .long x :: S) := by
  subst hp
  exact Seg.plain (fun p e m below c T t hx hc ha hr => XT.lushr ha hx rfl (hb hc hd) rfl (by subst hv; exact hr)) g
theorem Seg.lrem {x z v : Int64} (hd : decode bytes pc = .ok (.lrem, 1)) (hz : z ≠ 0) (hv : x - (x / z) * z = v) (hp : pc + 1 = pc') (g : Seg l Z a0 EL y bytes maxL ret rm Q h k n sf pc' L (.long v :: S)) : Seg l Z a0 EL y bytes maxL ret rm Q h k n sf pc L (.long z :: .long x :: S) := by
  subst hp
  exact Seg.plain (fun p e m below c T t hx hc ha hr => XT.lrem ha hx rfl (hb hc hd) rfl hz (by subst hv; exact hr)) g
theorem Seg.i2l {x : Int32} {v : Int64} (hd : decode bytes pc = .ok (.i2l, 1)) (hv : x.toInt64 = v) (hp : pc + 1 = pc') (g : Seg l Z a0 EL y bytes maxL ret rm Q h k n sf pc' L (.long v :: S)) : Seg l Z a0 EL y bytes maxL ret rm Q h k n sf pc L (.int x :: S) := by
  subst hp
  exact Seg.plain (fun p e m below c T t hx hc ha hr => XT.i2l ha hx rfl (hb hc hd) rfl (by subst hv; exact hr)) g
theorem Seg.l2i {x : Int64} {v : Int32} (hd : decode bytes pc = .ok (.l2i, 1)) (hv : x.toInt32 = v) (hp : pc + 1 = pc') (g : Seg l Z a0 EL y bytes maxL ret rm Q h k n sf pc' L (.int v :: S)) : Seg l Z a0 EL y bytes maxL ret rm Q h k n sf pc L (.long x :: S) := by
  subst hp
  exact Seg.plain (fun p e m below c T t hx hc ha hr => XT.l2i ha hx rfl (hb hc hd) rfl (by subst hv; exact hr)) g
theorem Seg.i2b {x : Int32} {v : Int32} (hd : decode bytes pc = .ok (.i2b, 1)) (hv : x.toInt8.toInt32 = v) (hp : pc + 1 = pc') (g : Seg l Z a0 EL y bytes maxL ret rm Q h k n sf pc' L (.int v :: S)) : Seg l Z a0 EL y bytes maxL ret rm Q h k n sf pc L (.int x :: S) := by
  subst hp
  exact Seg.plain (fun p e m below c T t hx hc ha hr => XT.i2b ha hx rfl (hb hc hd) rfl (by subst hv; exact hr)) g
theorem Seg.i2c {x : Int32} {v : Int32} (hd : decode bytes pc = .ok (.i2c, 1)) (hv : x.toUInt32.toUInt16.toUInt32.toInt32 = v) (hp : pc + 1 = pc') (g : Seg l Z a0 EL y bytes maxL ret rm Q h k n sf pc' L (.int v :: S)) : Seg l Z a0 EL y bytes maxL ret rm Q h k n sf pc L (.int x :: S) := by
  subst hp
  exact Seg.plain (fun p e m below c T t hx hc ha hr => XT.i2c ha hx rfl (hb hc hd) rfl (by subst hv; exact hr)) g
theorem Seg.irem {x z v : Int32} (hd : decode bytes pc = .ok (.irem, 1)) (hz : z ≠ 0) (hv : x % z = v) (hp : pc + 1 = pc') (g : Seg l Z a0 EL y bytes maxL ret rm Q h k n sf pc' L (.int v :: S)) : Seg l Z a0 EL y bytes maxL ret rm Q h k n sf pc L (.int z :: .int x :: S) := by
  subst hp
  exact Seg.plain (fun p e m below c T t hx hc ha hr => XS.irem ha hx rfl (hb hc hd) rfl hz (by subst hv; rw [irem_eq_mod]; exact hr)) g
theorem Seg.lcmp {x z : Int64} {v : Int32} (hd : decode bytes pc = .ok (.lcmp, 1)) (hv : lcmpW x z = v) (hp : pc + 1 = pc') (g : Seg l Z a0 EL y bytes maxL ret rm Q h k n sf pc' L (.int v :: S)) : Seg l Z a0 EL y bytes maxL ret rm Q h k n sf pc L (.long z :: .long x :: S) := by
  subst hp
  exact Seg.plain (fun p e m below c T t hx hc ha hr => XT.lcmp ha hx rfl (hb hc hd) rfl (by subst hv; exact hr)) g
theorem Seg.dup {v : Value} (hd : decode bytes pc = .ok (.dup, 1)) (hv : v.category = 1) (hp : pc + 1 = pc') (g : Seg l Z a0 EL y bytes maxL ret rm Q h k n sf pc' L (v :: v :: S)) : Seg l Z a0 EL y bytes maxL ret rm Q h k n sf pc L (v :: S) := by
  subst hp
  exact Seg.plain (fun p e m below c T t hx hc ha hr => XS.dup ha hx rfl (hb hc hd) rfl hv hr) g
theorem Seg.dupX1 {v w : Value} (hd : decode bytes pc = .ok (.dup_x1, 1)) (hv : v.category = 1) (hw : w.category = 1) (hp : pc + 1 = pc') (g : Seg l Z a0 EL y bytes maxL ret rm Q h k n sf pc' L (v :: w :: v :: S)) : Seg l Z a0 EL y bytes maxL ret rm Q h k n sf pc L (v :: w :: S) := by
  subst hp
  exact Seg.plain (fun p e m below c T t hx hc ha hr => XT.dupX1 ha hx rfl (hb hc hd) rfl hv hw hr) g
theorem Seg.pop {v : Value} (hd : decode bytes pc = .ok (.pop, 1)) (hv : v.category = 1) (hp : pc + 1 = pc') (g : Seg l Z a0 EL y bytes maxL ret rm Q h k n sf pc' L S) : Seg l Z a0 EL y bytes maxL ret rm Q h k n sf pc L (v :: S) := by
  subst hp
  exact Seg.plain (fun p e m below c T t hx hc ha hr => XT.pop ha hx rfl (hb hc hd) rfl hv hr) g
theorem Seg.iinc {i : Nat} {d : Int} {x v : Int32} {L' : Array Slot} (hd : decode bytes pc = .ok (.iinc i d, 3)) (hv : Int32.ofInt d = v) (hl : L[i]? = some (.val (.int x))) {z : Int32} (hz : x + v = z) (hl' : storeLocals L i (.int z) = some L') (hp : pc + 3 = pc') (g : Seg l Z a0 EL y bytes maxL ret rm Q h k n sf pc' L' S) : Seg l Z a0 EL y bytes maxL ret rm Q h k n sf pc L S := by
  subst hp
  exact Seg.plain (fun p e m below c T t hx hc ha hr => XT.iincV ha hx rfl v (hb hc hd) hv hl (by rw [hz]; exact hl') hr) g
theorem Seg.goto {o : Int} (hd : decode bytes pc = .ok (.goto o, 3))  (ho : 0 ≤ (pc : Int) + o) (hp : ((pc : Int) + o).toNat = pc') (g : Seg l Z a0 EL y bytes maxL ret rm Q h k n sf pc' L S) : Seg l Z a0 EL y bytes maxL ret rm Q h k n sf pc L S := by
  subst hp
  exact Seg.plain (fun p e m below c T t hx hc ha hr => XS.goto ha hx rfl rfl (hb hc hd) ho rfl hr) g
theorem Seg.ifY {cd : ClassFile.Cond} {o : Int} {x : Int32} (hd : decode bytes pc = .ok (.ifCond cd o, 3)) (hc' : ifCond.holds cd x = true) (ho : 0 ≤ (pc : Int) + o) (hp : ((pc : Int) + o).toNat = pc') (g : Seg l Z a0 EL y bytes maxL ret rm Q h k n sf pc' L S) : Seg l Z a0 EL y bytes maxL ret rm Q h k n sf pc L (.int x :: S) := by
  subst hp
  exact Seg.plain (fun p e m below c T t hx hc ha hr => XS.ifYes ha hx rfl rfl (hb hc hd) rfl hc' ho rfl hr) g
theorem Seg.ifN {cd : ClassFile.Cond} {o : Int} {x : Int32} (hd : decode bytes pc = .ok (.ifCond cd o, 3)) (hc' : ifCond.holds cd x = false) (hp : pc + 3 = pc') (g : Seg l Z a0 EL y bytes maxL ret rm Q h k n sf pc' L S) : Seg l Z a0 EL y bytes maxL ret rm Q h k n sf pc L (.int x :: S) := by
  subst hp
  exact Seg.plain (fun p e m below c T t hx hc ha hr => XS.ifNo ha hx rfl (hb hc hd) rfl hc' hr) g
theorem Seg.icY {cd : ClassFile.Cond} {o : Int} {x z : Int32} (hd : decode bytes pc = .ok (.if_icmp cd o, 3)) (hc' : if_icmp.holds cd x z = true) (ho : 0 ≤ (pc : Int) + o) (hp : ((pc : Int) + o).toNat = pc') (g : Seg l Z a0 EL y bytes maxL ret rm Q h k n sf pc' L S) : Seg l Z a0 EL y bytes maxL ret rm Q h k n sf pc L (.int z :: .int x :: S) := by
  subst hp
  exact Seg.plain (fun p e m below c T t hx hc ha hr => XS.icmpYes ha hx rfl rfl (hb hc hd) rfl hc' ho rfl hr) g
theorem Seg.icN {cd : ClassFile.Cond} {o : Int} {x z : Int32} (hd : decode bytes pc = .ok (.if_icmp cd o, 3)) (hc' : if_icmp.holds cd x z = false) (hp : pc + 3 = pc') (g : Seg l Z a0 EL y bytes maxL ret rm Q h k n sf pc' L S) : Seg l Z a0 EL y bytes maxL ret rm Q h k n sf pc L (.int z :: .int x :: S) := by
  subst hp
  exact Seg.plain (fun p e m below c T t hx hc ha hr => XS.icmpNo ha hx rfl (hb hc hd) rfl hc' hr) g
theorem Seg.nullY {o : Int} (hd : decode bytes pc = .ok (.ifnull o, 3))  (ho : 0 ≤ (pc : Int) + o) (hp : ((pc : Int) + o).toNat = pc') (g : Seg l Z a0 EL y bytes maxL ret rm Q h k n sf pc' L S) : Seg l Z a0 EL y bytes maxL ret rm Q h k n sf pc L (.null :: S) := by
  subst hp
  exact Seg.plain (fun p e m below c T t hx hc ha hr => XS.ifnullYes ha hx rfl rfl (hb hc hd) rfl ho rfl hr) g
theorem Seg.nullN {o : Int} {a : Addr} (hd : decode bytes pc = .ok (.ifnull o, 3))  (hp : pc + 3 = pc') (g : Seg l Z a0 EL y bytes maxL ret rm Q h k n sf pc' L S) : Seg l Z a0 EL y bytes maxL ret rm Q h k n sf pc L (.ref a :: S) := by
  subst hp
  exact Seg.plain (fun p e m below c T t hx hc ha hr => XS.ifnullNo ha hx rfl (hb hc hd) rfl hr) g
theorem Seg.nonnY {o : Int} {a : Addr} (hd : decode bytes pc = .ok (.ifnonnull o, 3))  (ho : 0 ≤ (pc : Int) + o) (hp : ((pc : Int) + o).toNat = pc') (g : Seg l Z a0 EL y bytes maxL ret rm Q h k n sf pc' L S) : Seg l Z a0 EL y bytes maxL ret rm Q h k n sf pc L (.ref a :: S) := by
  subst hp
  exact Seg.plain (fun p e m below c T t hx hc ha hr => XT.ifnonnullYes ha hx rfl rfl (hb hc hd) rfl ho rfl hr) g
theorem Seg.nonnN {o : Int} (hd : decode bytes pc = .ok (.ifnonnull o, 3))  (hp : pc + 3 = pc') (g : Seg l Z a0 EL y bytes maxL ret rm Q h k n sf pc' L S) : Seg l Z a0 EL y bytes maxL ret rm Q h k n sf pc L (.null :: S) := by
  subst hp
  exact Seg.plain (fun p e m below c T t hx hc ha hr => XT.ifnonnullNo ha hx rfl (hb hc hd) rfl hr) g
theorem Seg.acY {cd : ClassFile.ACond} {o : Int} {x z : Value} (hd : decode bytes pc = .ok (.if_acmp cd o, 3)) (hx' : x.isRef = true) (hz' : z.isRef = true) (hc' : XT.acmp cd x z = true) (ho : 0 ≤ (pc : Int) + o) (hp : ((pc : Int) + o).toNat = pc') (g : Seg l Z a0 EL y bytes maxL ret rm Q h k n sf pc' L S) : Seg l Z a0 EL y bytes maxL ret rm Q h k n sf pc L (z :: x :: S) := by
  subst hp
  exact Seg.plain (fun p e m below c T t hx hc ha hr => XT.acmpYes ha hx rfl rfl (hb hc hd) rfl hx' hz' hc' ho rfl hr) g
theorem Seg.acN {cd : ClassFile.ACond} {o : Int} {x z : Value} (hd : decode bytes pc = .ok (.if_acmp cd o, 3)) (hx' : x.isRef = true) (hz' : z.isRef = true) (hc' : XT.acmp cd x z = false) (hp : pc + 3 = pc') (g : Seg l Z a0 EL y bytes maxL ret rm Q h k n sf pc' L S) : Seg l Z a0 EL y bytes maxL ret rm Q h k n sf pc L (z :: x :: S) := by
  subst hp
  exact Seg.plain (fun p e m below c T t hx hc ha hr => XT.acmpNo ha hx rfl (hb hc hd) rfl hx' hz' hc' hr) g
end Plain
section Heap
variable {l : Launch} {Z : State} {a0 : Array Value} {EL : List (String × Nat)} {y : MethodName} {bytes : ByteArray} {maxL : Nat} {ret : Option FieldType} {rm : Room} {Q : Option Value → Heap → Prop} {h : Heap} {k n : Nat} {sf : List Addr} {pc pc' : Nat} {L : Array Slot} {S : List Value}
variable {p : Program} {e : Env} {R : Room} {s : State} {m : MethodId} {args : Array Value} {below : List Frame} {meth : Method} {c : Code} {T : State} {own : String}
theorem Seg.newO {C : String} {idx sz : Nat} (w : (Cond.classLink y.cls idx C).before a0 Z = true) (wi : (Cond.instantiable C sz).before a0 Z = true) (wz : (Cond.initialized C).before a0 Z = true) (hd : decode bytes pc = .ok (.new idx, 3)) (hp : pc + 3 = pc') {k' n' : Nat} (hk : k + 1 = k') (hn : n + sz = n') (hk2 : k' ≤ rm.cells) (hn2 : n' ≤ rm.slots)
    (g : ∀ (x : Addr) (h' : Heap), Ext h h' → h.size = x → x < h'.size → Exa Z h' x C → (∀ {O nm d : String} {ty : FieldType}, Laid Z a0 C O nm d → parseFieldDescriptor d = some ty → Fld Z h' x O nm d (defaultValue ty)) → Seg l Z a0 EL y bytes maxL ret rm Q h' k' n' (x :: sf) pc' L (.ref x :: S)) :
    Seg l Z a0 EL y bytes maxL ret rm Q h k n sf pc L S := by
  subst hp hk hn
  intro p e s m args below meth c T C' w'
  obtain ⟨vm0, locs, k0, X, r1, r2, r3, r4, r5, r6, r7, r8, r9, r10⟩ := w'
  obtain ⟨T', h', X', e', E, A, D, -, st⟩ := RoadKit.newO X C'.1 r4 r5 w wi wz r1 (g := mkF m pc L S) rfl (hb C'.2.1 hd) hk2 hn2
  refine Gl.st st (g _ h' E rfl A.lt A D p e s m args below meth c T' C' ⟨vm0, locs, k0, X', e', r2, Nat.le_trans r3 E.1, r4, r5, r6.trans (CHr.ext E r6.1), r7, ext_tr r8 E, r9, ?_⟩)
  exact (r10.chr (CHr.ext E r6.1)).cons r8.1 A.lt ((Safe.new (Nat.le_refl _)).ext E r6.1)
theorem Seg.newP {aty : ArrayType} {ty : FieldType} {dv : Value} {z : Int32} (hty : newarray.typeOf aty = ty) (hdv : defaultValue ty = dv) (w : (Cond.arrayClass ty).before a0 Z = true) (hd : decode bytes pc = .ok (.newarray aty, 2)) (hp : pc + 2 = pc') (hz : ¬ z < 0) {cap : Nat} (hcap : z.toNatClampNeg ≤ cap) (hb8 : cap * 8 ≤ 536870912) {k' n' : Nat} (hk : k + 1 = k') (hn : n + cap = n') (hk2 : k' ≤ rm.cells) (hn2 : n' ≤ rm.slots)
    (g : ∀ (x : Addr) (h' : Heap) (kc : ClassId), Ext h h' → h.size = x → x < h'.size → Arv Z h' x kc ty z [] dv → Seg l Z a0 EL y bytes maxL ret rm Q h' k' n' (x :: sf) pc' L (.ref x :: S)) :
    Seg l Z a0 EL y bytes maxL ret rm Q h k n sf pc L (.int z :: S) := by
  subst hp hk hn hty hdv
  intro p e s m args below meth c T C' w'
  obtain ⟨vm0, locs, k0, X, r1, r2, r3, r4, r5, r6, r7, r8, r9, r10⟩ := w'
  obtain ⟨T', h', cA, X', e', E, A, st⟩ := RoadKit.newP X C'.1 r4 w r1 (g := mkF m pc L (.int z :: S)) rfl (hb C'.2.1 hd) rfl hz hcap hb8 hk2 hn2
  have V := Arv.new A hz
  refine Gl.st st (g _ h' cA E rfl A.lt V p e s m args below meth c T' C' ⟨vm0, locs, k0, X', e', r2, Nat.le_trans r3 E.1, r4, r5, r6.trans (CHr.ext E r6.1), r7, ext_tr r8 E, r9, ?_⟩)
  exact (r10.chr (CHr.ext E r6.1)).cons r8.1 A.lt ((Safe.new (Nat.le_refl _)).ext E r6.1)
theorem Seg.getF {R0 O nm d host : String} {idx : Nat} {a : Addr} {v : Value} (w : (Cond.fieldLink y.cls idx R0 nm d).before a0 Z = true ∨ (Cond.fieldLinkNest y.cls idx R0 nm d host).before a0 Z = true) (via : Via Z R0 O nm d) (F : Fld Z h a O nm d v) (hd : decode bytes pc = .ok (.getfield idx, 3)) (hp : pc + 3 = pc')
    (g : Seg l Z a0 EL y bytes maxL ret rm Q h k n sf pc' L (v :: S)) : Seg l Z a0 EL y bytes maxL ret rm Q h k n sf pc L (.ref a :: S) := by
  subst hp
  intro p e s m args below meth c T C' w'
  obtain ⟨vm0, locs, k0, X, r1, r2, r3, r4, r5, r⟩ := w'
  obtain ⟨T', X', e', st⟩ := RoadKit.getF X C'.1 r4 r5 w via r1 F (g := mkF m pc L (.ref a :: S)) rfl rfl (hb C'.2.1 hd)
  exact Gl.st st (g p e s m args below meth c T' C' ⟨vm0, locs, k0, X', e', r2, r3, r4, r5, r⟩)
theorem Seg.getS {R0 O nm d : String} {idx : Nat} {v : Value} (w : (Cond.fieldLink y.cls idx R0 nm d).before a0 Z = true) (via : Via Z R0 O nm d) (F : Sta Z Z.heap O nm d v) (hd : decode bytes pc = .ok (.getstatic idx, 3)) (hp : pc + 3 = pc')
    (g : Seg l Z a0 EL y bytes maxL ret rm Q h k n sf pc' L (v :: S)) : Seg l Z a0 EL y bytes maxL ret rm Q h k n sf pc L S := by
  subst hp
  intro p e s m args below meth c T C' w'
  obtain ⟨vm0, locs, k0, X, r1, r2, r3, r4, r5, r6, r7, r8, r⟩ := w'
  obtain ⟨T', X', e', st⟩ := RoadKit.getS X C'.1 r4 (host := "") r5 w via r1 (F.ext r8) (g := mkF m pc L S) rfl (hb C'.2.1 hd)
  exact Gl.st st (g p e s m args below meth c T' C' ⟨vm0, locs, k0, X', e', r2, r3, r4, r5, r6, r7, r8, r⟩)
theorem Seg.castY {K : String} {idx : Nat} {a : Addr} (w : (Cond.classLink y.cls idx K).before a0 Z = true) (F : Ins Z h a K true) (hd : decode bytes pc = .ok (.checkcast idx, 3)) (hp : pc + 3 = pc')
    (g : Seg l Z a0 EL y bytes maxL ret rm Q h k n sf pc' L (.ref a :: S)) : Seg l Z a0 EL y bytes maxL ret rm Q h k n sf pc L (.ref a :: S) := by
  subst hp
  intro p e s m args below meth c T C' w'
  obtain ⟨vm0, locs, k0, X, r1, r2, r3, r4, r5, r⟩ := w'
  obtain ⟨T', X', e', st⟩ := RoadKit.castY X C'.1 r4 r5 w r1 F (g := mkF m pc L (.ref a :: S)) rfl rfl (hb C'.2.1 hd)
  exact Gl.st st (g p e s m args below meth c T' C' ⟨vm0, locs, k0, X', e', r2, r3, r4, r5, r⟩)
theorem Seg.castNull {idx : Nat} (hd : decode bytes pc = .ok (.checkcast idx, 3)) (hp : pc + 3 = pc')
    (g : Seg l Z a0 EL y bytes maxL ret rm Q h k n sf pc' L (.null :: S)) : Seg l Z a0 EL y bytes maxL ret rm Q h k n sf pc L (.null :: S) := by
  subst hp
  intro p e s m args below meth c T C' w'
  obtain ⟨vm0, locs, k0, X, r⟩ := w'
  exact Gl.st (X.checkcastNull C'.1 (g := mkF m pc L (.null :: S)) rfl rfl (hb C'.2.1 hd)) (g p e s m args below meth c T C' ⟨vm0, locs, k0, X, r⟩)
theorem Seg.instNull {idx : Nat} (hd : decode bytes pc = .ok (.instanceof idx, 3)) (hp : pc + 3 = pc')
    (g : Seg l Z a0 EL y bytes maxL ret rm Q h k n sf pc' L (.int 0 :: S)) : Seg l Z a0 EL y bytes maxL ret rm Q h k n sf pc L (.null :: S) := by
  subst hp
  intro p e s m args below meth c T C' w'
  obtain ⟨vm0, locs, k0, X, r⟩ := w'
  exact Gl.st (X.instanceofNull C'.1 (g := mkF m pc L (.null :: S)) rfl rfl (hb C'.2.1 hd)) (g p e s m args below meth c T C' ⟨vm0, locs, k0, X, r⟩)
theorem Seg.instY {K : String} {idx : Nat} {a : Addr} (w : (Cond.classLink y.cls idx K).before a0 Z = true) (F : Ins Z h a K true) (hd : decode bytes pc = .ok (.instanceof idx, 3)) (hp : pc + 3 = pc')
    (g : Seg l Z a0 EL y bytes maxL ret rm Q h k n sf pc' L (.int 1 :: S)) : Seg l Z a0 EL y bytes maxL ret rm Q h k n sf pc L (.ref a :: S) := by
  subst hp
  intro p e s m args below meth c T C' w'
  obtain ⟨vm0, locs, k0, X, r1, r2, r3, r4, r5, r⟩ := w'
  obtain ⟨T', X', e', st⟩ := RoadKit.instY X C'.1 r4 r5 w r1 F (g := mkF m pc L (.ref a :: S)) rfl rfl (hb C'.2.1 hd)
  exact Gl.st st (g p e s m args below meth c T' C' ⟨vm0, locs, k0, X', e', r2, r3, r4, r5, r⟩)
theorem Seg.instNo {K C : String} {idx : Nat} {a : Addr} (w : (Cond.classLink y.cls idx K).before a0 Z = true) (E : Exa Z h a C) (F : ∃ c t, Z.vm.findClass C = some c ∧ Z.vm.findClass K = some t ∧ Z.vm.assignable c t = false) (hd : decode bytes pc = .ok (.instanceof idx, 3)) (hp : pc + 3 = pc')
    (g : Seg l Z a0 EL y bytes maxL ret rm Q h k n sf pc' L (.int 0 :: S)) : Seg l Z a0 EL y bytes maxL ret rm Q h k n sf pc L (.ref a :: S) := by
  subst hp
  intro p e s m args below meth c T C' w'
  obtain ⟨vm0, locs, k0, X, r1, r2, r3, r4, r5, r⟩ := w'
  obtain ⟨T', X', e', st⟩ := RoadKit.instNo X C'.1 r4 r5 w r1 E F (g := mkF m pc L (.ref a :: S)) rfl rfl (hb C'.2.1 hd)
  exact Gl.st st (g p e s m args below meth c T' C' ⟨vm0, locs, k0, X', e', r2, r3, r4, r5, r⟩)
theorem Seg.initO {idx : Nat} {a : Addr} (w1 : (Cond.methodLink y.cls idx Lib.objectInit).before a0 Z = true) (w2 : (Cond.instanceMethod Lib.objectInit).before a0 Z = true) (w3 : (Cond.code Lib.objectInit ⟨#[0xb1]⟩ 1 none).before a0 Z = true) (hsz : L.size = maxL) (hd : decode bytes pc = .ok (.invokespecial idx, 3)) (hp : pc + 3 = pc') (hf : 1 ≤ rm.frames) {W : Nat} (hW : (S.map fun v => v.category).sum ≤ W) (hl : W + 12 ≤ rm.locals)
    (g : Seg l Z a0 EL y bytes maxL ret rm Q h k n sf pc' L S) : Seg l Z a0 EL y bytes maxL ret rm Q h k n sf pc L (.ref a :: S) := by
  subst hp
  intro p e s m args below meth c T C' w'
  obtain ⟨vm0, locs, k0, X, r1, r2, r3, r4, r5, r⟩ := w'
  obtain ⟨T', X', e', st⟩ := RoadKit.initO X C'.1 r4 r5 w1 w2 w3 r1 (g := mkF m pc L (.ref a :: S)) rfl (hsz.trans C'.2.2.1.symm) rfl (hb C'.2.1 hd) hf (W := W) (by show 2 * 0 + _ ≤ _; omega) hl
  exact Gl.st st (g p e s m args below meth c T' C' ⟨vm0, locs, k0, X', e', r2, r3, r4, r5, r⟩)
theorem wkWr {h' : Heap} {a : Addr} {sl : Nat} {v : Value} {T' : State} {vm0 : Vm} {locs : List Loc} {k0 : Nat} (W : Wr h h' a sl v) (hsf : a ∈ sf) (X' : Stand p l e R (s.setVm vm0) m args below meth c T' (locs ++ [⟨a, sl⟩]) k n) (e' : T'.heap = h')
    (r : s.Since vm0 k0 ∧ k0 ≤ h.size ∧ Z.Warmed39 vm0 ∧ vm0.findClass own = some m.cls ∧ CHr Z EL s.vm s.heap vm0 h ∧ Fr Z.heap.size locs ∧ Ext Z.heap h ∧ EW Z a0 EL ∧ SfOk Z EL vm0 h sf) : Wk p l e R s m args below meth c Z a0 EL own sf k n T' h' := by
  obtain ⟨r2, r3, r4, r5, r6, r7, r8, r9, r10⟩ := r
  obtain ⟨q1, q2, q3⟩ := r10 a hsf
  have A := CHr.wr W q3 r6.1
  exact ⟨vm0, _, k0, X', e', r2, Nat.le_trans r3 A.2.1, r4, r5, r6.trans A, Fr.snoc X' r7 q1, ext_wr r8 W q1, r9, r10.chr A⟩
theorem Seg.putF {R0 O nm d host C : String} {idx kk : Nat} {ty : FieldType} {a : Addr} {v v' old : Value} (w : (Cond.fieldLink y.cls idx R0 nm d).before a0 Z = true) (via : Via Z R0 O nm d) (F : Fld Z h a O nm d old) (E : Exa Z h a C) (Lw : (Cond.lays C O nm d).before a0 Z = true ∨ ((Cond.laysFinal C O nm d).before a0 Z = true ∧ y.cls = O ∧ y.name = "<init>")) (wi : (Cond.instantiable C kk).before a0 Z = true)
    (hty : parseFieldDescriptor d = some ty) (hnw : narrow ty v = v') (hf : fits ty v' = true) (hsf : a ∈ sf) (hd : decode bytes pc = .ok (.putfield idx, 3)) (hp : pc + 3 = pc')
    (g : ∀ h', Wr h h' a (RoadKit.slotOf Z O nm d) v' → Fld Z h' a O nm d v' → Seg l Z a0 EL y bytes maxL ret rm Q h' k n sf pc' L S) : Seg l Z a0 EL y bytes maxL ret rm Q h k n sf pc L (v :: .ref a :: S) := by
  subst hp
  intro p e s m args below meth c T C' w'
  obtain ⟨vm0, locs, k0, X, r1, r2, r3, r4, r5, r⟩ := w'
  obtain ⟨T', h', X', e', W, st⟩ := RoadKit.putFN X C'.1 r4 r5 w via r1 F E (Lw.imp id fun q => ⟨q.1, q.2.1, C'.2.2.2.2.2.trans q.2.2⟩) wi hty hnw hf (g := mkF m pc L (v :: .ref a :: S)) rfl rfl (hb C'.2.1 hd)
  exact Gl.st st (g h' W (F.same W) p e s m args below meth c T' C' (wkWr W hsf X' e' ⟨r2, r3, r4, r5, r⟩))
theorem Seg.castore {a : Addr} {kc : ClassId} {z j v v' : Int32} {vs : List Value} {dv : Value} {i : Nat} (F : Arv Z h a kc .char z vs dv) (hj : ¬ j < 0 ∧ j < z) (hi : j.toNatClampNeg = i) (hil : i < vs.length) (hv : nar .char v = v') (hsf : a ∈ sf) (hd : decode bytes pc = .ok (.castore, 1)) (hp : pc + 1 = pc')
    (g : ∀ h', Wr h h' a i (.int v') → Arv Z h' a kc .char z (vs.set i (.int v')) dv → Seg l Z a0 EL y bytes maxL ret rm Q h' k n sf pc' L S) : Seg l Z a0 EL y bytes maxL ret rm Q h k n sf pc L (.int v :: .int j :: .ref a :: S) := by
  subst hp hv hi
  intro p e s m args below meth c T C' w'
  obtain ⟨vm0, locs, k0, X, r1, r2, r3, r4, r5, r⟩ := w'
  obtain ⟨cl, A, q, Sz, N, H, G⟩ := F
  obtain ⟨T', h', X', e', W, st⟩ := RoadKit.stC X C'.1 r4 r1 A (inb_of Sz hj) (g := mkF m pc L (.int v :: .int j :: .ref a :: S)) rfl rfl (hb C'.2.1 hd)
  exact Gl.st st (g h' W (Arv.set A q Sz N H G (fits_nar_char _) W _ rfl hil) p e s m args below meth c T' C' (wkWr W hsf X' e' ⟨r2, r3, r4, r5, r⟩))
theorem Seg.bastore {a : Addr} {kc : ClassId} {z j v v' : Int32} {vs : List Value} {dv : Value} {i : Nat} (F : Arv Z h a kc .byte z vs dv) (hj : ¬ j < 0 ∧ j < z) (hi : j.toNatClampNeg = i) (hil : i < vs.length) (hv : nar .byte v = v') (hsf : a ∈ sf) (hd : decode bytes pc = .ok (.bastore, 1)) (hp : pc + 1 = pc')
    (g : ∀ h', Wr h h' a i (.int v') → Arv Z h' a kc .byte z (vs.set i (.int v')) dv → Seg l Z a0 EL y bytes maxL ret rm Q h' k n sf pc' L S) : Seg l Z a0 EL y bytes maxL ret rm Q h k n sf pc L (.int v :: .int j :: .ref a :: S) := by
  subst hp hv hi
  intro p e s m args below meth c T C' w'
  obtain ⟨vm0, locs, k0, X, r1, r2, r3, r4, r5, r⟩ := w'
  obtain ⟨cl, A, q, Sz, N, H, G⟩ := F
  obtain ⟨T', h', X', e', W, st⟩ := RoadKit.stB X C'.1 r4 r1 A (inb_of Sz hj) (g := mkF m pc L (.int v :: .int j :: .ref a :: S)) rfl rfl (hb C'.2.1 hd)
  exact Gl.st st (g h' W (Arv.set A q Sz N H G (fits_nar_byte _) W _ rfl hil) p e s m args below meth c T' C' (wkWr W hsf X' e' ⟨r2, r3, r4, r5, r⟩))
theorem Seg.iastore {a : Addr} {kc : ClassId} {z j v : Int32} {vs : List Value} {dv : Value} {i : Nat} (F : Arv Z h a kc .int z vs dv) (hj : ¬ j < 0 ∧ j < z) (hi : j.toNatClampNeg = i) (hil : i < vs.length) (hsf : a ∈ sf) (hd : decode bytes pc = .ok (.iastore, 1)) (hp : pc + 1 = pc')
    (g : ∀ h', Wr h h' a i (.int v) → Arv Z h' a kc .int z (vs.set i (.int v)) dv → Seg l Z a0 EL y bytes maxL ret rm Q h' k n sf pc' L S) : Seg l Z a0 EL y bytes maxL ret rm Q h k n sf pc L (.int v :: .int j :: .ref a :: S) := by
  subst hp hi
  intro p e s m args below meth c T C' w'
  obtain ⟨vm0, locs, k0, X, r1, r2, r3, r4, r5, r⟩ := w'
  obtain ⟨cl, A, q, Sz, N, H, G⟩ := F
  obtain ⟨T', h', X', e', W, st⟩ := RoadKit.stI X C'.1 r4 r1 A (inb_of Sz hj) (g := mkF m pc L (.int v :: .int j :: .ref a :: S)) rfl rfl (hb C'.2.1 hd)
  exact Gl.st st (g h' W (Arv.set A q Sz N H G rfl W _ rfl hil) p e s m args below meth c T' C' (wkWr W hsf X' e' ⟨r2, r3, r4, r5, r⟩))
theorem Seg.caload {a : Addr} {kc : ClassId} {z j : Int32} {vs : List Value} {dv v : Value} (F : Arv Z h a kc .char z vs dv) (hj : ¬ j < 0 ∧ j < z) (hv : vs.getD j.toNatClampNeg dv = v) (hd : decode bytes pc = .ok (.caload, 1)) (hp : pc + 1 = pc')
    (g : Seg l Z a0 EL y bytes maxL ret rm Q h k n sf pc' L (v :: S)) : Seg l Z a0 EL y bytes maxL ret rm Q h k n sf pc L (.int j :: .ref a :: S) := by
  subst hp
  intro p e s m args below meth c T C' w'
  obtain ⟨vm0, locs, k0, X, r1, r2, r3, r4, r⟩ := w'
  obtain ⟨cl, A, q, Sz, N, H, G⟩ := F
  exact Gl.st (X.caload C'.1 (by rw [r1]; exact A.1) (State.isArrayOf_alike r4.alike A.2.1) A.2.2 (inb_of Sz hj) (H.at (inb_of Sz hj) hv) (g := mkF m pc L (.int j :: .ref a :: S)) rfl rfl (hb C'.2.1 hd)) (g p e s m args below meth c T C' ⟨vm0, locs, k0, X, r1, r2, r3, r4, r⟩)
theorem Seg.baload {a : Addr} {kc : ClassId} {z j : Int32} {vs : List Value} {dv v : Value} (F : Arv Z h a kc .byte z vs dv) (hj : ¬ j < 0 ∧ j < z) (hv : vs.getD j.toNatClampNeg dv = v) (hd : decode bytes pc = .ok (.baload, 1)) (hp : pc + 1 = pc')
    (g : Seg l Z a0 EL y bytes maxL ret rm Q h k n sf pc' L (v :: S)) : Seg l Z a0 EL y bytes maxL ret rm Q h k n sf pc L (.int j :: .ref a :: S) := by
  subst hp
  intro p e s m args below meth c T C' w'
  obtain ⟨vm0, locs, k0, X, r1, r2, r3, r4, r⟩ := w'
  obtain ⟨cl, A, q, Sz, N, H, G⟩ := F
  exact Gl.st (X.baloadBytes C'.1 (by rw [r1]; exact A.1) (State.isArrayOf_alike r4.alike A.2.1) A.2.2 (inb_of Sz hj) (H.at (inb_of Sz hj) hv) (g := mkF m pc L (.int j :: .ref a :: S)) rfl rfl (hb C'.2.1 hd)) (g p e s m args below meth c T C' ⟨vm0, locs, k0, X, r1, r2, r3, r4, r⟩)
theorem Seg.iaload {a : Addr} {kc : ClassId} {z j : Int32} {vs : List Value} {dv v : Value} (F : Arv Z h a kc .int z vs dv) (hj : ¬ j < 0 ∧ j < z) (hv : vs.getD j.toNatClampNeg dv = v) (hd : decode bytes pc = .ok (.iaload, 1)) (hp : pc + 1 = pc')
    (g : Seg l Z a0 EL y bytes maxL ret rm Q h k n sf pc' L (v :: S)) : Seg l Z a0 EL y bytes maxL ret rm Q h k n sf pc L (.int j :: .ref a :: S) := by
  subst hp
  intro p e s m args below meth c T C' w'
  obtain ⟨vm0, locs, k0, X, r1, r2, r3, r4, r⟩ := w'
  obtain ⟨cl, A, q, Sz, N, H, G⟩ := F
  exact Gl.st (X.iaload C'.1 (by rw [r1]; exact A.1) (State.isArrayOf_alike r4.alike A.2.1) A.2.2 (inb_of Sz hj) (H.at (inb_of Sz hj) hv) (g := mkF m pc L (.int j :: .ref a :: S)) rfl rfl (hb C'.2.1 hd)) (g p e s m args below meth c T C' ⟨vm0, locs, k0, X, r1, r2, r3, r4, r⟩)
theorem Seg.aaload {a : Addr} {kc : ClassId} {z j : Int32} {ty : FieldType} {vs : List Value} {dv v : Value} (hty : ty.isReference = true) (F : Arv Z h a kc ty z vs dv) (hj : ¬ j < 0 ∧ j < z) (hv : vs.getD j.toNatClampNeg dv = v) (hd : decode bytes pc = .ok (.aaload, 1)) (hp : pc + 1 = pc')
    (g : Seg l Z a0 EL y bytes maxL ret rm Q h k n sf pc' L (v :: S)) : Seg l Z a0 EL y bytes maxL ret rm Q h k n sf pc L (.int j :: .ref a :: S) := by
  subst hp
  intro p e s m args below meth c T C' w'
  obtain ⟨vm0, locs, k0, X, r1, r2, r3, r4, r⟩ := w'
  obtain ⟨cl, A, q, Sz, N, H, G⟩ := F
  exact Gl.st (X.aaload C'.1 (by rw [r1]; exact A.1) (State.isArrayOf_alike r4.alike A.2.1) hty A.2.2 (inb_of Sz hj) (H.at (inb_of Sz hj) hv) (g := mkF m pc L (.int j :: .ref a :: S)) rfl rfl (hb C'.2.1 hd)) (g p e s m args below meth c T C' ⟨vm0, locs, k0, X, r1, r2, r3, r4, r⟩)
theorem Seg.alen {a : Addr} {kc : ClassId} {z : Int32} {ty : FieldType} {vs : List Value} {dv : Value} (F : Arv Z h a kc ty z vs dv) (hd : decode bytes pc = .ok (.arraylength, 1)) (hp : pc + 1 = pc')
    (g : Seg l Z a0 EL y bytes maxL ret rm Q h k n sf pc' L (.int z :: S)) : Seg l Z a0 EL y bytes maxL ret rm Q h k n sf pc L (.ref a :: S) := by
  subst hp
  intro p e s m args below meth c T C' w'
  obtain ⟨vm0, locs, k0, X, r1, r2, r3, r4, r⟩ := w'
  obtain ⟨cl, A, q, Sz, N, H, G⟩ := F
  refine Gl.st (fun t hr => X.arraylength C'.1 (by rw [r1]; exact A.1) (State.isArrayOf_alike r4.alike A.2.1) (g := mkF m pc L (.ref a :: S)) rfl rfl (hb C'.2.1 hd) t ?_) (g p e s m args below meth c T C' ⟨vm0, locs, k0, X, r1, r2, r3, r4, r⟩)
  rw [len_of Sz N]; exact hr
theorem Seg.ldcI {idx : Nat} {v : Int32} (w : (Cond.constant y.cls idx v).before a0 Z = true) (hd : decode bytes pc = .ok (.ldc idx, 2)) (hp : pc + 2 = pc')
    (g : Seg l Z a0 EL y bytes maxL ret rm Q h k n sf pc' L (.int v :: S)) : Seg l Z a0 EL y bytes maxL ret rm Q h k n sf pc L S := by
  subst hp
  intro p e s m args below meth c T C' w'
  obtain ⟨vm0, locs, k0, X, r1, r2, r3, r4, r5, r⟩ := w'
  exact Gl.st (fun t hr => X.ldcI C'.1 r5 (mv r4 w) (g := mkF m pc L S) rfl (hb C'.2.1 hd) hr) (g p e s m args below meth c T C' ⟨vm0, locs, k0, X, r1, r2, r3, r4, r5, r⟩)
theorem Seg.ldcWI {idx : Nat} {v : Int32} (w : (Cond.constant y.cls idx v).before a0 Z = true) (hd : decode bytes pc = .ok (.ldc_w idx, 3)) (hp : pc + 3 = pc')
    (g : Seg l Z a0 EL y bytes maxL ret rm Q h k n sf pc' L (.int v :: S)) : Seg l Z a0 EL y bytes maxL ret rm Q h k n sf pc L S := by
  subst hp
  intro p e s m args below meth c T C' w'
  obtain ⟨vm0, locs, k0, X, r1, r2, r3, r4, r5, r⟩ := w'
  exact Gl.st (fun t hr => X.ldcWI C'.1 r5 (mv r4 w) (g := mkF m pc L S) rfl (hb C'.2.1 hd) hr) (g p e s m args below meth c T C' ⟨vm0, locs, k0, X, r1, r2, r3, r4, r5, r⟩)
theorem Seg.ldc2J {idx : Nat} {v : Int64} (w : (Cond.constantLong y.cls idx v).before a0 Z = true) (hd : decode bytes pc = .ok (.ldc2_w idx, 3)) (hp : pc + 3 = pc')
    (g : Seg l Z a0 EL y bytes maxL ret rm Q h k n sf pc' L (.long v :: S)) : Seg l Z a0 EL y bytes maxL ret rm Q h k n sf pc L S := by
  subst hp
  intro p e s m args below meth c T C' w'
  obtain ⟨vm0, locs, k0, X, r1, r2, r3, r4, r5, r⟩ := w'
  exact Gl.st (fun t hr => X.ldc2J C'.1 r5 (mv r4 w) (g := mkF m pc L S) rfl (hb C'.2.1 hd) hr) (g p e s m args below meth c T C' ⟨vm0, locs, k0, X, r1, r2, r3, r4, r5, r⟩)
/-- ldc of a String constant whose text the sheet assumes held -/
theorem Seg.ldcS {idx nn : Nat} {text : String} {vs : List Value} {z : Int32} (w : (Cond.stringLink y.cls idx text).before a0 Z = true) (wS : ∀ a ∈ Bundle.stringAtoms, a.before a0 Z = true) (hmem : (y.cls, idx) ∈ EL)
    (ht : (∀ c ∈ text.toList, c.toNat < 256) ∧ text.toList.map (fun c => Value.int (Jvm.Lit.byteI c.toNat.toUInt16)) = vs) (hz : ¬ z < 0) (hl : z.toNatClampNeg = vs.length)
    (hd : decode bytes pc = .ok (.ldc idx, 2)) (hp : pc + 2 = pc') (hnn : 4 * text.toList.length ≤ nn) (hbig : nn ≤ 536870912) {k' n' : Nat} (hk : k + 2 = k') (hn : n + (nn + 4) = n') (hk2 : k' ≤ rm.cells) (hn2 : n' ≤ rm.slots)
    (g : ∀ (a : Addr) (h' : Heap) (b : Addr) (kb : ClassId), Ext h h' → Exa Z h' a "java/lang/String" → Fld Z h' a "java/lang/String" "coder" "B" (.int 0) → Fld Z h' a "java/lang/String" "value" "[B" (.ref b) → Arv Z h' b kb .byte z vs (.int 0) → (∀ x ∈ sf, x ≠ a ∧ x ≠ b) → Seg l Z a0 EL y bytes maxL ret rm Q h' k' n' sf pc' L (.ref a :: S)) :
    Seg l Z a0 EL y bytes maxL ret rm Q h k n sf pc L S := by
  subst hp hk hn
  intro p e s m args below meth c T C' w'
  obtain ⟨vm0, locs, k0, X, r1, r2, r3, r4, r5, r6, r7, r8, r9, r10⟩ := w'
  obtain ⟨a, T', h', k1, b, kb, X', e', E, q1, q2, q3, q4, f1, f2, f3, f4, -, -, f5, -, f6, st⟩ := RoadKit.ldcCH X C'.1 r4 r5 w wS r1 r2 r3 r9 hmem r6.1 ht hz hl (g := mkF m pc L S) rfl (hb C'.2.1 hd) hnn hbig hk2 hn2
  have r10' := r10.chr f5
  exact Gl.st st (g a h' b kb E f1 f2 f3 f4 (fun x hx => f6 x (r10' x hx).2.2) p e s m args below meth c T' C' ⟨T'.vm, locs, k1, X', e', q1, q2, q3, q4, r6.trans f5, r7, ext_tr r8 E, r9, r10'⟩)
/-- ldc of a String constant, its text unread -/
theorem Seg.ldcO {idx nn : Nat} {text : String} (w : (Cond.stringLink y.cls idx text).before a0 Z = true) (wS : ∀ a ∈ Bundle.stringAtoms, a.before a0 Z = true)
    (hd : decode bytes pc = .ok (.ldc idx, 2)) (hp : pc + 2 = pc') (hnn : 4 * text.toList.length ≤ nn) (hbig : nn ≤ 536870912) {k' n' : Nat} (hk : k + 2 = k') (hn : n + (nn + 4) = n') (hk2 : k' ≤ rm.cells) (hn2 : n' ≤ rm.slots)
    (g : ∀ (a : Addr) (h' : Heap), Ext h h' → Seg l Z a0 EL y bytes maxL ret rm Q h' k' n' sf pc' L (.ref a :: S)) :
    Seg l Z a0 EL y bytes maxL ret rm Q h k n sf pc L S := by
  subst hp hk hn
  intro p e s m args below meth c T C' w'
  obtain ⟨vm0, locs, k0, X, r1, r2, r3, r4, r5, r6, r7, r8, r9, r10⟩ := w'
  obtain ⟨a, T', h', k1, X', e', E, q1, q2, q3, q4, f5, -, st⟩ := RoadKit.ldcOH X C'.1 r4 r5 w wS r1 r2 r3 r9 r6.1 (g := mkF m pc L S) rfl (hb C'.2.1 hd) hnn hbig hk2 hn2
  exact Gl.st st (g a h' E p e s m args below meth c T' C' ⟨T'.vm, locs, k1, X', e', q1, q2, q3, q4, r6.trans f5, r7, ext_tr r8 E, r9, r10.chr f5⟩)
end Heap
section Calls
variable {l : Launch} {Z : State} {a0 : Array Value} {EL : List (String × Nat)} {y : MethodName} {bytes : ByteArray} {maxL : Nat} {ret : Option FieldType} {rm : Room} {Q : Option Value → Heap → Prop} {h : Heap} {k n : Nat} {sf : List Addr} {pc pc' : Nat} {L : Array Slot} {S : List Value}
/-- WHO PAYS a call of y with the arguments as' at the heap h -/
def Pays (l : Launch) (R : Room) (Z : State) (a0 : Array Value) (EL : List (String × Nat)) (sf : List Addr) (y : MethodName) (len W : Nat) (as' : Array Value) (h : Heap) (rc rs : Nat) (Q : Option Value → Heap → Prop) : Prop :=
  ∀ (p : Program) (e : Env) (below : List Frame) (s : State) (args : Array Value) (vm0 : Vm), Z.Warmed39 vm0 → CHv Z EL vm0 h → SfOk Z EL vm0 h sf → Ext Z.heap h → EW Z a0 EL →
    BackS l R p e below (s.setVm vm0) args y len W (fun A a => a = as' ∧ A.U.heap = h ∧ A.cells + rc ≤ R.cells ∧ A.slots + rs ≤ R.slots)
      (fun A _ v B => ∃ L, (Fr Z.heap.size L ∧ Ext Z.heap B.U.heap ∧ Q v B.U.heap) ∧ B.locs = A.locs ++ L ∧ B.cells = A.cells + rc ∧ B.slots = A.slots + rs ∧ CHr Z EL vm0 h B.U.vm B.U.heap)
theorem Pays.of_ct {R : Room} {as' : Array Value} {rc rs len W : Nat} {sf' : List Addr} (hM : Ct l Z EL sf' [] y bytes maxL ret rm as' h Q) (hsf : ∀ x ∈ sf', x ∈ sf) (wc : (Jvm.Cond.code y bytes maxL ret).before a0 Z = true) (wz : (Jvm.Cond.initialized y.cls).before a0 Z = true) (hf : rm.frames + 1 ≤ R.frames) (hl : W + (maxL + 11) + rm.locals ≤ R.locals) (hrc : rm.cells = rc) (hrs : rm.slots = rs) :
    Pays l R Z a0 EL sf y len W as' h rc rs Q := by
  subst hrc hrs
  intro p e below s args vm0 hZ H hS hE hEL
  refine BackS.of_freeW (bytes := bytes) (maxL := maxL) (ret := ret) (E := fun _ first o t L k n => k = rm.cells ∧ n = rm.slots ∧ (∃ v, o = .returned v ∧ (Fr Z.heap.size L ∧ Ext Z.heap t.heap ∧ Q v t.heap)) ∧ CHr Z EL first.vm first.heap t.vm t.heap) hM hf hl
    (fun m meth c A a Y hp => have hU : Z.Warmed39 A.U.vm := wtrans (s := s.setVm vm0) hZ Y.warmed
      ⟨by show (Cond.and _ .tt).before a A.U = true; rw [Cond.before_and, mv hU wc]; rfl, mv hU wc, mv hU wz, hp.2.2.1, hp.2.2.2⟩)
    (fun m meth c A a g mk Y hp => have q := CHv.at Y hZ hEL H; ⟨hp.1, wtrans (s := s.setVm vm0) hZ Y.warmed, hp.2.1, q.1, (hS.sub hsf).chr q, hE⟩) (fun _ _ _ _ _ _ _ _ _ => trivial)
    (fun _ _ _ _ ⟨v, L, h1, h2, h3, h4⟩ => ⟨L, _, _, h4, rfl, rfl, ⟨v, h1, h2⟩, h3⟩)
    (fun m meth c A a g mk v t L k n Y hp _ _ ⟨e1, e2, ⟨v', e3, e4⟩, e5⟩ => ?_)
  cases e3; subst e1 e2
  refine ⟨L, e4, rfl, rfl, rfl, (CHv.at Y hZ hEL H).trans ?_⟩
  rw [← hp.2.1]; exact e5
theorem Pays.of_back {R : Room} {as' : Array Value} {rc rs len W : Nat} {ws : List Addr} {QL : Option Value → Heap → List Loc → Prop}
    (hK : ∀ (p : Program) (e : Env) (below : List Frame) (s : State) (args : Array Value), Z.Warmed39 s.vm → Ext Z.heap h → (∀ x ∈ sf, Z.heap.size ≤ x) → Back l R p e below s args y len W (fun A a => a = as' ∧ A.U.heap = h ∧ A.cells + rc ≤ R.cells ∧ A.slots + rs ≤ R.slots) (fun A _ v B => ∃ L, QL v B.U.heap L ∧ B.locs = A.locs ++ L ∧ B.cells = A.cells + rc ∧ B.slots = A.slots + rs))
    (hws : ∀ x ∈ ws, x ∈ sf) (hQ : ∀ v h' L, Ext Z.heap h → QL v h' L → Fr Z.heap.size L ∧ Keep h h' ws ∧ Q v h') :
    Pays l R Z a0 EL sf y len W as' h rc rs Q := by
  intro p e below s args vm0 hZ H hS hE hEL m meth c A g ig mk a X hg hsize hdg hW hn hp
  obtain ⟨v, B, X', ⟨L, q, hl, hc, hs⟩, hsteps⟩ := hK p e below (s.setVm vm0) args hZ hE (fun x hx => (hS x hx).1) m meth c A g ig mk a X hg hsize hdg hW hn hp
  obtain ⟨q1, q2, q3⟩ := hQ _ _ _ hE q
  have A1 := CHr.keep q2 (hS.safes hws) H
  have A2 := CHv.at X' hZ hEL A1.1
  refine ⟨v, B, X'.retabled X'.warmed.wide, X'.warmed.since _, by rw [hp.2.1]; exact q2.1, ⟨L, ⟨q1, ext_kp hE q2 (fun x hx => (hS x (hws x hx)).1), q3⟩, hl, hc, hs, A1.trans A2⟩, hsteps⟩
theorem Pays.post {R : Room} {as' : Array Value} {rc rs len W : Nat} {Q' : Option Value → Heap → Prop} (hP : Pays l R Z a0 EL sf y len W as' h rc rs Q) (q : ∀ v h', Q v h' → Q' v h') : Pays l R Z a0 EL sf y len W as' h rc rs Q' := by
  intro p e below s args vm0 hZ H hS hE hEL m meth c A g ig mk a X hg hsize hdg hW hn hp
  obtain ⟨v, B, X', hS', hgr, ⟨L, ⟨q1, q2, q3⟩, hl, hc, hs, hr⟩, hsteps⟩ := hP p e below s args vm0 hZ H hS hE hEL m meth c A g ig mk a X hg hsize hdg hW hn hp
  exact ⟨v, B, X', hS', hgr, ⟨L, ⟨q1, q2, q _ _ q3⟩, hl, hc, hs, hr⟩, hsteps⟩
section Use
variable {y' : MethodName} {as' : Array Value} {rc rs W : Nat} {Q' : Option Value → Heap → Prop} {idx : Nat} {argsL rest : List Value} {k' n' : Nat}
theorem wkBack {p : Program} {e : Env} {R : Room} {s : State} {m : MethodId} {args : Array Value} {below : List Frame} {meth : Method} {c : Code} {own : String} {vm0 : Vm} {locs L0 : List Loc} {k0 : Nat} {B : Pt}
    (r : s.Since vm0 k0 ∧ k0 ≤ h.size ∧ Z.Warmed39 vm0 ∧ vm0.findClass own = some m.cls ∧ CHr Z EL s.vm s.heap vm0 h ∧ Fr Z.heap.size locs ∧ Ext Z.heap h ∧ EW Z a0 EL ∧ SfOk Z EL vm0 h sf)
    (X' : Stand p l e R ((s.setVm vm0).setVm B.U.vm) m args below meth c B.U B.locs B.cells B.slots) (hS : (s.setVm vm0).Since B.U.vm B.U.heap.size) (hg : h.size ≤ B.U.heap.size) (q1 : Fr Z.heap.size L0 ∧ Ext Z.heap B.U.heap) (hl : B.locs = locs ++ L0) (hc : B.cells = k') (hs : B.slots = n') (q : CHr Z EL vm0 h B.U.vm B.U.heap) :
    Wk p l e R s m args below meth c Z a0 EL own sf k' n' B.U B.U.heap := by
  obtain ⟨r2, r3, r4, r5, r6, r7, r8, r9, r10⟩ := r
  obtain ⟨X1, S1, Z1, o1⟩ := rebS r2 r3 X' hS hg r4 r5
  rw [hl, hc, hs] at X1
  exact ⟨B.U.vm, _, _, X1, rfl, S1, Nat.le_refl _, Z1, o1, r6.trans q, r7.app q1.1, q1.2, r9, r10.chr q⟩
theorem Seg.callS {bytes' : ByteArray} {maxL' : Nat} {ret' : Option FieldType} (w1 : (Cond.methodLink y.cls idx y').before a0 Z = true) (w2 : (Cond.static y').before a0 Z = true) (w3 : (Cond.initialized y'.cls).before a0 Z = true) (w4 : (Cond.code y' bytes' maxL' ret').before a0 Z = true) (hy : y'.cls ≠ "java/lang/invoke/MethodHandle" ∧ y'.cls ≠ "java/lang/invoke/VarHandle")
    (hP : Pays l rm Z a0 EL sf y' 3 W as' h rc rs Q') (has : argsL.toArray = as') (hlen : ∀ sig, parseMethodDescriptor y'.desc = some sig → argsL.length = sig.parameters.length) (hst : S = argsL.reverse ++ rest) (hW : (rest.map fun v => v.category).sum ≤ W) (hsz : L.size = maxL) (hd : decode bytes pc = .ok (.invokestatic idx, 3)) (hp : pc + 3 = pc')
    (hk : k + rc = k') (hn : n + rs = n') (hk2 : k' ≤ rm.cells) (hn2 : n' ≤ rm.slots)
    (g : ∀ (v : Option Value) (h' : Heap), h.size ≤ h'.size → Q' v h' → Seg l Z a0 EL y bytes maxL ret rm Q h' k' n' sf pc' L (v.toList ++ rest)) : Seg l Z a0 EL y bytes maxL ret rm Q h k n sf pc L S := by
  subst hp hk hn hst has
  intro p e s m args below meth c T C' w'
  obtain ⟨vm0, locs, k0, X, r1, r2, r3, r4, r5, r6, r7, r8, r9, r10⟩ := w'
  obtain ⟨v, vm1, B, -, X', hS, hg, ⟨L0, ⟨q1, q2, q3⟩, hl, hc, hs, q4⟩, st⟩ := callSS X C'.1 r5 (mvT r4 w1) (mvT r4 w2) (mvT r4 w3) (mvT r4 w4) hy (hP p e below s args vm0 r4 r6.1 r10 r8 r9) (g := mkF m pc L (argsL.reverse ++ rest)) rfl (hsz.trans C'.2.2.1.symm) (argsL := argsL) (rest := rest) hlen rfl (by show 2 * 0 + _ ≤ _; omega) (hb C'.2.1 hd) (fun _ _ => ⟨rfl, r1, hk2, hn2⟩)
  rw [r1] at hg
  exact Gl.st (fun t hr => st.trans hr) (g v B.U.heap hg q3 p e s m args below meth c B.U C' (wkBack ⟨r2, r3, r4, r5, r6, r7, r8, r9, r10⟩ X' hS hg ⟨q1, q2⟩ hl hc hs q4))
theorem Seg.callN {bytes' : ByteArray} {maxL' : Nat} {a : Addr} (hy1 : y'.name = "<init>") (w1 : (Cond.methodLink y.cls idx y').before a0 Z = true) (w2 : (Cond.instanceMethod y').before a0 Z = true) (w4 : (Cond.code y' bytes' maxL' none).before a0 Z = true) (hy : y'.cls ≠ "java/lang/invoke/MethodHandle" ∧ y'.cls ≠ "java/lang/invoke/VarHandle")
    (hP : Pays l rm Z a0 EL sf y' 3 W as' h rc rs Q') (has : (.ref a :: argsL).toArray = as') (hlen : ∀ sig, parseMethodDescriptor y'.desc = some sig → argsL.length = sig.parameters.length) (hst : S = argsL.reverse ++ .ref a :: rest) (hW : (rest.map fun v => v.category).sum ≤ W) (hsz : L.size = maxL) (hd : decode bytes pc = .ok (.invokespecial idx, 3)) (hp : pc + 3 = pc')
    (hk : k + rc = k') (hn : n + rs = n') (hk2 : k' ≤ rm.cells) (hn2 : n' ≤ rm.slots)
    (g : ∀ (v : Option Value) (h' : Heap), h.size ≤ h'.size → Q' v h' → Seg l Z a0 EL y bytes maxL ret rm Q h' k' n' sf pc' L (v.toList ++ rest)) : Seg l Z a0 EL y bytes maxL ret rm Q h k n sf pc L S := by
  subst hp hk hn hst has
  intro p e s m args below meth c T C' w'
  obtain ⟨vm0, locs, k0, X, r1, r2, r3, r4, r5, r6, r7, r8, r9, r10⟩ := w'
  obtain ⟨v, vm1, B, -, X', hS, hg, ⟨L0, ⟨q1, q2, q3⟩, hl, hc, hs, q4⟩, st⟩ := X.specialBackS C'.1 hy1 r5 (mvT r4 w1) (mvT r4 w2) (mvT r4 w4) hy (hP p e below s args vm0 r4 r6.1 r10 r8 r9) (g := mkF m pc L (argsL.reverse ++ .ref a :: rest)) rfl (hsz.trans C'.2.2.1.symm) (Steps.refl _) (a := a) (argsL := argsL) (rest := rest) hlen rfl (by show 2 * 0 + _ ≤ _; omega) (hb C'.2.1 hd) (fun _ _ => ⟨rfl, r1, hk2, hn2⟩)
  rw [r1] at hg
  exact Gl.st (fun t hr => st.trans hr) (g v B.U.heap hg q3 p e s m args below meth c B.U C' (wkBack ⟨r2, r3, r4, r5, r6, r7, r8, r9, r10⟩ X' hS hg ⟨q1, q2⟩ hl hc hs q4))
theorem Seg.callV {z : MethodName} {C : String} {a : Addr} (w1 : (Cond.methodLink y.cls idx y').before a0 Z = true) (w2 : (Cond.declares y').before a0 Z = true) (hnf : ∀ (s : State) (vm0 : Vm), Z.Warmed39 vm0 → Free.NotFace (s.setVm vm0) y') (w3 : (Cond.selects C y' z).before a0 Z = true) (w4 : (Cond.instanceMethod z).before a0 Z = true) (hy : y'.cls ≠ "java/lang/invoke/MethodHandle" ∧ y'.cls ≠ "java/lang/invoke/VarHandle") (E : Exa Z h a C)
    (hP : Pays l rm Z a0 EL sf z 3 W as' h rc rs Q') (has : (.ref a :: argsL).toArray = as') (hlen : ∀ sig, parseMethodDescriptor y'.desc = some sig → argsL.length = sig.parameters.length) (hst : S = argsL.reverse ++ .ref a :: rest) (hW : (rest.map fun v => v.category).sum ≤ W) (hsz : L.size = maxL) (hd : decode bytes pc = .ok (.invokevirtual idx, 3)) (hp : pc + 3 = pc')
    (hk : k + rc = k') (hn : n + rs = n') (hk2 : k' ≤ rm.cells) (hn2 : n' ≤ rm.slots)
    (g : ∀ (v : Option Value) (h' : Heap), h.size ≤ h'.size → Q' v h' → Seg l Z a0 EL y bytes maxL ret rm Q h' k' n' sf pc' L (v.toList ++ rest)) : Seg l Z a0 EL y bytes maxL ret rm Q h k n sf pc L S := by
  subst hp hk hn hst has
  intro p e s m args below meth c T C' w'
  obtain ⟨vm0, locs, k0, X, r1, r2, r3, r4, r5, r6, r7, r8, r9, r10⟩ := w'
  obtain ⟨cq, kq, qa, qb, qc⟩ := isOf (s := s.setVm vm0) r4 r1 E
  obtain ⟨v, vm1, B, -, X', hS, hg, ⟨L0, ⟨q1, q2, q3⟩, hl, hc, hs, q4⟩, st⟩ := X.virtualBackS C'.1 r5 (mvT r4 w1) (mvT r4 w2) (hnf s vm0 r4) (mvT r4 w3) (mvT r4 w4) hy (hP p e below s args vm0 r4 r6.1 r10 r8 r9) qa qc (g := mkF m pc L (argsL.reverse ++ .ref a :: rest)) rfl (hsz.trans C'.2.2.1.symm) (Steps.refl _) (argsL := argsL) (rest := rest) hlen rfl (by show 2 * 0 + _ ≤ _; omega) (hb C'.2.1 hd) (fun _ _ => ⟨rfl, r1, hk2, hn2⟩)
  rw [r1] at hg
  exact Gl.st (fun t hr => st.trans hr) (g v B.U.heap hg q3 p e s m args below meth c B.U C' (wkBack ⟨r2, r3, r4, r5, r6, r7, r8, r9, r10⟩ X' hS hg ⟨q1, q2⟩ hl hc hs q4))
theorem Seg.callI {z : MethodName} {C : String} {a : Addr} {count : Nat} (w1 : (Cond.methodLink y.cls idx y').before a0 Z = true) (w2 : (Cond.declares y').before a0 Z = true) (w5 : (Cond.interfaceMethod y'.cls y'.cls y'.name y'.desc).before a0 Z = true) (hw5 : ((Cond.interfaceMethod y'.cls y'.cls y'.name y'.desc).onTables && (Cond.interfaceMethod y'.cls y'.cls y'.name y'.desc).keepsFace) = true) (w3 : (Cond.selects C y' z).before a0 Z = true) (w4 : (Cond.instanceMethod z).before a0 Z = true) (w6 : (Cond.publicMethod z).before a0 Z = true) (w7 : (Cond.unhidden C y'.name y'.desc).before a0 Z = true) (w8 : (Cond.castable C y'.cls).before a0 Z = true) (hy : y'.cls ≠ "java/lang/invoke/MethodHandle" ∧ y'.cls ≠ "java/lang/invoke/VarHandle") (E : Exa Z h a C)
    (hP : Pays l rm Z a0 EL sf z 5 W as' h rc rs Q') (has : (.ref a :: argsL).toArray = as') (hlen : ∀ sig, parseMethodDescriptor y'.desc = some sig → argsL.length = sig.parameters.length) (hst : S = argsL.reverse ++ .ref a :: rest) (hW : (rest.map fun v => v.category).sum ≤ W) (hsz : L.size = maxL) (hd : decode bytes pc = .ok (.invokeinterface idx count, 5)) (hp : pc + 5 = pc')
    (hk : k + rc = k') (hn : n + rs = n') (hk2 : k' ≤ rm.cells) (hn2 : n' ≤ rm.slots)
    (g : ∀ (v : Option Value) (h' : Heap), h.size ≤ h'.size → Q' v h' → Seg l Z a0 EL y bytes maxL ret rm Q h' k' n' sf pc' L (v.toList ++ rest)) : Seg l Z a0 EL y bytes maxL ret rm Q h k n sf pc L S := by
  subst hp hk hn hst has
  intro p e s m args below meth c T C' w'
  obtain ⟨vm0, locs, k0, X, r1, r2, r3, r4, r5, r6, r7, r8, r9, r10⟩ := w'
  obtain ⟨cq, kq, qa, qb, qc⟩ := isOf (s := s.setVm vm0) r4 r1 E
  obtain ⟨v, vm1, B, -, X', hS, hg, ⟨L0, ⟨q1, q2, q3⟩, hl, hc, hs, q4⟩, st⟩ := X.interfaceBackS C'.1 r5 (mvT r4 w1) (mvT r4 w2) (mvT r4 w5 hw5) (mvT r4 w3) (mvT r4 w4) (mvT r4 w6) (mvT r4 w7) (mvT r4 w8) hy (hP p e below s args vm0 r4 r6.1 r10 r8 r9) qa qb qc (g := mkF m pc L (argsL.reverse ++ .ref a :: rest)) rfl (hsz.trans C'.2.2.1.symm) (Steps.refl _) (argsL := argsL) (rest := rest) hlen rfl (by show 2 * 0 + _ ≤ _; omega) (hb C'.2.1 hd) (fun _ _ => ⟨rfl, r1, hk2, hn2⟩)
  rw [r1] at hg
  exact Gl.st (fun t hr => st.trans hr) (g v B.U.heap hg q3 p e s m args below meth c B.U C' (wkBack ⟨r2, r3, r4, r5, r6, r7, r8, r9, r10⟩ X' hS hg ⟨q1, q2⟩ hl hc hs q4))
theorem nf_sel {C : String} (w3 : (Cond.selects C y' y').before a0 Z = true) (s : State) (vm0 : Vm) (hZ : Z.Warmed39 vm0) : Free.NotFace (s.setVm vm0) y' :=
  notFace_of_selects (args := #[]) (mvT (s := s.setVm vm0) hZ w3)
theorem nf_topS (w : (Cond.noSuperclass y'.cls).before a0 Z = true) (s : State) (vm0 : Vm) (hZ : Z.Warmed39 vm0) : Free.NotFace (s.setVm vm0) y' := nf_top (args := #[]) (mvT (s := s.setVm vm0) hZ w)
theorem nf_supS {C : String} (w : (Cond.superclass y'.cls C).before a0 Z = true) (s : State) (vm0 : Vm) (hZ : Z.Warmed39 vm0) : Free.NotFace (s.setVm vm0) y' := nf_super (args := #[]) (mvT (s := s.setVm vm0) hZ w)
end Use
end Calls
end Jvm.OwnK
namespace Jvm.OwnK
open Jvm Jvm.ClassFile Sem Op Lib Jvm.Free Jvm.Stand Jvm.LawKit Jvm.RoadKit Bundle
/-! own kit, part 4: small numbers as Int32 -/
theorem n32i {i : Nat} (h : i ≤ 100000) : (Int32.ofNat i).toInt = i := Int32.toInt_ofNat_of_lt (by omega)
theorem n32c {i : Nat} (h : i ≤ 100000) : (Int32.ofNat i).toNatClampNeg = i := by
  show (Int32.ofNat i).toInt.toNat = i
  rw [n32i h]; rfl
theorem n32lt {i n : Nat} (h : i < n) (hn : n ≤ 100000) : Int32.ofNat i < Int32.ofNat n := by
  rw [Int32.lt_iff_toInt_lt, n32i (by omega), n32i hn]; omega
theorem n32nlt {i n : Nat} (h : n ≤ i) (hn : i ≤ 100000) : ¬ Int32.ofNat i < Int32.ofNat n := by
  rw [Int32.lt_iff_toInt_lt, n32i (by omega), n32i (by omega)]; omega
theorem n32nn {i : Nat} (h : i ≤ 100000) : ¬ Int32.ofNat i < 0 := by
  rw [Int32.lt_iff_toInt_lt, n32i h]; show ¬ (i : Int) < 0; omega
theorem n32in {i n : Nat} (h : i < n) (hn : n ≤ 100000) : ¬ Int32.ofNat i < 0 ∧ Int32.ofNat i < Int32.ofNat n := ⟨n32nn (by omega), n32lt h hn⟩
theorem n32add (i j : Nat) : Int32.ofNat i + Int32.ofNat j = Int32.ofNat (i + j) := (Int32.ofNat_add i j).symm
theorem n32s (i : Nat) : Int32.ofNat i + 1 = Int32.ofNat (i + 1) := n32add i 1
theorem n32eq {i j : Nat} (hi : i ≤ 100000) (hj : j ≤ 100000) (h : Int32.ofNat i = Int32.ofNat j) : i = j := by
  have := congrArg Int32.toInt h
  rw [n32i hi, n32i hj] at this; omega
theorem getDmap {α : Type} (f : α → Value) (cs : List α) (i : Nat) (d : α) (dv : Value) (h : i < cs.length) : (cs.map f).getD i dv = f (cs.getD i d) := by
  simp [List.getD_eq_getElem?_getD, h]
theorem toInt_cases {x : Int32} {n : Nat} (h0 : 0 ≤ x.toInt) (h1 : x.toInt < n) (hn : n ≤ 1000) : ∃ i : Nat, i < n ∧ x = Int32.ofNat i := by
  refine ⟨x.toInt.toNat, by omega, Int32.toInt_inj.mp ?_⟩
  rw [Int32.toInt_ofNat_of_lt (by omega)]; omega
end Jvm.OwnK
namespace Jvm.OwnK
open Jvm Jvm.ClassFile Sem Op Lib Jvm.Free Jvm.Stand Jvm.LawKit Jvm.RoadKit Bundle
/-! own kit, part 5: arraycopy and clone -/
section Copies
variable {l : Launch} {Z : State} {a0 : Array Value} {EL : List (String × Nat)} {y : MethodName} {bytes : ByteArray} {maxL : Nat} {ret : Option FieldType} {rm : Room} {Q : Option Value → Heap → Prop} {h : Heap} {k n : Nat} {sf : List Addr} {pc pc' : Nat} {L : Array Slot} {S : List Value}
theorem Seg.cpA {idx : Nat} {a b : Addr} {kc kc' : ClassId} {ty ty' : FieldType} {z z' sp dp nn : Int32} {vs vd us vr : List Value} {dv dd : Value} (w1 : (Cond.methodLink y.cls idx Jvm.Stand.acN).before a0 Z = true) (w2 : (Cond.native Jvm.Stand.acN).before a0 Z = true) (w3 : (Cond.static Jvm.Stand.acN).before a0 Z = true) (w4 : (Cond.initialized "java/lang/System").before a0 Z = true)
    (A : Arv Z h a kc ty z vs dv) (B : Arv Z h b kc' ty' z' vd dd) (hty : (ty = ty' ∧ refKind ty = false) ∨ (refKind ty = true ∧ refKind ty' = true ∧ StoL Z h b us))
    (h1 : ¬ sp < 0) (h2 : ¬ dp < 0) (h3 : ¬ nn < 0) (h4 : sp.toNatClampNeg + nn.toNatClampNeg ≤ z.toNatClampNeg) (h5 : dp.toNatClampNeg + nn.toNatClampNeg ≤ z'.toNatClampNeg)
    (hus : us = (List.range nn.toNatClampNeg).map fun i => vs.getD (sp.toNatClampNeg + i) dv) (hl : dp.toNatClampNeg + nn.toNatClampNeg ≤ vd.length) (hvr : vd.take dp.toNatClampNeg ++ us ++ vd.drop (dp.toNatClampNeg + nn.toNatClampNeg) = vr) (hsf : b ∈ sf) (hsz : L.size = maxL) (hd : decode bytes pc = .ok (.invokestatic idx, 3)) (hp : pc + 3 = pc') (hf : 1 ≤ rm.frames) {W : Nat} (hW : (S.map fun v => v.category).sum ≤ W) (hlo : W + (nativeFrameWords "java/lang/System" "arraycopy" 5 + 11) ≤ rm.locals)
    (g : ∀ h', Keep h h' [b] → Arv Z h' b kc' ty' z' vr dd → Seg l Z a0 EL y bytes maxL ret rm Q h' k n sf pc' L S) : Seg l Z a0 EL y bytes maxL ret rm Q h k n sf pc L (.int nn :: .int dp :: .ref b :: .int sp :: .ref a :: S) := by
  subst hp hvr
  intro p e s m args below meth c T C' w'
  obtain ⟨vm0, locs, k0, X, r1, r2, r3, r4, r5, r6, r7, r8, r9, r10⟩ := w'
  obtain ⟨T', h', L', X', e', FL, K, A', st⟩ := RoadKit.cpA X C'.1 r4 r5 w1 w2 w3 w4 r1 A B hty h1 h2 h3 h4 h5 hus hl r7 (r10 b hsf).1 (g := mkF m pc L (.int nn :: .int dp :: .ref b :: .int sp :: .ref a :: S)) rfl (hsz.trans C'.2.2.1.symm) rfl (hb C'.2.1 hd) hf (W := W) (by show 2 * 0 + _ ≤ _; omega) hlo
  have A1 := CHr.keep K (r10.safes (allS hsf all0)) r6.1
  exact Gl.st st (g h' K A' p e s m args below meth c T' C' ⟨vm0, L', k0, X', e', r2, Nat.le_trans r3 K.1, r4, r5, r6.trans A1, FL, ext_kp r8 K (allS (r10 b hsf).1 all0), r9, r10.chr A1⟩)
theorem Seg.cloneH {idx : Nat} {ad : String} {a : Addr} {kc : ClassId} {ty : FieldType} {z : Int32} {vs : List Value} {dv : Value} (w1 : (Cond.methodLink y.cls idx ⟨ad, "clone", "()Ljava/lang/Object;"⟩).before a0 Z = true) (w2 : (Cond.sameMethod ad "java/lang/Object" "clone" "()Ljava/lang/Object;").before a0 Z = true) (w3 : (Cond.native ⟨"java/lang/Object", "clone", "()Ljava/lang/Object;"⟩).before a0 Z = true)
    (w4 : (Cond.instanceMethod ⟨"java/lang/Object", "clone", "()Ljava/lang/Object;"⟩).before a0 Z = true) (w5 : (Cond.selects ad ⟨ad, "clone", "()Ljava/lang/Object;"⟩ ⟨"java/lang/Object", "clone", "()Ljava/lang/Object;"⟩).before a0 Z = true) (w6 : (Cond.castable ad "java/lang/Cloneable").before a0 Z = true)
    (F : Arv Z h a kc ty z vs dv) (E : Exa Z h a ad) (hsz : L.size = maxL) (hd : decode bytes pc = .ok (.invokevirtual idx, 3)) (hp : pc + 3 = pc') (hf : 1 ≤ rm.frames) {W cap : Nat} (hW : (S.map fun v => v.category).sum ≤ W) (hlo : W + 14 ≤ rm.locals) (hcap : z.toNatClampNeg ≤ cap) {k' n' : Nat} (hk : k + 1 = k') (hn : n + cap = n') (hk2 : k' ≤ rm.cells) (hn2 : n' ≤ rm.slots)
    (g : ∀ (x : Addr) (h' : Heap), Ext h h' → h.size = x → x < h'.size → Arv Z h' x kc ty z vs dv → Exa Z h' x ad → Seg l Z a0 EL y bytes maxL ret rm Q h' k' n' (x :: sf) pc' L (.ref x :: S)) : Seg l Z a0 EL y bytes maxL ret rm Q h k n sf pc L (.ref a :: S) := by
  subst hp hk hn
  intro p e s m args below meth c T C' w'
  obtain ⟨vm0, locs, k0, X, r1, r2, r3, r4, r5, r6, r7, r8, r9, r10⟩ := w'
  obtain ⟨T', h', X', e', Ex, A, E', st⟩ := RoadKit.cloneH X C'.1 r4 r5 w1 w2 w3 w4 w5 w6 r1 F.arh E (g := mkF m pc L (.ref a :: S)) rfl (hsz.trans C'.2.2.1.symm) rfl (hb C'.2.1 hd) hf (W := W) (by show 2 * 0 + _ ≤ _; omega) hlo hcap hk2 hn2
  refine Gl.st st (g _ h' Ex rfl E'.lt A E' p e s m args below meth c T' C' ⟨vm0, locs, k0, X', e', r2, Nat.le_trans r3 Ex.1, r4, r5, r6.trans (CHr.ext Ex r6.1), r7, ext_tr r8 Ex, r9, ?_⟩)
  exact (r10.chr (CHr.ext Ex r6.1)).cons r8.1 E'.lt ((Safe.new (Nat.le_refl _)).ext Ex r6.1)
end Copies
theorem n32p (i : Nat) : Int32.ofNat (i + 1) - 1 = Int32.ofNat i := by rw [← n32s, Int32.add_sub_cancel]
theorem n32m (i : Nat) : Int32.ofNat (i + 1) + (-1) = Int32.ofNat i := by rw [← Int32.sub_eq_add_neg, n32p]
theorem n32z (x : Int32) : x - 0 = x := Int32.sub_zero x
theorem n32zp (x : Int32) : 0 + x = x := Int32.zero_add x
theorem range_take (f : Int32 → Value) (cs : List Int32) (e : Nat) (dv : Value) (he : e ≤ cs.length) (h' : e ≤ 100000) : (cs.take e).map f = (List.range (Int32.ofNat e).toNatClampNeg).map fun i => (cs.map f).getD ((0 : Int32).toNatClampNeg + i) dv := by
  rw [n32c h']
  refine List.ext_getElem? fun i => ?_
  by_cases hi : i < e
  · have : i < cs.length := by omega
    simp [hi, this, List.getElem?_take]
  · simp [hi, List.getElem?_take]
theorem take_all (xs : List Value) (vd : List Value) (e : Nat) (h : vd.length = e) (h' : e ≤ 100000) : vd.take (0 : Int32).toNatClampNeg ++ xs ++ vd.drop ((0 : Int32).toNatClampNeg + (Int32.ofNat e).toNatClampNeg) = xs := by
  rw [n32c h']
  have : (0 : Int32).toNatClampNeg = 0 := rfl
  rw [this, Nat.zero_add, ← h]; simp
end Jvm.OwnK
namespace Jvm.OwnK
open Jvm Jvm.ClassFile Sem Op Lib Jvm.Free Jvm.Stand Jvm.LawKit Jvm.RoadKit Bundle
section More
variable {l : Launch} {Z : State} {a0 : Array Value} {EL : List (String × Nat)} {y : MethodName} {Q : Option Value → Heap → Prop} {h : Heap} {sf : List Addr}
theorem Pays.more {R : Room} {as' : Array Value} {rc rs rc' rs' len W : Nat} (hP : Pays l R Z a0 EL sf y len W as' h rc rs Q) (h1 : rc ≤ rc') (h2 : rs ≤ rs') : Pays l R Z a0 EL sf y len W as' h rc' rs' Q := by
  intro p e below s args vm0 hZ H hS hE hEL m meth c A g ig mk a X hg hsize hdg hW hn hp
  obtain ⟨v, B, X', hS', hgr, ⟨L, ⟨q1, q2, q3⟩, hl, hc, hs, hr⟩, hsteps⟩ := hP p e below s args vm0 hZ H hS hE hEL m meth c A g ig mk a X hg hsize hdg hW hn ⟨hp.1, hp.2.1, Nat.le_trans (Nat.add_le_add_left h1 _) hp.2.2.1, Nat.le_trans (Nat.add_le_add_left h2 _) hp.2.2.2⟩
  exact ⟨v, (B.U, B.locs, A.cells + rc', A.slots + rs'), X'.more (by rw [hc]; exact Nat.add_le_add_left h1 _) (by rw [hs]; exact Nat.add_le_add_left h2 _), hS', hgr, ⟨L, ⟨q1, q2, q3⟩, hl, rfl, rfl, hr⟩, hsteps⟩
end More
theorem arv_start {Z : State} {args : Array Value} {t : Term} {ty : FieldType} {n : Int32} {vs : List Value} {a : Addr} (dv : Value) (hf : Fit Z) (ev : t.eval args Z none [] Z = some (.ref a)) (hx : (Cond.arrayOf t ty).value args Z none Z [] = some true) (hlen : (Term.length t).eval args Z none [] Z = some (.int n)) (hz : ¬ n < 0) (hl : n.toNatClampNeg = vs.length)
    (H : ∀ cl, Z.heap[a]? = some cl → HasL cl 0 vs) : ∃ kc, Arv Z Z.heap a kc ty n vs dv := by
  obtain ⟨cl, A⟩ := Arr.start ev hx
  obtain ⟨cl', e1, e2⟩ := length_at hlen ev
  cases A.1.symm.trans e1
  have q : cl.slots.size < 2 ^ 31 := by
    simp only [Term.eval, Option.bind_eq_bind] at hlen
    rw [ev] at hlen
    simp only [Option.bind_some] at hlen
    cases hat : Z.arrayAt? a with
    | none => simp [hat] at hlen
    | some c1 =>
      cases e1.symm.trans (State.arrayAt?_spec hat).1
      simp only [hat, Option.bind_some] at hlen
      by_cases q : cl.slots.size < 2 ^ 31
      · exact q
      · simp [q] at hlen
  exact ⟨_, Arv.start hf A q e2 hz hl (H cl e1)⟩
theorem b255L (x : Int64) : ¬ ((x &&& 255).toInt32).toUInt32.toUInt16.toUInt32.toInt32 < 0 ∧ ¬ (255 : Int32) < ((x &&& 255).toInt32).toUInt32.toUInt16.toUInt32.toInt32 := by
  have h1 := c_maskL x 255 8 (by decide) (by decide)
  have h2 := c_l2i (x &&& 255)
  have h3 := c_i2c ((x &&& 255).toInt32)
  have e : (255 : Int32).toInt = 255 := by decide
  have e0 : (0 : Int32).toInt = 0 := by decide
  have r := Int32.toInt_lt ((x &&& 255).toInt32)
  have r' := Int32.le_toInt ((x &&& 255).toInt32)
  rw [Int32.lt_iff_toInt_lt, Int32.lt_iff_toInt_lt, e, e0]
  omega
theorem rem_ushr (x q : Int32) (k : Nat) (m : Nat) (hk : q.toBitVec.toNat % 32 = k) (h0 : 0 < k) (hm : 0 < m) (hm' : m ≤ 1000) : ∃ i : Nat, i < m ∧ (((x.toUInt32 >>> (q &&& 31).toUInt32).toInt32) % Int32.ofNat m) = Int32.ofNat i := by
  have h1 := c_iushr x q k hk h0
  have h2 := c_iremV ((x.toUInt32 >>> (q &&& 31).toUInt32).toInt32) (Int32.ofNat m)
  have e := n32i (i := m) (by omega)
  have h3 := h2.1 (by rw [h1]; exact Int.ediv_nonneg (by omega) (by exact_mod_cast Nat.zero_le _)) (by rw [e]; omega)
  exact toInt_cases h3.1 (by rw [e] at h3; exact h3.2.1) hm'
end Jvm.OwnK
namespace Jvm.OwnK
open Jvm Jvm.ClassFile Sem Op Lib Jvm.Free Jvm.Stand Jvm.LawKit Jvm.RoadKit Bundle
section Z
variable {l : Launch} {Z : State} {a0 : Array Value} {EL : List (String × Nat)} {y : MethodName} {bytes : ByteArray} {maxL : Nat} {ret : Option FieldType} {rm : Room} {Q : Option Value → Heap → Prop} {h : Heap} {k n : Nat} {sf : List Addr} {pc pc' : Nat} {L : Array Slot} {S : List Value}
theorem Seg.baloadZ {a : Addr} {kc : ClassId} {z j : Int32} {vs : List Value} {dv v : Value} (F : Arv Z h a kc .boolean z vs dv) (hj : ¬ j < 0 ∧ j < z) (hv : vs.getD j.toNatClampNeg dv = v) (hd : decode bytes pc = .ok (.baload, 1)) (hp : pc + 1 = pc')
    (g : Seg l Z a0 EL y bytes maxL ret rm Q h k n sf pc' L (v :: S)) : Seg l Z a0 EL y bytes maxL ret rm Q h k n sf pc L (.int j :: .ref a :: S) := by
  subst hp
  intro p e s m args below meth c T C' w'
  obtain ⟨vm0, locs, k0, X, r1, r2, r3, r4, r⟩ := w'
  obtain ⟨cl, A, q, Sz, N, H, G⟩ := F
  exact Gl.st (X.baloadBooleans C'.1 (by rw [r1]; exact A.1) (State.isArrayOf_alike r4.alike A.2.1) A.2.2 (inb_of Sz hj) (H.at (inb_of Sz hj) hv) (g := mkF m pc L (.int j :: .ref a :: S)) rfl rfl (hb C'.2.1 hd)) (g p e s m args below meth c T C' ⟨vm0, locs, k0, X, r1, r2, r3, r4, r⟩)
theorem no_inst {C K O : String} {nn : Nat} (w : (Cond.superclass C O).before a0 Z = true) (w0 : (Cond.noSuperclass O).before a0 Z = true) (wi : (Cond.instantiable K nn).before a0 Z = true) (h1 : C ≠ K) (h2 : O ≠ K) : ∃ c t, Z.vm.findClass C = some c ∧ Z.vm.findClass K = some t ∧ Z.vm.assignable c t = false := by
  obtain ⟨t, kt, g0, g2, g5, g7, -⟩ := Cond.instantiable_spec (show (Cond.instantiable K nn).holds a0 Z none Z [] = true from wi)
  have g7' : kt.isInterface = false := by cases q : kt.isInterface <;> simp [q] at g7 ⊢
  obtain ⟨co, ko, o1, o2, o3, -, -⟩ := Cond.noSuperclass_spec w0
  have ne0 := ids_ne o1 g0 h2
  have n : NS Z O K := ⟨co, t, o1, g0, fun fuel => by cases fuel with | zero => rfl | succ f => simp [Vm.isSubclassAux, ne0, o2, o3]⟩
  obtain ⟨c, t', h0, g0', n3⟩ := NS.step w n h1
  cases g0.symm.trans g0'
  obtain ⟨p, k, kp, h1', h2', h3, h4, h5, -, h7⟩ := Cond.superclass_spec h0 w
  have ne := ids_ne h0 g0 h1
  refine ⟨c, t, h0, g0, ?_⟩
  show Z.vm.assignableAux (255 + 1) c t = false
  simp [Vm.assignableAux, ne, h2', g2, h5, g5, g7', Vm.isSubclass, n3]
end Z
theorem len_small {Z : State} {args : Array Value} {t : Term} {n : Int32} {a : Addr} (ev : t.eval args Z none [] Z = some (.ref a)) (hlen : (Term.length t).eval args Z none [] Z = some (.int n)) : ∃ cl, Z.arrayAt? a = some cl ∧ Z.heap[a]? = some cl ∧ cl.slots.size < 2 ^ 31 ∧ cl.slots.size.toInt32 = n := by
  obtain ⟨cl, e1, e2⟩ := length_at hlen ev
  simp only [Term.eval, Option.bind_eq_bind] at hlen
  rw [ev] at hlen
  simp only [Option.bind_some] at hlen
  cases hat : Z.arrayAt? a with
  | none => simp [hat] at hlen
  | some c1 =>
    cases e1.symm.trans (State.arrayAt?_spec hat).1
    simp only [hat, Option.bind_some] at hlen
    by_cases q : cl.slots.size < 2 ^ 31
    · exact ⟨cl, rfl, e1, q, e2⟩
    · simp [q] at hlen
theorem hasL_all (c : Cell) : ∀ (i : Nat) (vs : List Value), c.slots.toList.drop i = vs → HasL c i vs
  | _, [], _ => trivial
  | i, v :: r, h => by
    refine ⟨?_, hasL_all c (i + 1) r ?_⟩
    · have := congrArg (·[0]?) h
      simpa using this
    · have := congrArg (List.drop 1) h
      simpa [List.drop_drop, Nat.add_comm] using this
theorem arv_startX {Z : State} {args : Array Value} {t : Term} {ty : FieldType} {n : Int32} {a : Addr} (dv : Value) (hf : Fit Z) (ev : t.eval args Z none [] Z = some (.ref a)) (hx : (Cond.arrayOf t ty).value args Z none Z [] = some true) (hlen : (Term.length t).eval args Z none [] Z = some (.int n)) (hz : ¬ n < 0) :
    ∃ kc cl, Z.arrayAt? a = some cl ∧ Z.heap[a]? = some cl ∧ cl.slots.size = n.toNatClampNeg ∧ Arv Z Z.heap a kc ty n cl.slots.toList dv := by
  obtain ⟨cl, A⟩ := Arr.start ev hx
  obtain ⟨cl', e0, e1, q, e2⟩ := len_small ev hlen
  cases A.1.symm.trans e1
  have S : cl.slots.size = n.toNatClampNeg := by rw [← e2]; simp only [Int32.toNatClampNeg, len_toInt q]; rfl
  exact ⟨_, cl, e0, e1, S, Arv.start hf A q e2 hz (by rw [← S]; simp) (hasL_all cl 0 _ rfl)⟩
theorem all_rng {Z : State} {args : Array Value} {t : Term} {a : Addr} {cl : Cell} {lo hi v : Int32} (ev : ∀ i, t.eval args Z none [i] Z = some (.ref a)) (ev0 : t.eval args Z none [] Z = some (.ref a)) (hat : Z.arrayAt? a = some cl) (hc : Z.heap[a]? = some cl)
    (h : (Cond.all t (.or (.lt (.index 0) (.int lo)) (.or (.le (.int hi) (.index 0)) (.eq (.elem t (.index 0)) (.int v))))).value args Z none Z [] = some true) {i : Nat} (hi' : i < cl.slots.size) (hs : i ≤ 100000) (h1 : ¬ Int32.ofNat i < lo) (h2 : Int32.ofNat i < hi) : cl.slots[i]? = some (.int v) := by
  have q := Cond.all_elim ev0 hat h i hi'
  have ei : (Term.index 0).eval args Z none [i] Z = some (.int (Int32.ofNat i)) := by simp [Term.eval]
  have h2' : ¬ hi ≤ Int32.ofNat i := Int32.not_le.mpr h2
  have e1 : (Cond.lt (.index 0) (.int lo)).value args Z none Z [i] = some false := by rw [Cond.lt_ints ei (Term.int_eval lo)]; simp [h1]
  have e2 : (Cond.le (.int hi) (.index 0)).value args Z none Z [i] = some false := by rw [Cond.le_ints (Term.int_eval hi) ei]; simp [h2]
  rw [Cond.or_of_right e1, Cond.or_of_right e2] at q
  obtain ⟨x, y, g1, g2, g3, -⟩ := cmp_v (Or.inl q)
  have r := (elem_in g1 (ev i) ei hc).2
  rw [n32c hs] at r
  rw [r]
  cases g2
  cases x <;> simp [Cond.value, g1, Term.int_eval] at q ⊢
  exact q
end Jvm.OwnK
namespace Jvm.OwnK
open Jvm Jvm.ClassFile Sem Op Lib Jvm.Free Jvm.Stand Jvm.LawKit Jvm.RoadKit Bundle
section A
variable {l : Launch} {Z : State} {a0 : Array Value} {EL : List (String × Nat)} {y : MethodName} {bytes : ByteArray} {maxL : Nat} {ret : Option FieldType} {rm : Room} {Q : Option Value → Heap → Prop} {h : Heap} {k n : Nat} {sf : List Addr} {pc pc' : Nat} {L : Array Slot} {S : List Value}
theorem safe_arr {vm : Vm} {r : Addr} {kr : ClassId} {ty : FieldType} {z : Int32} {vs : List Value} {d : Value} (hZ : Z.Warmed39 vm) (hw : ∀ p ∈ EL, ∃ text : String, (Cond.stringLink p.1 p.2 text).before a0 Z = true ∧ (∀ c ∈ text.toList, c.toNat < 256) ∧ ¬ text.toList.length = z.toNatClampNeg) (F : Arv Z h r kr ty z vs d) : Safe Z EL vm h r := by
  rintro ⟨p, hp, u, a, ⟨c, k', cf, i, hc', hk', hcf', hpool, hu, hor⟩, q, hqa, B, hy⟩
  obtain ⟨text, wl, ht, hlen⟩ := hw p hp
  obtain ⟨cl, A, q1, Sz, N, H, G⟩ := F
  rcases hy with rfl | rfl
  · have hA : h[q.sa]? = some q.sC := B.ha
    obtain rfl : cl = q.sC := Option.some.inj (A.1.symm.trans hA)
    obtain ⟨cS, S1, ⟨kS, e1, e2, e3⟩, -⟩ := B
    obtain ⟨hs, k, hk, comp, hkind⟩ := A.2.1
    obtain ⟨k2, e4, e5⟩ := hZ.alike.2.2 _ _ hk
    rw [S1.2.2] at e4
    cases e1.symm.trans e4
    rw [e5] at e2
    exact absurd (hkind.symm.trans e2) (fun q => nomatch q)
  · have hD : h[q.sd]? = some q.SA := B.hd
    obtain rfl : cl = q.SA := Option.some.inj (A.1.symm.trans hD)
    obtain ⟨cS, -, -, -, e4⟩ := B
    have wl' : (Cond.stringLink p.1 p.2 text).before a0 (Wst Z vm h) = true := mvS (s := { Z with heap := h }) hZ wl
    obtain ⟨k, cf0, i0, units0, hk, hcf, hp0, hu0, hnm, htext, -⟩ := Cond.stringLink_spec (s := Wst Z vm h) hc' wl'
    cases hk'.symm.trans hk
    cases hcf'.symm.trans hcf
    cases hpool.symm.trans hp0
    cases hu.symm.trans hu0
    have hlat := Jvm.ClassFile.lat_of_text htext ht
    have hun := Jvm.ClassFile.units_of_text htext ht
    refine hlen ?_
    rw [← Sz, e4]
    simp only [stringBytes, hlat, if_true, Array.size_map]
    rw [← Array.length_toList, hun, List.length_map]
theorem Seg.adopt {r : Addr} {kr : ClassId} {ty : FieldType} {z : Int32} {vs : List Value} {d : Value} (F : Arv Z h r kr ty z vs d) (hr : Ext Z.heap h → Z.heap.size ≤ r) (hw : ∀ p ∈ EL, ∃ text : String, (Cond.stringLink p.1 p.2 text).before a0 Z = true ∧ (∀ c ∈ text.toList, c.toNat < 256) ∧ ¬ text.toList.length = z.toNatClampNeg)
    (g : Seg l Z a0 EL y bytes maxL ret rm Q h k n (r :: sf) pc L S) : Seg l Z a0 EL y bytes maxL ret rm Q h k n sf pc L S := by
  intro p e s m args below meth c T C' w'
  obtain ⟨vm0, locs, k0, X, r1, r2, r3, r4, r5, r6, r7, r8, r9, r10⟩ := w'
  exact g p e s m args below meth c T C' ⟨vm0, locs, k0, X, r1, r2, r3, r4, r5, r6, r7, r8, r9, r10.cons (hr r8) F.lt (safe_arr r4 hw F)⟩
end A
end Jvm.OwnK
namespace Jvm.OwnK
open Jvm Jvm.ClassFile Sem Op Lib Jvm.Free Jvm.Stand Jvm.LawKit Jvm.RoadKit Bundle
/-! own kit, part 9: class mirrors, arrays of references, private methods -/
section B
variable {l : Launch} {Z : State} {a0 : Array Value} {EL : List (String × Nat)} {y : MethodName} {bytes : ByteArray} {maxL : Nat} {ret : Option FieldType} {rm : Room} {Q : Option Value → Heap → Prop} {h h' : Heap} {k n : Nat} {sf : List Addr} {pc pc' : Nat} {L : Array Slot} {S : List Value}
def Mirr (Z : State) (C : String) (a : Addr) : Prop := ∃ (c : ClassId) (k : Class), Z.vm.findClass C = some c ∧ Z.vm.classes[c]? = some k ∧ k.mirror = some a
theorem Mirr.at {C : String} {a : Addr} {vm0 : Vm} (hZ : Z.Warmed39 vm0) (M : Mirr Z C a) : ∃ (c : ClassId) (k : Class), vm0.findClass C = some c ∧ vm0.classes[c]? = some k ∧ k.mirror = some a := by
  obtain ⟨c, k, m1, m2, m3⟩ := M
  obtain ⟨k', q1, q2⟩ := hZ.alike.2.2 _ _ m2
  exact ⟨c, k', by rw [hZ.alike.findClass]; exact m1, q1, by rw [q2]; exact m3⟩
theorem Mirr.eval {C : String} {a : Addr} {vm0 : Vm} {s : State} {args : Array Value} (hZ : Z.Warmed39 vm0) (M : Mirr Z C a) : (Term.mirror C).eval args (s.setVm vm0) none [] (s.setVm vm0) = some (.ref a) := by
  obtain ⟨c, k, m1, m2, m3⟩ := M.at hZ
  simp [Term.eval, m1, m2, m3]
theorem Seg.ldcM {C : String} {idx : Nat} {a : Addr} (w : (Cond.classLink y.cls idx C).before a0 Z = true) (M : Mirr Z C a) (hd : decode bytes pc = .ok (.ldc idx, 2)) (hp : pc + 2 = pc')
    (g : Seg l Z a0 EL y bytes maxL ret rm Q h k n sf pc' L (.ref a :: S)) : Seg l Z a0 EL y bytes maxL ret rm Q h k n sf pc L S := by
  subst hp
  intro p e s m args below meth c T C' w'
  obtain ⟨vm0, locs, k0, X, r1, r2, r3, r4, r5, r⟩ := w'
  obtain ⟨vm1, X', st⟩ := X.ldcMirror C'.1 r5 (mvT r4 w) (M.eval r4) (g := mkF m pc L S) rfl (hb C'.2.1 hd)
  exact Gl.st st (g p e s m args below meth c (T.setVm vm1) C' ⟨vm0, locs, k0, X', r1, r2, r3, r4, r5, r⟩)
theorem Seg.getC {C : String} {idx : Nat} {a mir : Addr} (w1 : (Cond.methodLink y.cls idx Jvm.Stand.gcN).before a0 Z = true) (w2 : (Cond.declares Jvm.Stand.gcN).before a0 Z = true) (hnf : ∀ (s : State) (vm0 : Vm), Z.Warmed39 vm0 → Free.NotFace (s.setVm vm0) Jvm.Stand.gcN) (w3 : (Cond.selects C Jvm.Stand.gcN Jvm.Stand.gcN).before a0 Z = true) (w4 : (Cond.instanceMethod Jvm.Stand.gcN).before a0 Z = true) (w5 : (Cond.native Jvm.Stand.gcN).before a0 Z = true)
    (E : Exa Z h a C) (M : Mirr Z C mir) (hsz : L.size = maxL) (hd : decode bytes pc = .ok (.invokevirtual idx, 3)) (hp : pc + 3 = pc') (hf : 1 ≤ rm.frames) {W : Nat} (hW : (S.map fun v => v.category).sum ≤ W) (hl : W + 14 ≤ rm.locals)
    (g : Seg l Z a0 EL y bytes maxL ret rm Q h k n sf pc' L (.ref mir :: S)) : Seg l Z a0 EL y bytes maxL ret rm Q h k n sf pc L (.ref a :: S) := by
  subst hp
  intro p e s m args below meth c T C' w'
  obtain ⟨vm0, locs, k0, X, r1, r2, r3, r4, r5, r⟩ := w'
  obtain ⟨cq, kq, qa, qb, qc⟩ := isOf (s := s.setVm vm0) r4 r1 E
  obtain ⟨cm, km, m1, m2, m3⟩ := M.at r4
  cases (show vm0.findClass C = some cq from qa).symm.trans m1
  obtain ⟨vm1, X', st⟩ := X.getClassOf C'.1 r5 (mvT r4 w1) (mvT r4 w2) (hnf s vm0 r4) (mvT r4 w3) (mvT r4 w4) (mvT r4 w5) qa qc m2 m3 (g := mkF m pc L (.ref a :: S)) rfl (hsz.trans C'.2.2.1.symm) rfl (hb C'.2.1 hd) hf (by rw [show nativeFrameWords "java/lang/Object" "getClass" 1 = 3 from by decide]; show 2 * 0 + _ + _ ≤ _; omega)
  exact Gl.st st (g p e s m args below meth c (T.setVm vm1) C' ⟨vm0, locs, k0, X', r1, r2, r3, r4, r5, r⟩)
theorem Seg.getCI {C : String} {idx count : Nat} {xi : MethodName} {a mir : Addr} (w1 : (Cond.methodLink y.cls idx xi).before a0 Z = true) (w2 : (Cond.declares Jvm.Stand.gcN).before a0 Z = true) (w6 : (Cond.interfaceMethod xi.cls "java/lang/Object" xi.name xi.desc).before a0 Z = true)
    (w3 : (Cond.selects C xi Jvm.Stand.gcN).before a0 Z = true) (w4 : (Cond.instanceMethod Jvm.Stand.gcN).before a0 Z = true) (w7 : (Cond.publicMethod Jvm.Stand.gcN).before a0 Z = true) (w8 : (Cond.unhidden C xi.name xi.desc).before a0 Z = true) (w9 : (Cond.castable C xi.cls).before a0 Z = true) (w5 : (Cond.native Jvm.Stand.gcN).before a0 Z = true) (hx : xi.cls ≠ "java/lang/invoke/MethodHandle" ∧ xi.cls ≠ "java/lang/invoke/VarHandle") (hxo : xi.cls ≠ "java/lang/Object") (hname : xi.name = "getClass") (hdesc : xi.desc = "()Ljava/lang/Class;")
    (E : Exa Z h a C) (M : Mirr Z C mir) (hsz : L.size = maxL) (hd : decode bytes pc = .ok (.invokeinterface idx count, 5)) (hp : pc + 5 = pc') (hf : 1 ≤ rm.frames) {W : Nat} (hW : (S.map fun v => v.category).sum ≤ W) (hl : W + 14 ≤ rm.locals)
    (g : Seg l Z a0 EL y bytes maxL ret rm Q h k n sf pc' L (.ref mir :: S)) : Seg l Z a0 EL y bytes maxL ret rm Q h k n sf pc L (.ref a :: S) := by
  subst hp
  intro p e s m args below meth c T C' w'
  obtain ⟨vm0, locs, k0, X, r1, r2, r3, r4, r5, r⟩ := w'
  obtain ⟨cq, kq, qa, qb, qc⟩ := isOf (s := s.setVm vm0) r4 r1 E
  obtain ⟨cm, km, m1, m2, m3⟩ := M.at r4
  cases (show vm0.findClass C = some cq from qa).symm.trans m1
  obtain ⟨vm1, X', st⟩ := X.getClassOfI C'.1 r5 (mvT r4 w1) (mvT r4 w2) (Jvm.Free.ULB.iface_rides r4.alike w6) (mvT r4 w3) (mvT r4 w4) (mvT r4 w7) (mvT r4 w8) (mvT r4 w9) (mvT r4 w5) hx hxo hname hdesc qa m2 qc m3 (g := mkF m pc L (.ref a :: S)) rfl (hsz.trans C'.2.2.1.symm) rfl (hb C'.2.1 hd) hf (by rw [show nativeFrameWords "java/lang/Object" "getClass" 1 = 3 from by decide]; show 2 * 0 + _ + _ ≤ _; omega)
  exact Gl.st st (g p e s m args below meth c (T.setVm vm1) C' ⟨vm0, locs, k0, X', r1, r2, r3, r4, r5, r⟩)
theorem Seg.newR {C ad : String} {idx : Nat} {z : Int32} (w1 : (Cond.classLink y.cls idx C).before a0 Z = true) (w2 : (Cond.arrayOver (.object C)).before a0 Z = true) (had : "[" ++ (FieldType.object C).toString = ad) (hd : decode bytes pc = .ok (.anewarray idx, 3)) (hp : pc + 3 = pc') (hz : ¬ z < 0) {cap : Nat} (hcap : z.toNatClampNeg ≤ cap) (hb8 : cap * 8 ≤ 536870912) {k' n' : Nat} (hk : k + 1 = k') (hn : n + cap = n') (hk2 : k' ≤ rm.cells) (hn2 : n' ≤ rm.slots)
    (g : ∀ (x : Addr) (h' : Heap) (kc : ClassId), Ext h h' → h.size = x → x < h'.size → Arv Z h' x kc (.object C) z [] .null → Exa Z h' x ad → Ovr Z kc C → Seg l Z a0 EL y bytes maxL ret rm Q h' k' n' (x :: sf) pc' L (.ref x :: S)) :
    Seg l Z a0 EL y bytes maxL ret rm Q h k n sf pc L (.int z :: S) := by
  subst hp hk hn
  intro p e s m args below meth c T C' w'
  obtain ⟨vm0, locs, k0, X, r1, r2, r3, r4, r5, r6, r7, r8, r9, r10⟩ := w'
  obtain ⟨T', h', cA, X', e', E, A, Ex, O, st⟩ := RoadKit.newRE X C'.1 r4 r5 w1 w2 r1 (g := mkF m pc L (.int z :: S)) rfl (hb C'.2.1 hd) rfl hz hcap hb8 hk2 hn2 had
  have V := Arv.new A hz
  refine Gl.st st (g _ h' cA E rfl A.lt V Ex O p e s m args below meth c T' C' ⟨vm0, locs, k0, X', e', r2, Nat.le_trans r3 E.1, r4, r5, r6.trans (CHr.ext E r6.1), r7, ext_tr r8 E, r9, ?_⟩)
  exact (r10.chr (CHr.ext E r6.1)).cons r8.1 A.lt ((Safe.new (Nat.le_refl _)).ext E r6.1)
theorem Seg.aastore {a : Addr} {kc : ClassId} {ty : FieldType} {z j : Int32} {v : Value} {vs : List Value} {dv : Value} {i : Nat} (hty : ty.isReference = true) (F : Arv Z h a kc ty z vs dv) (hj : ¬ j < 0 ∧ j < z) (hi : j.toNatClampNeg = i) (hil : i < vs.length) (St : Sto Z h a v) (hv : fits ty v = true) (hsf : a ∈ sf) (hd : decode bytes pc = .ok (.aastore, 1)) (hp : pc + 1 = pc')
    (g : ∀ h', Wr h h' a i v → Arv Z h' a kc ty z (vs.set i v) dv → Seg l Z a0 EL y bytes maxL ret rm Q h' k n sf pc' L S) : Seg l Z a0 EL y bytes maxL ret rm Q h k n sf pc L (v :: .int j :: .ref a :: S) := by
  subst hp hi
  intro p e s m args below meth c T C' w'
  obtain ⟨vm0, locs, k0, X, r1, r2, r3, r4, r5, r⟩ := w'
  obtain ⟨cl, A, q, Sz, N, H, G⟩ := F
  obtain ⟨T', h', X', e', W, st⟩ := RoadKit.stR X C'.1 r4 r1 A (inb_of Sz hj) hty St (g := mkF m pc L (v :: .int j :: .ref a :: S)) rfl rfl (hb C'.2.1 hd)
  exact Gl.st st (g h' W (Arv.set A q Sz N H G hv W _ rfl hil) p e s m args below meth c T' C' (wkWr W hsf X' e' ⟨r2, r3, r4, r5, r⟩))
/-- null or an Integer -/
def IoN (Z : State) (h : Heap) (v : Value) : Prop := v = .null ∨ ∃ r, v = .ref r ∧ Exa Z h r "java/lang/Integer"
theorem IoN.isRef {v : Value} (F : IoN Z h v) : v.isRef = true := by rcases F with rfl | ⟨r, rfl, -⟩ <;> rfl
theorem IoN.ext {v : Value} (F : IoN Z h v) (E : Ext h h') : IoN Z h' v := F.imp id fun ⟨r, q, x⟩ => ⟨r, q, x.ext E⟩
theorem IoN.wr {v u : Value} {a : Addr} {i : Nat} (F : IoN Z h v) (W : Wr h h' a i u) : IoN Z h' v := F.imp id fun ⟨r, q, x⟩ => ⟨r, q, x.wr W⟩
theorem IoN.keep {v : Value} {ws : List Addr} (F : IoN Z h v) (K : Keep h h' ws) : IoN Z h' v := F.imp id fun ⟨r, q, x⟩ => ⟨r, q, x.keep K⟩
theorem IoN.fits {v : Value} {C : String} (F : IoN Z h v) : fits (.object C) v = true := by rcases F with rfl | ⟨r, rfl, -⟩ <;> rfl
theorem IoN.sto {v : Value} {a : Addr} {kc : ClassId} {ty : FieldType} {z : Int32} {vs : List Value} {dv : Value} (F : IoN Z h v) (A : Arv Z h a kc ty z vs dv) (O : Ovr Z kc "java/lang/Object") (w : (Cond.castable "java/lang/Integer" "java/lang/Object").before a0 Z = true) : Sto Z h a v := by
  rcases F with rfl | ⟨r, rfl, x⟩
  · exact Or.inl rfl
  · obtain ⟨cl, A', rfl, -⟩ := A
    exact Sto.of A' O (Ins.of_exa x w)
theorem nfits {C : String} : fits (.object C) .null = true := rfl
end B
section P
variable {l : Launch} {Z : State} {a0 : Array Value} {EL : List (String × Nat)} {y y' : MethodName} {bytes : ByteArray} {maxL : Nat} {ret : Option FieldType} {rm : Room} {Q Q' : Option Value → Heap → Prop} {h : Heap} {k n k' n' rc rs W idx : Nat} {sf : List Addr} {pc pc' : Nat} {L : Array Slot} {S rest argsL : List Value} {as' : Array Value}
theorem Seg.callPr {a : Addr} {C : String} {bytes' : ByteArray} {maxL' : Nat} {ret' : Option FieldType} (w1 : (Cond.methodLink y.cls idx y').before a0 Z = true) (w2 : (Cond.instanceMethod y').before a0 Z = true) (w3 : (Cond.selects y'.cls y' y').before a0 Z = true) (wp : (Cond.privateMethod y').before a0 Z = true) (w4 : (Cond.code y' bytes' maxL' ret').before a0 Z = true) (hy : y'.cls ≠ "java/lang/invoke/MethodHandle" ∧ y'.cls ≠ "java/lang/invoke/VarHandle") (E : Exa Z h a C)
    (hP : Pays l rm Z a0 EL sf y' 3 W as' h rc rs Q') (has : (.ref a :: argsL).toArray = as') (hlen : ∀ sig, parseMethodDescriptor y'.desc = some sig → argsL.length = sig.parameters.length) (hst : S = argsL.reverse ++ .ref a :: rest) (hW : (rest.map fun v => v.category).sum ≤ W) (hsz : L.size = maxL) (hd : decode bytes pc = .ok (.invokevirtual idx, 3)) (hp : pc + 3 = pc')
    (hk : k + rc = k') (hn : n + rs = n') (hk2 : k' ≤ rm.cells) (hn2 : n' ≤ rm.slots)
    (g : ∀ (v : Option Value) (h' : Heap), h.size ≤ h'.size → Q' v h' → Seg l Z a0 EL y bytes maxL ret rm Q h' k' n' sf pc' L (v.toList ++ rest)) : Seg l Z a0 EL y bytes maxL ret rm Q h k n sf pc L S := by
  subst hp hk hn hst has
  intro p e s m args below meth c T C' w'
  obtain ⟨vm0, locs, k0, X, r1, r2, r3, r4, r5, r6, r7, r8, r9, r10⟩ := w'
  obtain ⟨cq, kq, qa, qb, cell, qc, qd, qe⟩ := isOf (s := s.setVm vm0) r4 r1 E
  obtain ⟨v, vm1, B, -, X', hS, hg, ⟨L0, ⟨q1, q2, q3⟩, hl, hc, hs, q4⟩, st⟩ := X.privateBackS C'.1 r5 (mvT r4 w1) (mvT r4 w2) (mvT r4 w3) (Cond.privateMethod_at (args := args) (mvP r4 wp)) (mvT r4 w4) hy (hP p e below s args vm0 r4 r6.1 r10 r8 r9) (g := mkF m pc L (argsL.reverse ++ .ref a :: rest)) rfl (hsz.trans C'.2.2.1.symm) (Steps.refl _) qc (fun z q => by rw [q] at qe; cases qe) (argsL := argsL) (rest := rest) hlen rfl (by show 2 * 0 + _ ≤ _; omega) (hb C'.2.1 hd) (fun _ _ => ⟨rfl, r1, hk2, hn2⟩)
  rw [r1] at hg
  exact Gl.st (fun t hr => st.trans hr) (g v B.U.heap hg q3 p e s m args below meth c B.U C' (wkBack ⟨r2, r3, r4, r5, r6, r7, r8, r9, r10⟩ X' hS hg ⟨q1, q2⟩ hl hc hs q4))
end P
theorem all_exa {Z : State} {args : Array Value} {C0 n0 d0 K : String} {B : Cond} {a : Addr} {cl : Cell} (ev0 : (Term.static C0 n0 d0).eval args Z none [] Z = some (.ref a)) (hat : Z.arrayAt? a = some cl) (hc : Z.heap[a]? = some cl)
    (h : (Cond.all (.static C0 n0 d0) (.and (.exactly (.elem (.static C0 n0 d0) (.index 0)) K) B)).value args Z none Z [] = some true) {i : Nat} (hi : i < cl.slots.size) (hs : i ≤ 100000) : ∃ r, cl.slots[i]? = some (.ref r) ∧ Exa Z Z.heap r K := by
  have q := Cond.all_elim ev0 hat h i hi
  obtain ⟨q1, -⟩ := and_e q
  have e : (Term.elem (.static C0 n0 d0) (.int (Int32.ofNat i))).eval args Z none [] Z = (Term.elem (.static C0 n0 d0) (.index 0)).eval args Z none [i] Z := by simp [Term.eval]
  have q2 : (Cond.exactly (.elem (.static C0 n0 d0) (.int (Int32.ofNat i))) K).value args Z none Z [] = some true := by
    simp only [Cond.value, e] at q1 ⊢
    exact q1
  obtain ⟨r, er⟩ := exa_v q2
  refine ⟨r, ?_, Exa.start er q2⟩
  have g := (elem_in er ev0 (Term.int_eval _) hc).2
  rw [n32c hs] at g
  exact g
end Jvm.OwnK
namespace Jvm.OwnK
open Jvm Jvm.ClassFile Sem Op Lib Jvm.Free Jvm.Stand Jvm.LawKit Jvm.RoadKit Bundle
/-! own kit, part 10: calls of a superclass's methods, private methods met by a subclass's word -/
section P
variable {l : Launch} {Z : State} {a0 : Array Value} {EL : List (String × Nat)} {y y' : MethodName} {bytes : ByteArray} {maxL : Nat} {ret : Option FieldType} {rm : Room} {Q Q' : Option Value → Heap → Prop} {h : Heap} {k n k' n' rc rs W idx : Nat} {sf : List Addr} {pc pc' : Nat} {L : Array Slot} {S rest argsL : List Value} {as' : Array Value}
theorem sel_self {C : String} (ws : (Cond.selects C y y).before a0 Z = true) (wp : (Cond.privateMethod y).before a0 Z = true) (wi : (Cond.instanceMethod y).before a0 Z = true) (hy : y.cls ≠ "java/lang/invoke/MethodHandle" ∧ y.cls ≠ "java/lang/invoke/VarHandle") : (Cond.selects y.cls y y).before a0 Z = true := by
  obtain ⟨c2, r2, m2, -, -, q3, -, kP, hkP, hkPi⟩ := Cond.selects_spec ws
  exact Jvm.Stand.selects_self_of_private (findClass_of_methodNamed q3) hkP hkPi (Cond.privateMethod_at wp) wi hy
theorem same_of {z : MethodName} {C : String} (wi : (Cond.instanceMethod y).before a0 Z = true) (ws : (Cond.selects C z z).before a0 Z = true) (hc : z.cls = y.cls) (hy : y.cls ≠ "java/lang/invoke/MethodHandle" ∧ y.cls ≠ "java/lang/invoke/VarHandle") : (Cond.sameMethod y.cls y.cls y.name y.desc).before a0 Z = true := by
  obtain ⟨mk, methM, hnamed, hmethM, -, -⟩ := Cond.instanceMethod_spec wi
  have hfound := State.methodFound?_of_named hnamed hy
  obtain ⟨c2, r2, m2, -, -, q3, -, kP, hkP, hkPi⟩ := Cond.selects_spec ws
  have f1 := findClass_of_methodNamed q3
  have f2 := findClass_of_methodNamed hnamed
  rw [hc] at f1
  have e : m2.cls = mk.cls := Option.some.inj (f1.symm.trans f2)
  rw [e] at hkP
  simp only [Cond.before, Cond.holds, Cond.value, f2, hfound, hnamed, hkP]
  simp [hkPi]
theorem nf_cls {z : MethodName} {C : String} (ws : (Cond.selects C z z).before a0 Z = true) (hc : z.cls = y'.cls) (s : State) (vm0 : Vm) (hZ : Z.Warmed39 vm0) : Free.NotFace (s.setVm vm0) y' := by
  have w := mvT (s := s.setVm vm0) (args := #[]) hZ ws
  obtain ⟨c2, r2, m2, -, -, q3, -, kP, hkP, hkPi⟩ := Cond.selects_spec w
  intro r0 hn
  have f1 := findClass_of_methodNamed q3
  have f2 := findClass_of_methodNamed hn
  rw [hc] at f1
  have e : m2.cls = r0.cls := Option.some.inj (f1.symm.trans f2)
  exact ⟨kP, by rw [← e]; exact hkP, hkPi⟩
theorem Seg.callSup {K : String} {a : Addr} {bytes' : ByteArray} {maxL' : Nat} {ret' : Option FieldType} (w1 : (Cond.methodLink y.cls idx y').before a0 Z = true) (w2 : (Cond.sameMethod y'.cls y'.cls y'.name y'.desc).before a0 Z = true) (w3 : (Cond.instanceMethod y').before a0 Z = true) (w4 : (Cond.superclass y.cls y'.cls).before a0 Z = true) (hn' : y'.name ≠ "<init>") (wc : (Cond.code y' bytes' maxL' ret').before a0 Z = true) (E : Ins Z h a K true)
    (hP : Pays l rm Z a0 EL sf y' 3 W as' h rc rs Q') (has : (.ref a :: argsL).toArray = as') (hlen : ∀ sig, parseMethodDescriptor y'.desc = some sig → argsL.length = sig.parameters.length) (hst : S = argsL.reverse ++ .ref a :: rest) (hW : (rest.map fun v => v.category).sum ≤ W) (hsz : L.size = maxL) (hd : decode bytes pc = .ok (.invokespecial idx, 3)) (hp : pc + 3 = pc')
    (hk : k + rc = k') (hn : n + rs = n') (hk2 : k' ≤ rm.cells) (hn2 : n' ≤ rm.slots)
    (g : ∀ (v : Option Value) (h' : Heap), h.size ≤ h'.size → Q' v h' → Seg l Z a0 EL y bytes maxL ret rm Q h' k' n' sf pc' L (v.toList ++ rest)) : Seg l Z a0 EL y bytes maxL ret rm Q h k n sf pc L S := by
  subst hp hk hn hst has
  intro p e s m args below meth c T C' w'
  obtain ⟨vm0, locs, k0, X, r1, r2, r3, r4, r5, r6, r7, r8, r9, r10⟩ := w'
  obtain ⟨v, vm1, B, -, X', hS, hg, ⟨L0, ⟨q1, q2, q3⟩, hl, hc, hs, q4⟩, st⟩ := RoadKit.superBackS X C'.1 r4 r5 w1 w2 w3 w4 hn' (hP p e below s args vm0 r4 r6.1 r10 r8 r9) r1 E (g := mkF m pc L (argsL.reverse ++ .ref a :: rest)) rfl (hsz.trans C'.2.2.1.symm) wc (argsL := argsL) (rest := rest) hlen rfl (by show 2 * 0 + _ ≤ _; omega) (hb C'.2.1 hd) (fun _ _ => ⟨rfl, r1, hk2, hn2⟩)
  rw [r1] at hg
  exact Gl.st (fun t hr => st.trans hr) (g v B.U.heap hg q3 p e s m args below meth c B.U C' (wkBack ⟨r2, r3, r4, r5, r6, r7, r8, r9, r10⟩ X' hS hg ⟨q1, q2⟩ hl hc hs q4))
end P
end Jvm.OwnK
namespace Jvm.Pilot.@@N@@
open Jvm Jvm.ClassFile Sem Op Lib Jvm.Free Jvm.Stand Jvm.LawKit Jvm.RoadKit Bundle Jvm.OwnK Jvm.Pilot.@@N@@.Jvm.D
def Pins (Z : State) (d0 : Addr) (kd : ClassId) (e0 mo ma : Addr) : Prop := Sta Z Z.heap "java/util/ArrayList" "DEFAULTCAPACITY_EMPTY_ELEMENTDATA" "[Ljava/lang/Object;" (.ref d0) ∧ Arv Z Z.heap d0 kd (.object "java/lang/Object") 0 [] .null ∧ Exa Z Z.heap d0 "[Ljava/lang/Object;" ∧ Sta Z Z.heap "java/util/ArrayList" "EMPTY_ELEMENTDATA" "[Ljava/lang/Object;" (.ref e0) ∧ Mirr Z "[Ljava/lang/Object;" mo ∧ Mirr Z "java/util/ArrayList" ma
def EL1 : List (String × Nat) := []
def Env1 (Z : State) (a0 : Array Value) : Prop := (∀ d ∈ tables_1, d.before a0 Z = true) ∧ EW Z a0 EL1 ∧ ((Sta Z Z.heap "java/lang/Integer$IntegerCache" "high" "I" (.int 127) ∧ ∃ (ca : Addr) (kc : ClassId) (vs : List Value), Sta Z Z.heap "java/lang/Integer$IntegerCache" "cache" "[Ljava/lang/Integer;" (.ref ca) ∧ Arv Z Z.heap ca kc (.object "java/lang/Integer") 256 vs .null ∧ ∀ i, i < 256 → ∃ r, vs.getD i .null = .ref r ∧ Exa Z Z.heap r "java/lang/Integer") ∧ ∃ (d0 : Addr) (kd : ClassId) (e0 mo ma : Addr), Pins Z d0 kd e0 mo ma)
theorem wd {Z : State} {a0 : Array Value} (G : Env1 Z a0) (i : Nat) {d : Jvm.Cond} (h : tables_1[i]? = some d) : d.before a0 Z = true := G.1 d (List.mem_of_getElem? h)
theorem wS_in : ∀ a ∈ Bundle.stringAtoms, a ∈ tables_1 := by decide +kernel
theorem wS {Z : State} {a0 : Array Value} (G : Env1 Z a0) : ∀ a ∈ Bundle.stringAtoms, a.before a0 Z = true := fun a ha => G.1 a (wS_in a ha)
theorem narrow_obj (C : String) (v : Value) : narrow (.object C) v = v := by cases v <;> rfl
theorem fits_obj {C : String} {v : Value} (h : v.isRef = true) : fits (.object C) v = true := by cases v <;> simp_all [Value.isRef, fits]
theorem narrow_bool {r : Int32} (h : r = 0 ∨ r = 1) : narrow .boolean (.int r) = .int r := by rcases h with rfl | rfl <;> rfl
theorem fits_bool {r : Int32} (h : r = 0 ∨ r = 1) : fits .boolean (.int r) = true := by rcases h with rfl | rfl <;> rfl
theorem and3 (x : Int32) : (x &&& 3) = 0 ∨ (x &&& 3) = 1 ∨ (x &&& 3) = 2 ∨ (x &&& 3) = 3 := by
  have h := c_and x 3 (by decide)
  have e : (3 : Int32).toInt = 3 := by decide
  rw [e] at h
  obtain ⟨i, hi, q⟩ := toInt_cases (n := 4) h.1 (by omega) (by decide)
  rw [q]
  match i, hi with
  | 0, _ => decide
  | 1, _ => decide
  | 2, _ => decide
  | 3, _ => decide
theorem and1 (x : Int32) : (x &&& 1) = 0 ∨ (x &&& 1) = 1 := and_one x
theorem mask31 (x : Int32) : 0 ≤ (x &&& 2147483647).toInt := (c_and x 2147483647 (by decide)).1
theorem rem3 (x : Int32) : ((x &&& 2147483647) % 3) = 0 ∨ ((x &&& 2147483647) % 3) = 1 ∨ ((x &&& 2147483647) % 3) = 2 := by
  have h := (c_iremV (x &&& 2147483647) 3).1 (mask31 x) (by decide)
  have e : (3 : Int32).toInt = 3 := by decide
  rw [e] at h
  obtain ⟨i, hi, q⟩ := toInt_cases (n := 3) h.1 (by omega) (by decide)
  rw [q]
  match i, hi with
  | 0, _ => decide
  | 1, _ => decide
  | 2, _ => decide
theorem nar255 {u : Int32} (h : ¬ u < 0 ∧ ¬ (255 : Int32) < u) : nar .char u = u := by
  have q := c_i2c u
  refine Int32.toInt_inj.mp ?_
  rw [Int32.lt_iff_toInt_lt, Int32.lt_iff_toInt_lt] at h
  have e : (255 : Int32).toInt = 255 := by decide
  have e0 : (0 : Int32).toInt = 0 := by decide
  rw [e, e0] at h
  show u.toUInt32.toUInt16.toUInt32.toInt32.toInt = u.toInt
  omega
theorem cidx {u : Int32} (h1 : ¬ u < (-128 : Int32)) (h2 : ¬ (127 : Int32) < u) : (¬ (u + (128 : Int32)) < 0 ∧ (u + (128 : Int32)) < 256) ∧ (u + (128 : Int32)).toNatClampNeg < 256 := by
  have q := c_iadd u 128
  have e1 : (-128 : Int32).toInt = -128 := by decide
  have e2 : (127 : Int32).toInt = 127 := by decide
  have e3 : (128 : Int32).toInt = 128 := by decide
  have e4 : (256 : Int32).toInt = 256 := by decide
  have e0 : (0 : Int32).toInt = 0 := by decide
  rw [Int32.lt_iff_toInt_lt, e1] at h1
  rw [Int32.lt_iff_toInt_lt, e2] at h2
  rw [e3] at q
  have r := Int32.toInt_lt (u + 128)
  have r' := Int32.le_toInt (u + 128)
  rw [Int32.lt_iff_toInt_lt, Int32.lt_iff_toInt_lt, e0, e4, Int32.toNatClampNeg]
  omega
theorem noEL : ∀ p ∈ EL1, False := fun p hp => by simp [EL1] at hp
theorem rem4 (x : Int32) : ∃ i : Nat, i < 4 ∧ ((x &&& (2147483647 : Int32)) % (4 : Int32)) = Int32.ofNat i := by
  have h := (c_iremV (x &&& 2147483647) 4).1 (mask31 x) (by decide)
  have e : (4 : Int32).toInt = 4 := by decide
  rw [e] at h
  exact toInt_cases (n := 4) h.1 (by omega) (by decide)
theorem d27_0 : decode jdk_18_method_1_code 0 = .ok (.aload_n 0, 1) := by decide +kernel
theorem d27_1 : decode jdk_18_method_1_code 1 = .ok (.invokespecial 1, 3) := by decide +kernel
theorem d27_4 : decode jdk_18_method_1_code 4 = .ok (.return_, 1) := by decide +kernel
theorem pn_java_lang_Number : plainName "java/lang/Number" = true := by first | (simp [plainName, overriddenIn]; done) | decide +kernel
theorem ef_ct_num (a : Addr) (m : MethodId) : entryFrame m #[(.ref a)] 1 = mkF m 0 #[.val (.ref a)] [] := by first | (simp [entryFrame, mkF, argsToLocals, Value.category]; done) | rfl
set_option maxRecDepth 65536 in
set_option maxHeartbeats 4000000 in
theorem ct_num {l : Launch} {Z : State} {a0 : Array Value} (G : Env1 Z a0) (a : Addr) (h0 : Heap) :
    Ct l Z EL1 [] [] (⟨"java/lang/Number", "<init>", "()V"⟩ : MethodName) jdk_18_method_1_code 1 none ({ frames := 1, cells := 0, slots := 0, locals := 12 } : Room) #[(.ref a)] h0 (fun v h => v = none ∧ h0 = h) := by
  refine Ct.of_seg (a0 := a0) (plainFor_of_name pn_java_lang_Number) G.2.1 (ef_ct_num a) ?_
  refine Seg.aloadN d27_0 rfl rfl (pc' := 1) rfl ?_
  refine Seg.initO (wd G 186 rfl) (wd G 27 rfl) (wd G 28 rfl) rfl d27_1 (pc' := 4) rfl (by decide) (W := 0) (Nat.le_of_eq rfl) (by decide) ?_
  exact Seg.ret0 rfl d27_4 (by decide) (by decide) ⟨rfl, rfl⟩
theorem d4_0 : decode jdk_22_method_1_code 0 = .ok (.aload_n 0, 1) := by decide +kernel
theorem d4_1 : decode jdk_22_method_1_code 1 = .ok (.invokespecial 1, 3) := by decide +kernel
theorem d4_4 : decode jdk_22_method_1_code 4 = .ok (.return_, 1) := by decide +kernel
theorem pn_java_util_AbstractCollection : plainName "java/util/AbstractCollection" = true := by first | (simp [plainName, overriddenIn]; done) | decide +kernel
theorem ef_ct_ac (a : Addr) (m : MethodId) : entryFrame m #[(.ref a)] 1 = mkF m 0 #[.val (.ref a)] [] := by first | (simp [entryFrame, mkF, argsToLocals, Value.category]; done) | rfl
set_option maxRecDepth 65536 in
set_option maxHeartbeats 4000000 in
theorem ct_ac {l : Launch} {Z : State} {a0 : Array Value} (G : Env1 Z a0) (a : Addr) (h0 : Heap) :
    Ct l Z EL1 [] [] (⟨"java/util/AbstractCollection", "<init>", "()V"⟩ : MethodName) jdk_22_method_1_code 1 none ({ frames := 1, cells := 0, slots := 0, locals := 12 } : Room) #[(.ref a)] h0 (fun v h => v = none ∧ h0 = h) := by
  refine Ct.of_seg (a0 := a0) (plainFor_of_name pn_java_util_AbstractCollection) G.2.1 (ef_ct_ac a) ?_
  refine Seg.aloadN d4_0 rfl rfl (pc' := 1) rfl ?_
  refine Seg.initO (wd G 26 rfl) (wd G 27 rfl) (wd G 28 rfl) rfl d4_1 (pc' := 4) rfl (by decide) (W := 0) (Nat.le_of_eq rfl) (by decide) ?_
  exact Seg.ret0 rfl d4_4 (by decide) (by decide) ⟨rfl, rfl⟩
theorem d26_0 : decode jdk_33_method_23_code 0 = .ok (.aload_n 0, 1) := by decide +kernel
theorem d26_1 : decode jdk_33_method_23_code 1 = .ok (.invokespecial 202, 3) := by decide +kernel
theorem pd_0 : parseMethodDescriptor "()V" = some ⟨[], none⟩ := by decide +kernel
theorem d26_4 : decode jdk_33_method_23_code 4 = .ok (.aload_n 0, 1) := by decide +kernel
theorem d26_5 : decode jdk_33_method_23_code 5 = .ok (.iload_n 1, 1) := by decide +kernel
theorem d26_6 : decode jdk_33_method_23_code 6 = .ok (.putfield 205, 3) := by decide +kernel
theorem d26_9 : decode jdk_33_method_23_code 9 = .ok (.return_, 1) := by decide +kernel
theorem pn_java_lang_Integer : plainName "java/lang/Integer" = true := by first | (simp [plainName, overriddenIn]; done) | decide +kernel
theorem ef_ct_ii (a : Addr) (u : Int32) (o0 : Value) (m : MethodId) : entryFrame m #[(.ref a), (.int u)] 2 = mkF m 0 #[.val (.ref a), .val (.int u)] [] := by first | (simp [entryFrame, mkF, argsToLocals, Value.category]; done) | rfl
set_option maxRecDepth 65536 in
set_option maxHeartbeats 4000000 in
theorem ct_ii {l : Launch} {Z : State} {a0 : Array Value} (G : Env1 Z a0) (a : Addr) (u : Int32) (o0 : Value) (h0 : Heap) (A : Exa Z h0 a "java/lang/Integer") (F0 : Fld Z h0 a "java/lang/Integer" "value" "I" o0) :
    Ct l Z EL1 [a] [] (⟨"java/lang/Integer", "<init>", "(I)V"⟩ : MethodName) jdk_33_method_23_code 2 none ({ frames := 2, cells := 0, slots := 0, locals := 24 } : Room) #[(.ref a), (.int u)] h0 (fun v h => v = none ∧ Keep h0 h [a]) := by
  refine Ct.of_seg (a0 := a0) (plainFor_of_name pn_java_lang_Integer) G.2.1 (ef_ct_ii a u o0) ?_
  refine Seg.aloadN d26_0 rfl rfl (pc' := 1) rfl ?_
  refine Seg.callN (y' := (⟨"java/lang/Number", "<init>", "()V"⟩ : MethodName)) (a := a) rfl (wd G 180 rfl) (wd G 181 rfl) (wd G 185 rfl) ⟨by decide, by decide⟩ (Pays.of_ct (W := 0) (ct_num G a h0) all0 (wd G 185 rfl) (wd G 184 rfl) (by decide) (by decide) rfl rfl) (argsL := []) (rest := []) rfl (lenOf pd_0 rfl) rfl (Nat.le_of_eq rfl) rfl d26_1 (pc' := 4) rfl (k' := 0) (n' := 0) rfl rfl (by decide) (by decide) ?_
  intro v_1 h_4 sz_2 q_3
  obtain ⟨rfl, rfl⟩ := q_3
  refine Seg.aloadN d26_4 rfl rfl (pc' := 5) rfl ?_
  refine Seg.iloadN d26_5 rfl (pc' := 6) rfl ?_
  refine Seg.putF (host := "") (ty := .int) (v' := (.int u)) (wd G 187 rfl) Via.refl F0 A (Or.inr ⟨(wd G 188 rfl), rfl, rfl⟩) (wd G 175 rfl) (by decide) rfl rfl (List.mem_of_getElem? (i := 0) rfl) d26_6 (pc' := 9) rfl ?_
  intro h_7 W_5 F_6
  exact Seg.ret0 rfl d26_9 (by decide) (by decide) ⟨rfl, ((Keep.refl h0 [a]).wr W_5 (Or.inl (List.mem_of_getElem? (i := 0) rfl)))⟩
theorem d1_0 : decode jdk_33_method_22_code 0 = .ok (.iload_n 0, 1) := by decide +kernel
theorem d1_1 : decode jdk_33_method_22_code 1 = .ok (.bipush (-128), 2) := by decide +kernel
theorem d1_3 : decode jdk_33_method_22_code 3 = .ok (.if_icmp .lt 20, 3) := by decide +kernel
theorem d1_23 : decode jdk_33_method_22_code 23 = .ok (.new 1, 3) := by decide +kernel
theorem d1_26 : decode jdk_33_method_22_code 26 = .ok (.dup, 1) := by decide +kernel
theorem d1_27 : decode jdk_33_method_22_code 27 = .ok (.iload_n 0, 1) := by decide +kernel
theorem d1_28 : decode jdk_33_method_22_code 28 = .ok (.invokespecial 199, 3) := by decide +kernel
theorem pd_1 : parseMethodDescriptor "(I)V" = some ⟨[.int], none⟩ := by decide +kernel
theorem d1_31 : decode jdk_33_method_22_code 31 = .ok (.areturn, 1) := by decide +kernel
theorem d1_6 : decode jdk_33_method_22_code 6 = .ok (.iload_n 0, 1) := by decide +kernel
theorem d1_7 : decode jdk_33_method_22_code 7 = .ok (.getstatic 191, 3) := by decide +kernel
theorem d1_10 : decode jdk_33_method_22_code 10 = .ok (.if_icmp .gt 13, 3) := by decide +kernel
theorem d1_13 : decode jdk_33_method_22_code 13 = .ok (.getstatic 195, 3) := by decide +kernel
theorem d1_16 : decode jdk_33_method_22_code 16 = .ok (.iload_n 0, 1) := by decide +kernel
theorem d1_17 : decode jdk_33_method_22_code 17 = .ok (.sipush 128, 3) := by decide +kernel
theorem d1_20 : decode jdk_33_method_22_code 20 = .ok (.iadd, 1) := by decide +kernel
theorem d1_21 : decode jdk_33_method_22_code 21 = .ok (.aaload, 1) := by decide +kernel
theorem d1_22 : decode jdk_33_method_22_code 22 = .ok (.areturn, 1) := by decide +kernel
theorem ef_ct_vo (u : Int32) (m : MethodId) : entryFrame m #[(.int u)] 1 = mkF m 0 #[.val (.int u)] [] := by first | (simp [entryFrame, mkF, argsToLocals, Value.category]; done) | rfl
set_option maxRecDepth 65536 in
set_option maxHeartbeats 4000000 in
theorem ct_vo {l : Launch} {Z : State} {a0 : Array Value} (G : Env1 Z a0) (u : Int32) (h0 : Heap) :
    Ct l Z EL1 [] [] (⟨"java/lang/Integer", "valueOf", "(I)Ljava/lang/Integer;"⟩ : MethodName) jdk_33_method_22_code 1 (some (.object "java/lang/Integer")) ({ frames := 3, cells := 1, slots := 1, locals := 38 } : Room) #[(.int u)] h0 (fun v h => ∃ r, v = some (.ref r) ∧ Ext h0 h ∧ Exa Z h r "java/lang/Integer") := by
  refine Ct.of_seg (a0 := a0) (plainFor_of_name pn_java_lang_Integer) G.2.1 (ef_ct_vo u) ?_
  obtain ⟨Sh, ca, kc, vs, Sc, Ac, hE⟩ := G.2.2.1
  refine Seg.start fun hZ0 => ?_
  have Ac1 := Ac.ext hZ0
  refine Seg.iloadN d1_0 rfl (pc' := 1) rfl ?_
  refine Seg.bipush (v := -128) d1_1 (by decide) (pc' := 3) rfl ?_
  by_cases h1 : u < (-128 : Int32)
  · refine Seg.icY (pc' := 23) d1_3 (XT.ii_lt_t h1) (by decide) (by decide) ?_
    refine Seg.newO (wd G 174 rfl) (wd G 175 rfl) (wd G 3 rfl) d1_23 (pc' := 26) rfl (k' := 1) (n' := 1) rfl rfl (by decide) (by decide) ?_
    intro b_1 h_3 E_2 e_b_1 l_b_1 A_b_1 D_b_1
    have F_value_b_1 : Fld Z h_3 b_1 "java/lang/Integer" "value" "I" (.int (0 : Int32)) := D_b_1 (Or.inr (wd G 188 rfl)) (ty := .int) (by decide)
    refine Seg.dup d1_26 rfl (pc' := 27) rfl ?_
    refine Seg.iloadN d1_27 rfl (pc' := 28) rfl ?_
    refine Seg.callN (y' := (⟨"java/lang/Integer", "<init>", "(I)V"⟩ : MethodName)) (a := b_1) rfl (wd G 176 rfl) (wd G 177 rfl) (wd G 179 rfl) ⟨by decide, by decide⟩ (Pays.of_ct (W := 1) (ct_ii G b_1 u (.int 0) h_3 A_b_1 F_value_b_1) (allS (List.mem_of_getElem? (i := 0) rfl) all0) (wd G 179 rfl) (wd G 3 rfl) (by decide) (by decide) rfl rfl) (argsL := [(.int u)]) (rest := [(.ref b_1)]) rfl (lenOf pd_1 rfl) rfl (Nat.le_of_eq rfl) rfl d1_28 (pc' := 31) rfl (k' := 1) (n' := 1) rfl rfl (by decide) (by decide) ?_
    intro v_4 h_7 sz_5 q_6
    obtain ⟨rfl, K1⟩ := q_6
    have E_8 : Ext h0 h_7 := ext_kp E_2 K1 (allS (Nat.le_trans (ext_rfl _).1 (Nat.le_of_eq e_b_1)) all0)
    have F_9 := (A_b_1.keep K1)
    exact Seg.retA rfl rfl rfl d1_31 (by decide) (by decide) ⟨b_1, rfl, E_8, F_9⟩
  · refine Seg.icN d1_3 (XT.ii_lt_f h1) (pc' := 6) rfl ?_
    refine Seg.iloadN d1_6 rfl (pc' := 7) rfl ?_
    refine Seg.getS (wd G 5 rfl) Via.refl Sh d1_7 (pc' := 10) rfl ?_
    by_cases h2 : (127 : Int32) < u
    · refine Seg.icY (pc' := 23) d1_10 (XT.ii_gt_t h2) (by decide) (by decide) ?_
      refine Seg.newO (wd G 174 rfl) (wd G 175 rfl) (wd G 3 rfl) d1_23 (pc' := 26) rfl (k' := 1) (n' := 1) rfl rfl (by decide) (by decide) ?_
      intro b_10 h_12 E_11 e_b_10 l_b_10 A_b_10 D_b_10
      have F_value_b_10 : Fld Z h_12 b_10 "java/lang/Integer" "value" "I" (.int (0 : Int32)) := D_b_10 (Or.inr (wd G 188 rfl)) (ty := .int) (by decide)
      refine Seg.dup d1_26 rfl (pc' := 27) rfl ?_
      refine Seg.iloadN d1_27 rfl (pc' := 28) rfl ?_
      refine Seg.callN (y' := (⟨"java/lang/Integer", "<init>", "(I)V"⟩ : MethodName)) (a := b_10) rfl (wd G 176 rfl) (wd G 177 rfl) (wd G 179 rfl) ⟨by decide, by decide⟩ (Pays.of_ct (W := 1) (ct_ii G b_10 u (.int 0) h_12 A_b_10 F_value_b_10) (allS (List.mem_of_getElem? (i := 0) rfl) all0) (wd G 179 rfl) (wd G 3 rfl) (by decide) (by decide) rfl rfl) (argsL := [(.int u)]) (rest := [(.ref b_10)]) rfl (lenOf pd_1 rfl) rfl (Nat.le_of_eq rfl) rfl d1_28 (pc' := 31) rfl (k' := 1) (n' := 1) rfl rfl (by decide) (by decide) ?_
      intro v_13 h_16 sz_14 q_15
      obtain ⟨rfl, K1⟩ := q_15
      have E_17 : Ext h0 h_16 := ext_kp E_11 K1 (allS (Nat.le_trans (ext_rfl _).1 (Nat.le_of_eq e_b_10)) all0)
      have F_18 := (A_b_10.keep K1)
      exact Seg.retA rfl rfl rfl d1_31 (by decide) (by decide) ⟨b_10, rfl, E_17, F_18⟩
    · refine Seg.icN d1_10 (XT.ii_gt_f h2) (pc' := 13) rfl ?_
      refine Seg.getS (wd G 7 rfl) Via.refl Sc d1_13 (pc' := 16) rfl ?_
      refine Seg.iloadN d1_16 rfl (pc' := 17) rfl ?_
      refine Seg.sipush (v := 128) d1_17 (by decide) (pc' := 20) rfl ?_
      refine Seg.iadd (v := (u + (128 : Int32))) d1_20 rfl (pc' := 21) rfl ?_
      obtain ⟨r, hr, Xr⟩ := hE _ (cidx h1 h2).2
      refine Seg.aaload (v := (.ref r)) rfl Ac1 (cidx h1 h2).1 hr d1_21 (pc' := 22) rfl ?_
      exact Seg.retA rfl rfl rfl d1_22 (by decide) (by decide) ⟨r, rfl, ext_rfl _, Xr.ext hZ0⟩
theorem d3_0 : decode jdk_39_method_1_code 0 = .ok (.aload_n 0, 1) := by decide +kernel
theorem d3_1 : decode jdk_39_method_1_code 1 = .ok (.invokespecial 1, 3) := by decide +kernel
theorem d3_4 : decode jdk_39_method_1_code 4 = .ok (.aload_n 0, 1) := by decide +kernel
theorem d3_5 : decode jdk_39_method_1_code 5 = .ok (.iconst 0, 1) := by decide +kernel
theorem d3_6 : decode jdk_39_method_1_code 6 = .ok (.putfield 7, 3) := by decide +kernel
theorem d3_9 : decode jdk_39_method_1_code 9 = .ok (.return_, 1) := by decide +kernel
theorem pn_java_util_AbstractList : plainName "java/util/AbstractList" = true := by first | (simp [plainName, overriddenIn]; done) | decide +kernel
theorem ef_ct_abA (a : Addr) (o0 : Value) (o1 : Value) (o2 : Value) (m : MethodId) : entryFrame m #[(.ref a)] 1 = mkF m 0 #[.val (.ref a)] [] := by first | (simp [entryFrame, mkF, argsToLocals, Value.category]; done) | rfl
set_option maxRecDepth 65536 in
set_option maxHeartbeats 4000000 in
theorem ct_abA {l : Launch} {Z : State} {a0 : Array Value} (G : Env1 Z a0) (a : Addr) (o0 : Value) (o1 : Value) (o2 : Value) (h0 : Heap) (A : Exa Z h0 a "java/util/ArrayList") (F0 : Fld Z h0 a "java/util/AbstractList" "modCount" "I" o0) (F1 : Fld Z h0 a "java/util/ArrayList" "elementData" "[Ljava/lang/Object;" o1) (F2 : Fld Z h0 a "java/util/ArrayList" "size" "I" o2) :
    Ct l Z EL1 [a] [] (⟨"java/util/AbstractList", "<init>", "()V"⟩ : MethodName) jdk_39_method_1_code 1 none ({ frames := 2, cells := 0, slots := 0, locals := 24 } : Room) #[(.ref a)] h0 (fun v h => v = none ∧ Keep h0 h [a] ∧ Fld Z h a "java/util/AbstractList" "modCount" "I" (.int 0) ∧ Fld Z h a "java/util/ArrayList" "elementData" "[Ljava/lang/Object;" o1 ∧ Fld Z h a "java/util/ArrayList" "size" "I" o2) := by
  refine Ct.of_seg (a0 := a0) (plainFor_of_name pn_java_util_AbstractList) G.2.1 (ef_ct_abA a o0 o1 o2) ?_
  refine Seg.aloadN d3_0 rfl rfl (pc' := 1) rfl ?_
  refine Seg.callN (y' := (⟨"java/util/AbstractCollection", "<init>", "()V"⟩ : MethodName)) (a := a) rfl (wd G 20 rfl) (wd G 21 rfl) (wd G 25 rfl) ⟨by decide, by decide⟩ (Pays.of_ct (W := 0) (ct_ac G a h0) all0 (wd G 25 rfl) (wd G 24 rfl) (by decide) (by decide) rfl rfl) (argsL := []) (rest := []) rfl (lenOf pd_0 rfl) rfl (Nat.le_of_eq rfl) rfl d3_1 (pc' := 4) rfl (k' := 0) (n' := 0) rfl rfl (by decide) (by decide) ?_
  intro v_1 h_4 sz_2 q_3
  obtain ⟨rfl, rfl⟩ := q_3
  refine Seg.aloadN d3_4 rfl rfl (pc' := 5) rfl ?_
  refine Seg.iconst (v := 0) d3_5 (by decide) (pc' := 6) rfl ?_
  refine Seg.putF (host := "") (ty := .int) (v' := (.int (0 : Int32))) (wd G 29 rfl) Via.refl F0 A (Or.inl (wd G 30 rfl)) (wd G 9 rfl) (by decide) rfl rfl (List.mem_of_getElem? (i := 0) rfl) d3_6 (pc' := 9) rfl ?_
  intro h_7 W_5 F_6
  have F_8 := (F1.other W_5 (Or.inr (slot_ne (Or.inl (wd G 33 rfl)) (Or.inl (wd G 30 rfl)) (by decide) (t := (.array (.object "java/lang/Object"))) (t' := .int) (by decide) (by decide))))
  have F_9 := (F2.other W_5 (Or.inr (slot_ne (Or.inl (wd G 67 rfl)) (Or.inl (wd G 30 rfl)) (by decide) (t := .int) (t' := .int) (by decide) (by decide))))
  exact Seg.ret0 rfl d3_9 (by decide) (by decide) ⟨rfl, ((Keep.refl h0 [a]).wr W_5 (Or.inl (List.mem_of_getElem? (i := 0) rfl))), F_6, F_8, F_9⟩
theorem ef_ct_abE (a : Addr) (o0 : Value) (o1 : Value) (m : MethodId) : entryFrame m #[(.ref a)] 1 = mkF m 0 #[.val (.ref a)] [] := by first | (simp [entryFrame, mkF, argsToLocals, Value.category]; done) | rfl
set_option maxRecDepth 65536 in
set_option maxHeartbeats 4000000 in
theorem ct_abE {l : Launch} {Z : State} {a0 : Array Value} (G : Env1 Z a0) (a : Addr) (o0 : Value) (o1 : Value) (h0 : Heap) (A : Exa Z h0 a "com/example/reify/reify/EdnList") (F0 : Fld Z h0 a "java/util/AbstractList" "modCount" "I" o0) (F1 : Fld Z h0 a "com/example/reify/reify/EdnList" "elements" "Ljava/util/List;" o1) :
    Ct l Z EL1 [a] [] (⟨"java/util/AbstractList", "<init>", "()V"⟩ : MethodName) jdk_39_method_1_code 1 none ({ frames := 2, cells := 0, slots := 0, locals := 24 } : Room) #[(.ref a)] h0 (fun v h => v = none ∧ Keep h0 h [a] ∧ Fld Z h a "com/example/reify/reify/EdnList" "elements" "Ljava/util/List;" o1) := by
  refine Ct.of_seg (a0 := a0) (plainFor_of_name pn_java_util_AbstractList) G.2.1 (ef_ct_abE a o0 o1) ?_
  refine Seg.aloadN d3_0 rfl rfl (pc' := 1) rfl ?_
  refine Seg.callN (y' := (⟨"java/util/AbstractCollection", "<init>", "()V"⟩ : MethodName)) (a := a) rfl (wd G 20 rfl) (wd G 21 rfl) (wd G 25 rfl) ⟨by decide, by decide⟩ (Pays.of_ct (W := 0) (ct_ac G a h0) all0 (wd G 25 rfl) (wd G 24 rfl) (by decide) (by decide) rfl rfl) (argsL := []) (rest := []) rfl (lenOf pd_0 rfl) rfl (Nat.le_of_eq rfl) rfl d3_1 (pc' := 4) rfl (k' := 0) (n' := 0) rfl rfl (by decide) (by decide) ?_
  intro v_1 h_4 sz_2 q_3
  obtain ⟨rfl, rfl⟩ := q_3
  refine Seg.aloadN d3_4 rfl rfl (pc' := 5) rfl ?_
  refine Seg.iconst (v := 0) d3_5 (by decide) (pc' := 6) rfl ?_
  refine Seg.putF (host := "") (ty := .int) (v' := (.int (0 : Int32))) (wd G 29 rfl) Via.refl F0 A (Or.inl (wd G 98 rfl)) (wd G 39 rfl) (by decide) rfl rfl (List.mem_of_getElem? (i := 0) rfl) d3_6 (pc' := 9) rfl ?_
  intro h_7 W_5 F_6
  have F_8 := (F1.other W_5 (Or.inr (slot_ne (Or.inr (wd G 100 rfl)) (Or.inl (wd G 98 rfl)) (by decide) (t := (.object "java/util/List")) (t' := .int) (by decide) (by decide))))
  exact Seg.ret0 rfl d3_9 (by decide) (by decide) ⟨rfl, ((Keep.refl h0 [a]).wr W_5 (Or.inl (List.mem_of_getElem? (i := 0) rfl))), F_8⟩
theorem d2_0 : decode jdk_38_method_2_code 0 = .ok (.aload_n 0, 1) := by decide +kernel
theorem d2_1 : decode jdk_38_method_2_code 1 = .ok (.invokespecial 1, 3) := by decide +kernel
theorem d2_4 : decode jdk_38_method_2_code 4 = .ok (.aload_n 0, 1) := by decide +kernel
theorem d2_5 : decode jdk_38_method_2_code 5 = .ok (.getstatic 39, 3) := by decide +kernel
theorem d2_8 : decode jdk_38_method_2_code 8 = .ok (.putfield 9, 3) := by decide +kernel
theorem d2_11 : decode jdk_38_method_2_code 11 = .ok (.return_, 1) := by decide +kernel
theorem pn_java_util_ArrayList : plainName "java/util/ArrayList" = true := by first | (simp [plainName, overriddenIn]; done) | decide +kernel
theorem ef_ct_al (d0 : Addr) (kd : ClassId) (e0 : Addr) (mo : Addr) (ma : Addr) (a : Addr) (o0 : Value) (o1 : Value) (o2 : Value) (m : MethodId) : entryFrame m #[(.ref a)] 1 = mkF m 0 #[.val (.ref a)] [] := by first | (simp [entryFrame, mkF, argsToLocals, Value.category]; done) | rfl
set_option maxRecDepth 65536 in
set_option maxHeartbeats 4000000 in
theorem ct_al {l : Launch} {Z : State} {a0 : Array Value} (G : Env1 Z a0) (d0 : Addr) (kd : ClassId) (e0 : Addr) (mo : Addr) (ma : Addr) (a : Addr) (o0 : Value) (o1 : Value) (o2 : Value) (h0 : Heap) (N : Pins Z d0 kd e0 mo ma) (A : Exa Z h0 a "java/util/ArrayList") (F0 : Fld Z h0 a "java/util/AbstractList" "modCount" "I" o0) (F1 : Fld Z h0 a "java/util/ArrayList" "elementData" "[Ljava/lang/Object;" o1) (F2 : Fld Z h0 a "java/util/ArrayList" "size" "I" o2) :
    Ct l Z EL1 [a] [] (⟨"java/util/ArrayList", "<init>", "()V"⟩ : MethodName) jdk_38_method_2_code 1 none ({ frames := 3, cells := 0, slots := 0, locals := 36 } : Room) #[(.ref a)] h0 (fun v h => v = none ∧ Keep h0 h [a] ∧ Fld Z h a "java/util/AbstractList" "modCount" "I" (.int 0) ∧ Fld Z h a "java/util/ArrayList" "elementData" "[Ljava/lang/Object;" (.ref d0) ∧ Fld Z h a "java/util/ArrayList" "size" "I" o2) := by
  refine Ct.of_seg (a0 := a0) (plainFor_of_name pn_java_util_ArrayList) G.2.1 (ef_ct_al d0 kd e0 mo ma a o0 o1 o2) ?_
  refine Seg.aloadN d2_0 rfl rfl (pc' := 1) rfl ?_
  refine Seg.callN (y' := (⟨"java/util/AbstractList", "<init>", "()V"⟩ : MethodName)) (a := a) rfl (wd G 14 rfl) (wd G 15 rfl) (wd G 19 rfl) ⟨by decide, by decide⟩ (Pays.of_ct (W := 0) (ct_abA G a o0 o1 o2 h0 A F0 F1 F2) (allS (List.mem_of_getElem? (i := 0) rfl) all0) (wd G 19 rfl) (wd G 18 rfl) (by decide) (by decide) rfl rfl) (argsL := []) (rest := []) rfl (lenOf pd_0 rfl) rfl (Nat.le_of_eq rfl) rfl d2_1 (pc' := 4) rfl (k' := 0) (n' := 0) rfl rfl (by decide) (by decide) ?_
  intro v_1 h_4 sz_2 q_3
  obtain ⟨rfl, K1, G0, G1, G2⟩ := q_3
  refine Seg.aloadN d2_4 rfl rfl (pc' := 5) rfl ?_
  refine Seg.getS (wd G 31 rfl) Via.refl N.1 d2_5 (pc' := 8) rfl ?_
  have F_5 := (A.keep K1)
  refine Seg.putF (host := "") (ty := (.array (.object "java/lang/Object"))) (v' := (.ref d0)) (wd G 32 rfl) Via.refl G1 F_5 (Or.inl (wd G 33 rfl)) (wd G 9 rfl) (by decide) rfl rfl (List.mem_of_getElem? (i := 0) rfl) d2_8 (pc' := 11) rfl ?_
  intro h_8 W_6 F_7
  have F_9 := (G0.other W_6 (Or.inr (slot_ne (Or.inl (wd G 30 rfl)) (Or.inl (wd G 33 rfl)) (by decide) (t := .int) (t' := (.array (.object "java/lang/Object"))) (by decide) (by decide))))
  have F_10 := (G2.other W_6 (Or.inr (slot_ne (Or.inl (wd G 67 rfl)) (Or.inl (wd G 33 rfl)) (by decide) (t := .int) (t' := (.array (.object "java/lang/Object"))) (by decide) (by decide))))
  exact Seg.ret0 rfl d2_11 (by decide) (by decide) ⟨rfl, (((Keep.refl h0 [a]).trans K1 (allS (Or.inl (List.mem_of_getElem? (i := 0) rfl)) all0)).wr W_6 (Or.inl (List.mem_of_getElem? (i := 0) rfl))), F_9, F_7, F_10⟩
theorem d18_0 : decode jdk_29_method_65_code 0 = .ok (.iload_n 0, 1) := by decide +kernel
theorem d18_1 : decode jdk_29_method_65_code 1 = .ok (.iload_n 1, 1) := by decide +kernel
theorem d18_2 : decode jdk_29_method_65_code 2 = .ok (.if_icmp .lt 7, 3) := by decide +kernel
theorem d18_5 : decode jdk_29_method_65_code 5 = .ok (.iload_n 0, 1) := by decide +kernel
theorem d18_6 : decode jdk_29_method_65_code 6 = .ok (.goto 4, 3) := by decide +kernel
theorem d18_10 : decode jdk_29_method_65_code 10 = .ok (.ireturn, 1) := by decide +kernel
theorem pf_java_lang_Math_max__II_I : plainFor (⟨"java/lang/Math", "max", "(II)I"⟩ : MethodName) = true := by decide +kernel
theorem ef_ct_max (m : MethodId) : entryFrame m #[(.int (10 : Int32)), (.int (1 : Int32))] 2 = mkF m 0 #[.val (.int (10 : Int32)), .val (.int (1 : Int32))] [] := by first | (simp [entryFrame, mkF, argsToLocals, Value.category]; done) | rfl
set_option maxRecDepth 65536 in
set_option maxHeartbeats 4000000 in
theorem ct_max {l : Launch} {Z : State} {a0 : Array Value} (G : Env1 Z a0) (h0 : Heap) :
    Ct l Z EL1 [] [] (⟨"java/lang/Math", "max", "(II)I"⟩ : MethodName) jdk_29_method_65_code 2 (some .int) ({ frames := 0, cells := 0, slots := 0, locals := 0 } : Room) #[(.int (10 : Int32)), (.int (1 : Int32))] h0 (fun v h => v = some (.int 10) ∧ h0 = h) := by
  refine Ct.of_seg (a0 := a0) pf_java_lang_Math_max__II_I G.2.1 (ef_ct_max ) ?_
  refine Seg.iloadN d18_0 rfl (pc' := 1) rfl ?_
  refine Seg.iloadN d18_1 rfl (pc' := 2) rfl ?_
  refine Seg.icN d18_2 (by decide) (pc' := 5) rfl ?_
  refine Seg.iloadN d18_5 rfl (pc' := 6) rfl ?_
  refine Seg.goto (pc' := 10) d18_6 (by decide) (by decide) ?_
  exact Seg.retI rfl d18_10 (by decide) (by decide) ⟨rfl, rfl⟩
theorem d12_0 : decode jdk_29_method_69_code 0 = .ok (.iload_n 0, 1) := by decide +kernel
theorem d12_1 : decode jdk_29_method_69_code 1 = .ok (.iload_n 1, 1) := by decide +kernel
theorem d12_2 : decode jdk_29_method_69_code 2 = .ok (.if_icmp .gt 7, 3) := by decide +kernel
theorem d12_5 : decode jdk_29_method_69_code 5 = .ok (.iload_n 0, 1) := by decide +kernel
theorem d12_6 : decode jdk_29_method_69_code 6 = .ok (.goto 4, 3) := by decide +kernel
theorem d12_10 : decode jdk_29_method_69_code 10 = .ok (.ireturn, 1) := by decide +kernel
theorem pf_java_lang_Math_min__II_I : plainFor (⟨"java/lang/Math", "min", "(II)I"⟩ : MethodName) = true := by decide +kernel
theorem ef_ct_min0 (m : MethodId) : entryFrame m #[(.int (0 : Int32)), (.int (0 : Int32))] 2 = mkF m 0 #[.val (.int (0 : Int32)), .val (.int (0 : Int32))] [] := by first | (simp [entryFrame, mkF, argsToLocals, Value.category]; done) | rfl
set_option maxRecDepth 65536 in
set_option maxHeartbeats 4000000 in
theorem ct_min0 {l : Launch} {Z : State} {a0 : Array Value} (G : Env1 Z a0) (h0 : Heap) :
    Ct l Z EL1 [] [] (⟨"java/lang/Math", "min", "(II)I"⟩ : MethodName) jdk_29_method_69_code 2 (some .int) ({ frames := 0, cells := 0, slots := 0, locals := 0 } : Room) #[(.int (0 : Int32)), (.int (0 : Int32))] h0 (fun v h => v = some (.int 0) ∧ h0 = h) := by
  refine Ct.of_seg (a0 := a0) pf_java_lang_Math_min__II_I G.2.1 (ef_ct_min0 ) ?_
  refine Seg.iloadN d12_0 rfl (pc' := 1) rfl ?_
  refine Seg.iloadN d12_1 rfl (pc' := 2) rfl ?_
  refine Seg.icN d12_2 (by decide) (pc' := 5) rfl ?_
  refine Seg.iloadN d12_5 rfl (pc' := 6) rfl ?_
  refine Seg.goto (pc' := 10) d12_6 (by decide) (by decide) ?_
  exact Seg.retI rfl d12_10 (by decide) (by decide) ⟨rfl, rfl⟩
theorem d12_9 : decode jdk_29_method_69_code 9 = .ok (.iload_n 1, 1) := by decide +kernel
theorem ef_ct_min1 (m : MethodId) : entryFrame m #[(.int (10 : Int32)), (.int (1 : Int32))] 2 = mkF m 0 #[.val (.int (10 : Int32)), .val (.int (1 : Int32))] [] := by first | (simp [entryFrame, mkF, argsToLocals, Value.category]; done) | rfl
set_option maxRecDepth 65536 in
set_option maxHeartbeats 4000000 in
theorem ct_min1 {l : Launch} {Z : State} {a0 : Array Value} (G : Env1 Z a0) (h0 : Heap) :
    Ct l Z EL1 [] [] (⟨"java/lang/Math", "min", "(II)I"⟩ : MethodName) jdk_29_method_69_code 2 (some .int) ({ frames := 0, cells := 0, slots := 0, locals := 0 } : Room) #[(.int (10 : Int32)), (.int (1 : Int32))] h0 (fun v h => v = some (.int 1) ∧ h0 = h) := by
  refine Ct.of_seg (a0 := a0) pf_java_lang_Math_min__II_I G.2.1 (ef_ct_min1 ) ?_
  refine Seg.iloadN d12_0 rfl (pc' := 1) rfl ?_
  refine Seg.iloadN d12_1 rfl (pc' := 2) rfl ?_
  refine Seg.icY (pc' := 9) d12_2 (by decide) (by decide) (by decide) ?_
  refine Seg.iloadN d12_9 rfl (pc' := 10) rfl ?_
  exact Seg.retI rfl d12_10 (by decide) (by decide) ⟨rfl, rfl⟩
theorem ef_ct_min2 (m : MethodId) : entryFrame m #[(.int (10 : Int32)), (.int (2 : Int32))] 2 = mkF m 0 #[.val (.int (10 : Int32)), .val (.int (2 : Int32))] [] := by first | (simp [entryFrame, mkF, argsToLocals, Value.category]; done) | rfl
set_option maxRecDepth 65536 in
set_option maxHeartbeats 4000000 in
theorem ct_min2 {l : Launch} {Z : State} {a0 : Array Value} (G : Env1 Z a0) (h0 : Heap) :
    Ct l Z EL1 [] [] (⟨"java/lang/Math", "min", "(II)I"⟩ : MethodName) jdk_29_method_69_code 2 (some .int) ({ frames := 0, cells := 0, slots := 0, locals := 0 } : Room) #[(.int (10 : Int32)), (.int (2 : Int32))] h0 (fun v h => v = some (.int 2) ∧ h0 = h) := by
  refine Ct.of_seg (a0 := a0) pf_java_lang_Math_min__II_I G.2.1 (ef_ct_min2 ) ?_
  refine Seg.iloadN d12_0 rfl (pc' := 1) rfl ?_
  refine Seg.iloadN d12_1 rfl (pc' := 2) rfl ?_
  refine Seg.icY (pc' := 9) d12_2 (by decide) (by decide) (by decide) ?_
  refine Seg.iloadN d12_9 rfl (pc' := 10) rfl ?_
  exact Seg.retI rfl d12_10 (by decide) (by decide) ⟨rfl, rfl⟩
theorem ef_ct_min3 (m : MethodId) : entryFrame m #[(.int (10 : Int32)), (.int (3 : Int32))] 2 = mkF m 0 #[.val (.int (10 : Int32)), .val (.int (3 : Int32))] [] := by first | (simp [entryFrame, mkF, argsToLocals, Value.category]; done) | rfl
set_option maxRecDepth 65536 in
set_option maxHeartbeats 4000000 in
theorem ct_min3 {l : Launch} {Z : State} {a0 : Array Value} (G : Env1 Z a0) (h0 : Heap) :
    Ct l Z EL1 [] [] (⟨"java/lang/Math", "min", "(II)I"⟩ : MethodName) jdk_29_method_69_code 2 (some .int) ({ frames := 0, cells := 0, slots := 0, locals := 0 } : Room) #[(.int (10 : Int32)), (.int (3 : Int32))] h0 (fun v h => v = some (.int 3) ∧ h0 = h) := by
  refine Ct.of_seg (a0 := a0) pf_java_lang_Math_min__II_I G.2.1 (ef_ct_min3 ) ?_
  refine Seg.iloadN d12_0 rfl (pc' := 1) rfl ?_
  refine Seg.iloadN d12_1 rfl (pc' := 2) rfl ?_
  refine Seg.icY (pc' := 9) d12_2 (by decide) (by decide) (by decide) ?_
  refine Seg.iloadN d12_9 rfl (pc' := 10) rfl ?_
  exact Seg.retI rfl d12_10 (by decide) (by decide) ⟨rfl, rfl⟩
theorem d17_0 : decode jdk_38_method_6_code 0 = .ok (.aload_n 0, 1) := by decide +kernel
theorem d17_1 : decode jdk_38_method_6_code 1 = .ok (.getfield 9, 3) := by decide +kernel
theorem d17_4 : decode jdk_38_method_6_code 4 = .ok (.arraylength, 1) := by decide +kernel
theorem d17_5 : decode jdk_38_method_6_code 5 = .ok (.istore_n 2, 1) := by decide +kernel
theorem d17_6 : decode jdk_38_method_6_code 6 = .ok (.iload_n 2, 1) := by decide +kernel
theorem d17_7 : decode jdk_38_method_6_code 7 = .ok (.ifCond .gt 13, 3) := by decide +kernel
theorem d17_10 : decode jdk_38_method_6_code 10 = .ok (.aload_n 0, 1) := by decide +kernel
theorem d17_11 : decode jdk_38_method_6_code 11 = .ok (.getfield 9, 3) := by decide +kernel
theorem d17_14 : decode jdk_38_method_6_code 14 = .ok (.getstatic 39, 3) := by decide +kernel
theorem d17_17 : decode jdk_38_method_6_code 17 = .ok (.if_acmp .eq 28, 3) := by decide +kernel
theorem d17_45 : decode jdk_38_method_6_code 45 = .ok (.aload_n 0, 1) := by decide +kernel
theorem d17_46 : decode jdk_38_method_6_code 46 = .ok (.bipush 10, 2) := by decide +kernel
theorem d17_48 : decode jdk_38_method_6_code 48 = .ok (.iload_n 1, 1) := by decide +kernel
theorem d17_49 : decode jdk_38_method_6_code 49 = .ok (.invokestatic 79, 3) := by decide +kernel
theorem pd_2 : parseMethodDescriptor "(II)I" = some ⟨[.int, .int], some .int⟩ := by decide +kernel
theorem d17_52 : decode jdk_38_method_6_code 52 = .ok (.anewarray 7, 3) := by decide +kernel
theorem d17_55 : decode jdk_38_method_6_code 55 = .ok (.dup_x1, 1) := by decide +kernel
theorem d17_56 : decode jdk_38_method_6_code 56 = .ok (.putfield 9, 3) := by decide +kernel
theorem d17_59 : decode jdk_38_method_6_code 59 = .ok (.areturn, 1) := by decide +kernel
theorem ef_ct_grow1 (d0 : Addr) (kd : ClassId) (e0 : Addr) (mo : Addr) (ma : Addr) (a : Addr) (mm : Int32) (m : MethodId) : entryFrame m #[(.ref a), (.int (1 : Int32))] 4 = mkF m 0 #[.val (.ref a), .val (.int (1 : Int32)), .unset, .unset] [] := by first | (simp [entryFrame, mkF, argsToLocals, Value.category]; done) | rfl
set_option maxRecDepth 65536 in
set_option maxHeartbeats 4000000 in
theorem ct_grow1 {l : Launch} {Z : State} {a0 : Array Value} (G : Env1 Z a0) (d0 : Addr) (kd : ClassId) (e0 : Addr) (mo : Addr) (ma : Addr) (a : Addr) (mm : Int32) (h0 : Heap) (N : Pins Z d0 kd e0 mo ma) (A : Exa Z h0 a "java/util/ArrayList") (F0 : Fld Z h0 a "java/util/AbstractList" "modCount" "I" (.int mm)) (F1 : Fld Z h0 a "java/util/ArrayList" "elementData" "[Ljava/lang/Object;" (.ref d0)) (F2 : Fld Z h0 a "java/util/ArrayList" "size" "I" (.int 0)) :
    Ct l Z EL1 [a] [] (⟨"java/util/ArrayList", "grow", "(I)[Ljava/lang/Object;"⟩ : MethodName) jdk_38_method_6_code 4 (some (.array (.object "java/lang/Object"))) ({ frames := 1, cells := 1, slots := 10, locals := 14 } : Room) #[(.ref a), (.int (1 : Int32))] h0 (fun v h => ∃ (r : Addr) (kr : ClassId), v = some (.ref r) ∧ Keep h0 h [a] ∧ h0.size ≤ r ∧ Arv Z h r kr (.object "java/lang/Object") 10 [.null, .null, .null, .null, .null, .null, .null, .null, .null, .null] .null ∧ Exa Z h r "[Ljava/lang/Object;" ∧ Ovr Z kr "java/lang/Object" ∧ Fld Z h a "java/util/AbstractList" "modCount" "I" (.int mm) ∧ Fld Z h a "java/util/ArrayList" "elementData" "[Ljava/lang/Object;" (.ref r) ∧ Fld Z h a "java/util/ArrayList" "size" "I" (.int 0)) := by
  refine Ct.of_seg (a0 := a0) (plainFor_of_name pn_java_util_ArrayList) G.2.1 (ef_ct_grow1 d0 kd e0 mo ma a mm) ?_
  refine Seg.start fun hZ0 => ?_
  have Ad := N.2.1.ext hZ0
  have Xd := N.2.2.1.ext hZ0
  refine Seg.aloadN d17_0 rfl rfl (pc' := 1) rfl ?_
  refine Seg.getF (host := "") (Or.inl (wd G 32 rfl)) Via.refl F1 d17_1 (pc' := 4) rfl ?_
  refine Seg.alen Ad d17_4 (pc' := 5) rfl ?_
  refine Seg.istoreN (L' := #[.val (.ref a), .val (.int (1 : Int32)), .val (.int (0 : Int32)), .unset]) d17_5 rfl (pc' := 6) rfl ?_
  refine Seg.iloadN d17_6 rfl (pc' := 7) rfl ?_
  refine Seg.ifN d17_7 (by decide) (pc' := 10) rfl ?_
  refine Seg.aloadN d17_10 rfl rfl (pc' := 11) rfl ?_
  refine Seg.getF (host := "") (Or.inl (wd G 32 rfl)) Via.refl F1 d17_11 (pc' := 14) rfl ?_
  refine Seg.getS (wd G 31 rfl) Via.refl N.1 d17_14 (pc' := 17) rfl ?_
  refine Seg.acY (pc' := 45) d17_17 rfl rfl (XT.aa_eq_t rfl) (by decide) (by decide) ?_
  refine Seg.aloadN d17_45 rfl rfl (pc' := 46) rfl ?_
  refine Seg.bipush (v := 10) d17_46 (by decide) (pc' := 48) rfl ?_
  refine Seg.iloadN d17_48 rfl (pc' := 49) rfl ?_
  refine Seg.callS (y' := (⟨"java/lang/Math", "max", "(II)I"⟩ : MethodName)) (wd G 123 rfl) (wd G 124 rfl) (wd G 86 rfl) (wd G 125 rfl) ⟨by decide, by decide⟩ (Pays.of_ct (W := 1) (ct_max G  h0) all0 (wd G 125 rfl) (wd G 86 rfl) (by decide) (by decide) rfl rfl) (argsL := [(.int (10 : Int32)), (.int (1 : Int32))]) (rest := [(.ref a)]) rfl (lenOf pd_2 rfl) rfl (Nat.le_of_eq rfl) rfl d17_49 (pc' := 52) rfl (k' := 0) (n' := 0) rfl rfl (by decide) (by decide) ?_
  intro v_1 h_4 sz_2 q_3
  obtain ⟨rfl, rfl⟩ := q_3
  refine Seg.newR (ad := "[Ljava/lang/Object;") (wd G 126 rfl) (wd G 83 rfl) (by decide) d17_52 (pc' := 55) rfl (by decide) (cap := 10) (by decide) (by decide) (k' := 1) (n' := 10) rfl rfl (by decide) (by decide) ?_
  intro b_5 h_7 k_b_5 E_6 e_b_5 l_b_5 A_b_5 X_b_5 O_b_5
  replace A_b_5 : Arv Z h_7 b_5 k_b_5 (.object "java/lang/Object") (10 : Int32) [Value.null, Value.null, Value.null, Value.null, Value.null, Value.null, Value.null, Value.null, Value.null, Value.null] .null := A_b_5.pad (pad_rep [] .null 10)
  refine Seg.dupX1 d17_55 rfl rfl (pc' := 56) rfl ?_
  have F_8 := F1.ext E_6
  have F_9 := A.ext E_6
  refine Seg.putF (host := "") (ty := (.array (.object "java/lang/Object"))) (v' := (.ref b_5)) (wd G 32 rfl) Via.refl F_8 F_9 (Or.inl (wd G 33 rfl)) (wd G 9 rfl) (by decide) rfl rfl (List.mem_of_getElem? (i := 1) rfl) d17_56 (pc' := 59) rfl ?_
  intro h_12 W_10 F_11
  have nxa : b_5 ≠ a := Nat.ne_of_gt (Nat.lt_of_lt_of_le A.lt (Nat.le_trans (ext_rfl _).1 (Nat.le_of_eq e_b_5)))
  have F_13 := (A_b_5.keep (Keep.of_wr W_10) (ninS nxa nin0))
  have F_14 := (X_b_5.wr W_10)
  have F_15 := ((F0.ext E_6).other W_10 (Or.inr (slot_ne (Or.inl (wd G 30 rfl)) (Or.inl (wd G 33 rfl)) (by decide) (t := .int) (t' := (.array (.object "java/lang/Object"))) (by decide) (by decide))))
  have F_16 := ((F2.ext E_6).other W_10 (Or.inr (slot_ne (Or.inl (wd G 67 rfl)) (Or.inl (wd G 33 rfl)) (by decide) (t := .int) (t' := (.array (.object "java/lang/Object"))) (by decide) (by decide))))
  exact Seg.retA rfl rfl rfl d17_59 (by decide) (by decide) ⟨b_5, k_b_5, rfl, (((Keep.refl h0 [a]).ext E_6).wr W_10 (Or.inl (List.mem_of_getElem? (i := 0) rfl))), (Nat.le_trans (ext_rfl _).1 (Nat.le_of_eq e_b_5)), F_13, F_14, O_b_5, F_15, F_11, F_16⟩
theorem d16_0 : decode jdk_38_method_7_code 0 = .ok (.aload_n 0, 1) := by decide +kernel
theorem d16_1 : decode jdk_38_method_7_code 1 = .ok (.aload_n 0, 1) := by decide +kernel
theorem d16_2 : decode jdk_38_method_7_code 2 = .ok (.getfield 48, 3) := by decide +kernel
theorem d16_5 : decode jdk_38_method_7_code 5 = .ok (.iconst 1, 1) := by decide +kernel
theorem d16_6 : decode jdk_38_method_7_code 6 = .ok (.iadd, 1) := by decide +kernel
theorem d16_7 : decode jdk_38_method_7_code 7 = .ok (.invokevirtual 69, 3) := by decide +kernel
theorem pd_3 : parseMethodDescriptor "(I)[Ljava/lang/Object;" = some ⟨[.int], some (.array (.object "java/lang/Object"))⟩ := by decide +kernel
theorem d16_10 : decode jdk_38_method_7_code 10 = .ok (.areturn, 1) := by decide +kernel
theorem ef_ct_grow0 (d0 : Addr) (kd : ClassId) (e0 : Addr) (mo : Addr) (ma : Addr) (a : Addr) (mm : Int32) (m : MethodId) : entryFrame m #[(.ref a)] 1 = mkF m 0 #[.val (.ref a)] [] := by first | (simp [entryFrame, mkF, argsToLocals, Value.category]; done) | rfl
set_option maxRecDepth 65536 in
set_option maxHeartbeats 4000000 in
theorem ct_grow0 {l : Launch} {Z : State} {a0 : Array Value} (G : Env1 Z a0) (d0 : Addr) (kd : ClassId) (e0 : Addr) (mo : Addr) (ma : Addr) (a : Addr) (mm : Int32) (h0 : Heap) (N : Pins Z d0 kd e0 mo ma) (A : Exa Z h0 a "java/util/ArrayList") (F0 : Fld Z h0 a "java/util/AbstractList" "modCount" "I" (.int mm)) (F1 : Fld Z h0 a "java/util/ArrayList" "elementData" "[Ljava/lang/Object;" (.ref d0)) (F2 : Fld Z h0 a "java/util/ArrayList" "size" "I" (.int 0)) :
    Ct l Z EL1 [a] [] (⟨"java/util/ArrayList", "grow", "()[Ljava/lang/Object;"⟩ : MethodName) jdk_38_method_7_code 1 (some (.array (.object "java/lang/Object"))) ({ frames := 2, cells := 1, slots := 10, locals := 29 } : Room) #[(.ref a)] h0 (fun v h => ∃ (r : Addr) (kr : ClassId), v = some (.ref r) ∧ Keep h0 h [a] ∧ h0.size ≤ r ∧ Arv Z h r kr (.object "java/lang/Object") 10 [.null, .null, .null, .null, .null, .null, .null, .null, .null, .null] .null ∧ Exa Z h r "[Ljava/lang/Object;" ∧ Ovr Z kr "java/lang/Object" ∧ Fld Z h a "java/util/AbstractList" "modCount" "I" (.int mm) ∧ Fld Z h a "java/util/ArrayList" "elementData" "[Ljava/lang/Object;" (.ref r) ∧ Fld Z h a "java/util/ArrayList" "size" "I" (.int 0)) := by
  refine Ct.of_seg (a0 := a0) (plainFor_of_name pn_java_util_ArrayList) G.2.1 (ef_ct_grow0 d0 kd e0 mo ma a mm) ?_
  refine Seg.aloadN d16_0 rfl rfl (pc' := 1) rfl ?_
  refine Seg.aloadN d16_1 rfl rfl (pc' := 2) rfl ?_
  refine Seg.getF (host := "") (Or.inl (wd G 66 rfl)) Via.refl F2 d16_2 (pc' := 5) rfl ?_
  refine Seg.iconst (v := 1) d16_5 (by decide) (pc' := 6) rfl ?_
  refine Seg.iadd (v := (1 : Int32)) d16_6 (by decide) (pc' := 7) rfl ?_
  refine Seg.callPr (y' := (⟨"java/util/ArrayList", "grow", "(I)[Ljava/lang/Object;"⟩ : MethodName)) (a := a) (wd G 118 rfl) (wd G 119 rfl) (wd G 121 rfl) (wd G 120 rfl) (wd G 122 rfl) ⟨by decide, by decide⟩ A (Pays.of_ct (W := 0) (ct_grow1 G d0 kd e0 mo ma a mm h0 N A F0 F1 F2) (allS (List.mem_of_getElem? (i := 0) rfl) all0) (wd G 122 rfl) (wd G 10 rfl) (by decide) (by decide) rfl rfl) (argsL := [(.int (1 : Int32))]) (rest := []) rfl (lenOf pd_3 rfl) rfl (Nat.le_of_eq rfl) rfl d16_7 (pc' := 10) rfl (k' := 1) (n' := 10) rfl rfl (by decide) (by decide) ?_
  intro v_1 h_4 sz_2 q_3
  obtain ⟨r, kr, rfl, K1, g1, A1, X1, O1, G0, G1, G2⟩ := q_3
  exact Seg.retA rfl rfl rfl d16_10 (by decide) (by decide) ⟨r, kr, rfl, K1, g1, A1, X1, O1, G0, G1, G2⟩
theorem d15_0 : decode jdk_38_method_24_code 0 = .ok (.iload_n 3, 1) := by decide +kernel
theorem d15_1 : decode jdk_38_method_24_code 1 = .ok (.aload_n 2, 1) := by decide +kernel
theorem d15_2 : decode jdk_38_method_24_code 2 = .ok (.arraylength, 1) := by decide +kernel
theorem d15_3 : decode jdk_38_method_24_code 3 = .ok (.if_icmp .ne 8, 3) := by decide +kernel
theorem d15_6 : decode jdk_38_method_24_code 6 = .ok (.aload_n 0, 1) := by decide +kernel
theorem d15_7 : decode jdk_38_method_24_code 7 = .ok (.invokevirtual 129, 3) := by decide +kernel
theorem pd_4 : parseMethodDescriptor "()[Ljava/lang/Object;" = some ⟨[], some (.array (.object "java/lang/Object"))⟩ := by decide +kernel
theorem d15_10 : decode jdk_38_method_24_code 10 = .ok (.astore_n 2, 1) := by decide +kernel
theorem d15_11 : decode jdk_38_method_24_code 11 = .ok (.aload_n 2, 1) := by decide +kernel
theorem d15_12 : decode jdk_38_method_24_code 12 = .ok (.iload_n 3, 1) := by decide +kernel
theorem d15_13 : decode jdk_38_method_24_code 13 = .ok (.aload_n 1, 1) := by decide +kernel
theorem d15_14 : decode jdk_38_method_24_code 14 = .ok (.aastore, 1) := by decide +kernel
theorem d15_15 : decode jdk_38_method_24_code 15 = .ok (.aload_n 0, 1) := by decide +kernel
theorem d15_16 : decode jdk_38_method_24_code 16 = .ok (.iload_n 3, 1) := by decide +kernel
theorem d15_17 : decode jdk_38_method_24_code 17 = .ok (.iconst 1, 1) := by decide +kernel
theorem d15_18 : decode jdk_38_method_24_code 18 = .ok (.iadd, 1) := by decide +kernel
theorem d15_19 : decode jdk_38_method_24_code 19 = .ok (.putfield 48, 3) := by decide +kernel
theorem d15_22 : decode jdk_38_method_24_code 22 = .ok (.return_, 1) := by decide +kernel
theorem ef_ct_add3G (d0 : Addr) (kd : ClassId) (e0 : Addr) (mo : Addr) (ma : Addr) (a : Addr) (mm : Int32) (vv : Value) (hvr : (vv).isRef = true) (m : MethodId) : entryFrame m #[(.ref a), vv, (.ref d0), (.int (0 : Int32))] 4 = mkF m 0 #[.val (.ref a), .val vv, .val (.ref d0), .val (.int (0 : Int32))] [] := by
  rcases ref_cases hvr with rfl | ⟨_, rfl⟩ <;> rfl
set_option maxRecDepth 65536 in
set_option maxHeartbeats 4000000 in
theorem ct_add3G {l : Launch} {Z : State} {a0 : Array Value} (G : Env1 Z a0) (d0 : Addr) (kd : ClassId) (e0 : Addr) (mo : Addr) (ma : Addr) (a : Addr) (mm : Int32) (vv : Value) (h0 : Heap) (N : Pins Z d0 kd e0 mo ma) (A : Exa Z h0 a "java/util/ArrayList") (F0 : Fld Z h0 a "java/util/AbstractList" "modCount" "I" (.int mm)) (F1 : Fld Z h0 a "java/util/ArrayList" "elementData" "[Ljava/lang/Object;" (.ref d0)) (F2 : Fld Z h0 a "java/util/ArrayList" "size" "I" (.int 0)) (hv : IoN Z h0 vv) (hvr : vv.isRef = true) :
    Ct l Z EL1 [a] [] (⟨"java/util/ArrayList", "add", "(Ljava/lang/Object;[Ljava/lang/Object;I)V"⟩ : MethodName) jdk_38_method_24_code 4 none ({ frames := 3, cells := 1, slots := 10, locals := 41 } : Room) #[(.ref a), vv, (.ref d0), (.int (0 : Int32))] h0 (fun v h => v = none ∧ ∃ (r : Addr) (kr : ClassId), Keep h0 h [a] ∧ h0.size ≤ r ∧ Arv Z h r kr (.object "java/lang/Object") 10 [vv, .null, .null, .null, .null, .null, .null, .null, .null, .null] .null ∧ Exa Z h r "[Ljava/lang/Object;" ∧ Ovr Z kr "java/lang/Object" ∧ Fld Z h a "java/util/AbstractList" "modCount" "I" (.int mm) ∧ Fld Z h a "java/util/ArrayList" "elementData" "[Ljava/lang/Object;" (.ref r) ∧ Fld Z h a "java/util/ArrayList" "size" "I" (.int 1)) := by
  refine Ct.of_seg (a0 := a0) (plainFor_of_name pn_java_util_ArrayList) G.2.1 (ef_ct_add3G d0 kd e0 mo ma a mm vv hvr) ?_
  refine Seg.start fun hZ0 => ?_
  have Ad := N.2.1.ext hZ0
  have Xd := N.2.2.1.ext hZ0
  refine Seg.iloadN d15_0 rfl (pc' := 1) rfl ?_
  refine Seg.aloadN d15_1 rfl rfl (pc' := 2) rfl ?_
  refine Seg.alen Ad d15_2 (pc' := 3) rfl ?_
  refine Seg.icN d15_3 (by decide) (pc' := 6) rfl ?_
  refine Seg.aloadN d15_6 rfl rfl (pc' := 7) rfl ?_
  refine Seg.callPr (y' := (⟨"java/util/ArrayList", "grow", "()[Ljava/lang/Object;"⟩ : MethodName)) (a := a) (wd G 113 rfl) (wd G 114 rfl) (wd G 116 rfl) (wd G 115 rfl) (wd G 117 rfl) ⟨by decide, by decide⟩ A (Pays.of_ct (W := 0) (ct_grow0 G d0 kd e0 mo ma a mm h0 N A F0 F1 F2) (allS (List.mem_of_getElem? (i := 0) rfl) all0) (wd G 117 rfl) (wd G 10 rfl) (by decide) (by decide) rfl rfl) (argsL := []) (rest := []) rfl (lenOf pd_4 rfl) rfl (Nat.le_of_eq rfl) rfl d15_7 (pc' := 10) rfl (k' := 1) (n' := 10) rfl rfl (by decide) (by decide) ?_
  intro v_1 h_4 sz_2 q_3
  obtain ⟨r, kr, rfl, K1, g1, A1, X1, O1, G0, G1, G2⟩ := q_3
  have l_r := A1.lt
  refine Seg.adopt A1 (fun _ => Nat.le_trans hZ0.1 g1) (fun p hp => (noEL p hp).elim) ?_
  have nra : r ≠ a := Nat.ne_of_gt (Nat.lt_of_lt_of_le A.lt g1)
  refine Seg.astoreN (L' := #[.val (.ref a), .val vv, .val (.ref r), .val (.int (0 : Int32))]) d15_10 rfl rfl (pc' := 11) rfl ?_
  refine Seg.aloadN d15_11 rfl rfl (pc' := 12) rfl ?_
  refine Seg.iloadN d15_12 rfl (pc' := 13) rfl ?_
  refine Seg.aloadN d15_13 rfl hvr (pc' := 14) rfl ?_
  have F_5 := (hv.keep K1)
  refine Seg.aastore (i := 0) rfl A1 ⟨by decide, by decide⟩ rfl (Nat.le_of_ble_eq_true rfl) (F_5.sto A1 O1 (wd G 127 rfl)) F_5.fits (List.mem_of_getElem? (i := 0) rfl) d15_14 (pc' := 15) rfl ?_
  intro h_8 W_6 A_7
  replace A_7 : Arv Z h_8 r kr (.object "java/lang/Object") (10 : Int32) [vv, Value.null, Value.null, Value.null, Value.null, Value.null, Value.null, Value.null, Value.null, Value.null] (.null) := A_7
  refine Seg.aloadN d15_15 rfl rfl (pc' := 16) rfl ?_
  refine Seg.iloadN d15_16 rfl (pc' := 17) rfl ?_
  refine Seg.iconst (v := 1) d15_17 (by decide) (pc' := 18) rfl ?_
  refine Seg.iadd (v := (1 : Int32)) d15_18 (by decide) (pc' := 19) rfl ?_
  have F_9 := (G2.keep (Keep.of_wr W_6) (ninS nra.symm nin0))
  have F_10 := ((A.keep K1).wr W_6)
  refine Seg.putF (host := "") (ty := .int) (v' := (.int (1 : Int32))) (wd G 66 rfl) Via.refl F_9 F_10 (Or.inl (wd G 67 rfl)) (wd G 9 rfl) (by decide) rfl rfl (List.mem_of_getElem? (i := 1) rfl) d15_19 (pc' := 22) rfl ?_
  intro h_13 W_11 F_12
  have F_14 := (A_7.keep (Keep.of_wr W_11) (ninS nra nin0))
  have F_15 := ((X1.wr W_6).wr W_11)
  have F_16 := ((G0.keep (Keep.of_wr W_6) (ninS nra.symm nin0)).other W_11 (Or.inr (slot_ne (Or.inl (wd G 30 rfl)) (Or.inl (wd G 67 rfl)) (by decide) (t := .int) (t' := .int) (by decide) (by decide))))
  have F_17 := ((G1.keep (Keep.of_wr W_6) (ninS nra.symm nin0)).other W_11 (Or.inr (slot_ne (Or.inl (wd G 33 rfl)) (Or.inl (wd G 67 rfl)) (by decide) (t := (.array (.object "java/lang/Object"))) (t' := .int) (by decide) (by decide))))
  exact Seg.ret0 rfl d15_22 (by decide) (by decide) ⟨rfl, r, kr, ((((Keep.refl h0 [a]).trans K1 (allS (Or.inl (List.mem_of_getElem? (i := 0) rfl)) all0)).wr W_6 (Or.inr (Nat.le_trans (ext_rfl _).1 g1))).wr W_11 (Or.inl (List.mem_of_getElem? (i := 0) rfl))), g1, F_14, F_15, O1, F_16, F_17, F_12⟩
theorem d14_0 : decode jdk_38_method_25_code 0 = .ok (.aload_n 0, 1) := by decide +kernel
theorem d14_1 : decode jdk_38_method_25_code 1 = .ok (.dup, 1) := by decide +kernel
theorem d14_2 : decode jdk_38_method_25_code 2 = .ok (.getfield 63, 3) := by decide +kernel
theorem d14_5 : decode jdk_38_method_25_code 5 = .ok (.iconst 1, 1) := by decide +kernel
theorem d14_6 : decode jdk_38_method_25_code 6 = .ok (.iadd, 1) := by decide +kernel
theorem d14_7 : decode jdk_38_method_25_code 7 = .ok (.putfield 63, 3) := by decide +kernel
theorem d14_10 : decode jdk_38_method_25_code 10 = .ok (.aload_n 0, 1) := by decide +kernel
theorem d14_11 : decode jdk_38_method_25_code 11 = .ok (.aload_n 1, 1) := by decide +kernel
theorem d14_12 : decode jdk_38_method_25_code 12 = .ok (.aload_n 0, 1) := by decide +kernel
theorem d14_13 : decode jdk_38_method_25_code 13 = .ok (.getfield 9, 3) := by decide +kernel
theorem d14_16 : decode jdk_38_method_25_code 16 = .ok (.aload_n 0, 1) := by decide +kernel
theorem d14_17 : decode jdk_38_method_25_code 17 = .ok (.getfield 48, 3) := by decide +kernel
theorem d14_20 : decode jdk_38_method_25_code 20 = .ok (.invokevirtual 131, 3) := by decide +kernel
theorem pd_5 : parseMethodDescriptor "(Ljava/lang/Object;[Ljava/lang/Object;I)V" = some ⟨[(.object "java/lang/Object"), (.array (.object "java/lang/Object")), .int], none⟩ := by decide +kernel
theorem d14_23 : decode jdk_38_method_25_code 23 = .ok (.iconst 1, 1) := by decide +kernel
theorem d14_24 : decode jdk_38_method_25_code 24 = .ok (.ireturn, 1) := by decide +kernel
theorem ef_ct_addG (d0 : Addr) (kd : ClassId) (e0 : Addr) (mo : Addr) (ma : Addr) (a : Addr) (mm : Int32) (vv : Value) (hvr : (vv).isRef = true) (m : MethodId) : entryFrame m #[(.ref a), vv] 2 = mkF m 0 #[.val (.ref a), .val vv] [] := by
  rcases ref_cases hvr with rfl | ⟨_, rfl⟩ <;> rfl
set_option maxRecDepth 65536 in
set_option maxHeartbeats 4000000 in
theorem ct_addG {l : Launch} {Z : State} {a0 : Array Value} (G : Env1 Z a0) (d0 : Addr) (kd : ClassId) (e0 : Addr) (mo : Addr) (ma : Addr) (a : Addr) (mm : Int32) (vv : Value) (h0 : Heap) (N : Pins Z d0 kd e0 mo ma) (A : Exa Z h0 a "java/util/ArrayList") (F0 : Fld Z h0 a "java/util/AbstractList" "modCount" "I" (.int mm)) (F1 : Fld Z h0 a "java/util/ArrayList" "elementData" "[Ljava/lang/Object;" (.ref d0)) (F2 : Fld Z h0 a "java/util/ArrayList" "size" "I" (.int 0)) (hv : IoN Z h0 vv) (hvr : vv.isRef = true) :
    Ct l Z EL1 [a] [] (⟨"java/util/ArrayList", "add", "(Ljava/lang/Object;)Z"⟩ : MethodName) jdk_38_method_25_code 2 (some .boolean) ({ frames := 4, cells := 1, slots := 10, locals := 56 } : Room) #[(.ref a), vv] h0 (fun v h => v = some (.int 1) ∧ ∃ (r : Addr) (kr : ClassId), Keep h0 h [a] ∧ h0.size ≤ r ∧ Arv Z h r kr (.object "java/lang/Object") 10 [vv, .null, .null, .null, .null, .null, .null, .null, .null, .null] .null ∧ Exa Z h r "[Ljava/lang/Object;" ∧ Ovr Z kr "java/lang/Object" ∧ Fld Z h a "java/util/AbstractList" "modCount" "I" (.int (mm + (1 : Int32))) ∧ Fld Z h a "java/util/ArrayList" "elementData" "[Ljava/lang/Object;" (.ref r) ∧ Fld Z h a "java/util/ArrayList" "size" "I" (.int 1)) := by
  refine Ct.of_seg (a0 := a0) (plainFor_of_name pn_java_util_ArrayList) G.2.1 (ef_ct_addG d0 kd e0 mo ma a mm vv hvr) ?_
  refine Seg.aloadN d14_0 rfl rfl (pc' := 1) rfl ?_
  refine Seg.dup d14_1 rfl (pc' := 2) rfl ?_
  refine Seg.getF (host := "") (Or.inl (wd G 106 rfl)) (Via.of (wd G 107 rfl)) F0 d14_2 (pc' := 5) rfl ?_
  refine Seg.iconst (v := 1) d14_5 (by decide) (pc' := 6) rfl ?_
  refine Seg.iadd (v := (mm + (1 : Int32))) d14_6 rfl (pc' := 7) rfl ?_
  refine Seg.putF (host := "") (ty := .int) (v' := (.int (mm + (1 : Int32)))) (wd G 106 rfl) (Via.of (wd G 107 rfl)) F0 A (Or.inl (wd G 30 rfl)) (wd G 9 rfl) (by decide) rfl rfl (List.mem_of_getElem? (i := 0) rfl) d14_7 (pc' := 10) rfl ?_
  intro h_3 W_1 F_2
  refine Seg.aloadN d14_10 rfl rfl (pc' := 11) rfl ?_
  refine Seg.aloadN d14_11 rfl hvr (pc' := 12) rfl ?_
  refine Seg.aloadN d14_12 rfl rfl (pc' := 13) rfl ?_
  have F_4 := (F1.other W_1 (Or.inr (slot_ne (Or.inl (wd G 33 rfl)) (Or.inl (wd G 30 rfl)) (by decide) (t := (.array (.object "java/lang/Object"))) (t' := .int) (by decide) (by decide))))
  refine Seg.getF (host := "") (Or.inl (wd G 32 rfl)) Via.refl F_4 d14_13 (pc' := 16) rfl ?_
  refine Seg.aloadN d14_16 rfl rfl (pc' := 17) rfl ?_
  have F_5 := (F2.other W_1 (Or.inr (slot_ne (Or.inl (wd G 67 rfl)) (Or.inl (wd G 30 rfl)) (by decide) (t := .int) (t' := .int) (by decide) (by decide))))
  refine Seg.getF (host := "") (Or.inl (wd G 66 rfl)) Via.refl F_5 d14_17 (pc' := 20) rfl ?_
  have F_6 := (A.wr W_1)
  have F_7 := (hv.wr W_1)
  refine Seg.callPr (y' := (⟨"java/util/ArrayList", "add", "(Ljava/lang/Object;[Ljava/lang/Object;I)V"⟩ : MethodName)) (a := a) (wd G 108 rfl) (wd G 109 rfl) (wd G 111 rfl) (wd G 110 rfl) (wd G 112 rfl) ⟨by decide, by decide⟩ F_6 (Pays.of_ct (W := 0) (ct_add3G G d0 kd e0 mo ma a (mm + (1 : Int32)) vv h_3 N F_6 F_2 F_4 F_5 F_7 hvr) (allS (List.mem_of_getElem? (i := 0) rfl) all0) (wd G 112 rfl) (wd G 10 rfl) (by decide) (by decide) rfl rfl) (argsL := [vv, (.ref d0), (.int (0 : Int32))]) (rest := []) rfl (lenOf pd_5 rfl) rfl (Nat.le_of_eq rfl) rfl d14_20 (pc' := 23) rfl (k' := 1) (n' := 10) rfl rfl (by decide) (by decide) ?_
  intro v_8 h_11 sz_9 q_10
  obtain ⟨rfl, r, kr, K2, g2, A2, X2, O2, G0, G1, G2⟩ := q_10
  refine Seg.iconst (v := 1) d14_23 (by decide) (pc' := 24) rfl ?_
  exact Seg.retN (t := .boolean) (w := (1 : Int32)) rfl (by decide) (by decide) d14_24 (by decide) (by decide) ⟨rfl, r, kr, (((Keep.refl h0 [a]).wr W_1 (Or.inl (List.mem_of_getElem? (i := 0) rfl))).trans K2 (allS (Or.inl (List.mem_of_getElem? (i := 0) rfl)) all0)), (Nat.le_trans (Nat.le_of_eq (Wr.size W_1).symm) g2), A2, X2, O2, G0, G1, G2⟩
theorem ef_ct_add3N (a : Addr) (mm : Int32) (r : Addr) (kr : ClassId) (vs : List Value) (i : Nat) (vv : Value) (hvr : (vv).isRef = true) (m : MethodId) : entryFrame m #[(.ref a), vv, (.ref r), (.int (Int32.ofNat i))] 4 = mkF m 0 #[.val (.ref a), .val vv, .val (.ref r), .val (.int (Int32.ofNat i))] [] := by
  rcases ref_cases hvr with rfl | ⟨_, rfl⟩ <;> rfl
set_option maxRecDepth 65536 in
set_option maxHeartbeats 4000000 in
theorem ct_add3N {l : Launch} {Z : State} {a0 : Array Value} (G : Env1 Z a0) (a : Addr) (mm : Int32) (r : Addr) (kr : ClassId) (vs : List Value) (i : Nat) (vv : Value) (h0 : Heap) (A : Exa Z h0 a "java/util/ArrayList") (F0 : Fld Z h0 a "java/util/AbstractList" "modCount" "I" (.int mm)) (F1 : Fld Z h0 a "java/util/ArrayList" "elementData" "[Ljava/lang/Object;" (.ref r)) (F2 : Fld Z h0 a "java/util/ArrayList" "size" "I" (.int (Int32.ofNat i))) (Ar : Arv Z h0 r kr (.object "java/lang/Object") 10 vs .null) (hvs : vs.length = 10) (hi : i < 10) (O : Ovr Z kr "java/lang/Object") (hne : r ≠ a) (hv : IoN Z h0 vv) (hvr : vv.isRef = true) :
    Ct l Z EL1 [a, r] [] (⟨"java/util/ArrayList", "add", "(Ljava/lang/Object;[Ljava/lang/Object;I)V"⟩ : MethodName) jdk_38_method_24_code 4 none ({ frames := 0, cells := 0, slots := 0, locals := 0 } : Room) #[(.ref a), vv, (.ref r), (.int (Int32.ofNat i))] h0 (fun v h => v = none ∧ Keep h0 h [a, r] ∧ Arv Z h r kr (.object "java/lang/Object") 10 (vs.set i vv) .null ∧ Fld Z h a "java/util/AbstractList" "modCount" "I" (.int mm) ∧ Fld Z h a "java/util/ArrayList" "elementData" "[Ljava/lang/Object;" (.ref r) ∧ Fld Z h a "java/util/ArrayList" "size" "I" (.int (Int32.ofNat (i + 1)))) := by
  refine Ct.of_seg (a0 := a0) (plainFor_of_name pn_java_util_ArrayList) G.2.1 (ef_ct_add3N a mm r kr vs i vv hvr) ?_
  refine Seg.iloadN d15_0 rfl (pc' := 1) rfl ?_
  refine Seg.aloadN d15_1 rfl rfl (pc' := 2) rfl ?_
  refine Seg.alen Ar d15_2 (pc' := 3) rfl ?_
  refine Seg.icY (pc' := 11) d15_3 (XT.ii_ne_t fun q => absurd (n32eq (j := 10) (by omega) (by omega) q) (by omega)) (by decide) (by decide) ?_
  refine Seg.aloadN d15_11 rfl rfl (pc' := 12) rfl ?_
  refine Seg.iloadN d15_12 rfl (pc' := 13) rfl ?_
  refine Seg.aloadN d15_13 rfl hvr (pc' := 14) rfl ?_
  refine Seg.aastore (i := i) rfl Ar (n32in (n := 10) hi (by decide)) (n32c (by omega)) (by omega) (hv.sto Ar O (wd G 127 rfl)) hv.fits (List.mem_of_getElem? (i := 1) rfl) d15_14 (pc' := 15) rfl ?_
  intro h_3 W_1 A_2
  refine Seg.aloadN d15_15 rfl rfl (pc' := 16) rfl ?_
  refine Seg.iloadN d15_16 rfl (pc' := 17) rfl ?_
  refine Seg.iconst (v := 1) d15_17 (by decide) (pc' := 18) rfl ?_
  refine Seg.iadd (v := (Int32.ofNat (i + 1))) d15_18 (n32s i) (pc' := 19) rfl ?_
  have F_4 := (F2.keep (Keep.of_wr W_1) (ninS hne.symm nin0))
  have F_5 := (A.wr W_1)
  refine Seg.putF (host := "") (ty := .int) (v' := (.int (Int32.ofNat (i + 1)))) (wd G 66 rfl) Via.refl F_4 F_5 (Or.inl (wd G 67 rfl)) (wd G 9 rfl) (by decide) rfl rfl (List.mem_of_getElem? (i := 0) rfl) d15_19 (pc' := 22) rfl ?_
  intro h_8 W_6 F_7
  have F_9 := (A_2.keep (Keep.of_wr W_6) (ninS hne nin0))
  have F_10 := ((F0.keep (Keep.of_wr W_1) (ninS hne.symm nin0)).other W_6 (Or.inr (slot_ne (Or.inl (wd G 30 rfl)) (Or.inl (wd G 67 rfl)) (by decide) (t := .int) (t' := .int) (by decide) (by decide))))
  have F_11 := ((F1.keep (Keep.of_wr W_1) (ninS hne.symm nin0)).other W_6 (Or.inr (slot_ne (Or.inl (wd G 33 rfl)) (Or.inl (wd G 67 rfl)) (by decide) (t := (.array (.object "java/lang/Object"))) (t' := .int) (by decide) (by decide))))
  exact Seg.ret0 rfl d15_22 (by decide) (by decide) ⟨rfl, (((Keep.refl h0 [a, r]).wr W_1 (Or.inl (List.mem_of_getElem? (i := 1) rfl))).wr W_6 (Or.inl (List.mem_of_getElem? (i := 0) rfl))), F_9, F_10, F_11, F_7⟩
theorem ef_ct_addN (a : Addr) (mm : Int32) (r : Addr) (kr : ClassId) (vs : List Value) (i : Nat) (vv : Value) (hvr : (vv).isRef = true) (m : MethodId) : entryFrame m #[(.ref a), vv] 2 = mkF m 0 #[.val (.ref a), .val vv] [] := by
  rcases ref_cases hvr with rfl | ⟨_, rfl⟩ <;> rfl
set_option maxRecDepth 65536 in
set_option maxHeartbeats 4000000 in
theorem ct_addN {l : Launch} {Z : State} {a0 : Array Value} (G : Env1 Z a0) (a : Addr) (mm : Int32) (r : Addr) (kr : ClassId) (vs : List Value) (i : Nat) (vv : Value) (h0 : Heap) (A : Exa Z h0 a "java/util/ArrayList") (F0 : Fld Z h0 a "java/util/AbstractList" "modCount" "I" (.int mm)) (F1 : Fld Z h0 a "java/util/ArrayList" "elementData" "[Ljava/lang/Object;" (.ref r)) (F2 : Fld Z h0 a "java/util/ArrayList" "size" "I" (.int (Int32.ofNat i))) (Ar : Arv Z h0 r kr (.object "java/lang/Object") 10 vs .null) (hvs : vs.length = 10) (hi : i < 10) (O : Ovr Z kr "java/lang/Object") (hne : r ≠ a) (hv : IoN Z h0 vv) (hvr : vv.isRef = true) :
    Ct l Z EL1 [a, r] [] (⟨"java/util/ArrayList", "add", "(Ljava/lang/Object;)Z"⟩ : MethodName) jdk_38_method_25_code 2 (some .boolean) ({ frames := 1, cells := 0, slots := 0, locals := 15 } : Room) #[(.ref a), vv] h0 (fun v h => v = some (.int 1) ∧ Keep h0 h [a, r] ∧ Arv Z h r kr (.object "java/lang/Object") 10 (vs.set i vv) .null ∧ Fld Z h a "java/util/AbstractList" "modCount" "I" (.int (mm + (1 : Int32))) ∧ Fld Z h a "java/util/ArrayList" "elementData" "[Ljava/lang/Object;" (.ref r) ∧ Fld Z h a "java/util/ArrayList" "size" "I" (.int (Int32.ofNat (i + 1)))) := by
  refine Ct.of_seg (a0 := a0) (plainFor_of_name pn_java_util_ArrayList) G.2.1 (ef_ct_addN a mm r kr vs i vv hvr) ?_
  refine Seg.aloadN d14_0 rfl rfl (pc' := 1) rfl ?_
  refine Seg.dup d14_1 rfl (pc' := 2) rfl ?_
  refine Seg.getF (host := "") (Or.inl (wd G 106 rfl)) (Via.of (wd G 107 rfl)) F0 d14_2 (pc' := 5) rfl ?_
  refine Seg.iconst (v := 1) d14_5 (by decide) (pc' := 6) rfl ?_
  refine Seg.iadd (v := (mm + (1 : Int32))) d14_6 rfl (pc' := 7) rfl ?_
  refine Seg.putF (host := "") (ty := .int) (v' := (.int (mm + (1 : Int32)))) (wd G 106 rfl) (Via.of (wd G 107 rfl)) F0 A (Or.inl (wd G 30 rfl)) (wd G 9 rfl) (by decide) rfl rfl (List.mem_of_getElem? (i := 0) rfl) d14_7 (pc' := 10) rfl ?_
  intro h_3 W_1 F_2
  refine Seg.aloadN d14_10 rfl rfl (pc' := 11) rfl ?_
  refine Seg.aloadN d14_11 rfl hvr (pc' := 12) rfl ?_
  refine Seg.aloadN d14_12 rfl rfl (pc' := 13) rfl ?_
  have F_4 := (F1.other W_1 (Or.inr (slot_ne (Or.inl (wd G 33 rfl)) (Or.inl (wd G 30 rfl)) (by decide) (t := (.array (.object "java/lang/Object"))) (t' := .int) (by decide) (by decide))))
  refine Seg.getF (host := "") (Or.inl (wd G 32 rfl)) Via.refl F_4 d14_13 (pc' := 16) rfl ?_
  refine Seg.aloadN d14_16 rfl rfl (pc' := 17) rfl ?_
  have F_5 := (F2.other W_1 (Or.inr (slot_ne (Or.inl (wd G 67 rfl)) (Or.inl (wd G 30 rfl)) (by decide) (t := .int) (t' := .int) (by decide) (by decide))))
  refine Seg.getF (host := "") (Or.inl (wd G 66 rfl)) Via.refl F_5 d14_17 (pc' := 20) rfl ?_
  have F_6 := (A.wr W_1)
  have F_7 := (Ar.keep (Keep.of_wr W_1) (ninS hne nin0))
  have F_8 := (hv.wr W_1)
  refine Seg.callPr (y' := (⟨"java/util/ArrayList", "add", "(Ljava/lang/Object;[Ljava/lang/Object;I)V"⟩ : MethodName)) (a := a) (wd G 108 rfl) (wd G 109 rfl) (wd G 111 rfl) (wd G 110 rfl) (wd G 112 rfl) ⟨by decide, by decide⟩ F_6 (Pays.of_ct (W := 0) (ct_add3N G a (mm + (1 : Int32)) r kr vs i vv h_3 F_6 F_2 F_4 F_5 F_7 hvs hi O hne F_8 hvr) (allS (List.mem_of_getElem? (i := 0) rfl) (allS (List.mem_of_getElem? (i := 1) rfl) all0)) (wd G 112 rfl) (wd G 10 rfl) (by decide) (by decide) rfl rfl) (argsL := [vv, (.ref r), (.int (Int32.ofNat i))]) (rest := []) rfl (lenOf pd_5 rfl) rfl (Nat.le_of_eq rfl) rfl d14_20 (pc' := 23) rfl (k' := 0) (n' := 0) rfl rfl (by decide) (by decide) ?_
  intro v_9 h_12 sz_10 q_11
  obtain ⟨rfl, K2, A2, G0, G1, G2⟩ := q_11
  refine Seg.iconst (v := 1) d14_23 (by decide) (pc' := 24) rfl ?_
  exact Seg.retN (t := .boolean) (w := (1 : Int32)) rfl (by decide) (by decide) d14_24 (by decide) (by decide) ⟨rfl, (((Keep.refl h0 [a, r]).wr W_1 (Or.inl (List.mem_of_getElem? (i := 0) rfl))).trans K2 (allS (Or.inl (List.mem_of_getElem? (i := 0) rfl)) (allS (Or.inl (List.mem_of_getElem? (i := 1) rfl)) all0))), A2, G0, G1, G2⟩
theorem d7_0 : decode jdk_31_method_11_code 0 = .ok (.aload_n 0, 1) := by decide +kernel
theorem d7_1 : decode jdk_31_method_11_code 1 = .ok (.ifnonnull 12, 3) := by decide +kernel
theorem d7_13 : decode jdk_31_method_11_code 13 = .ok (.aload_n 0, 1) := by decide +kernel
theorem d7_14 : decode jdk_31_method_11_code 14 = .ok (.areturn, 1) := by decide +kernel
theorem pn_java_util_Objects : plainName "java/util/Objects" = true := by first | (simp [plainName, overriddenIn]; done) | decide +kernel
theorem ef_ct_req (a : Addr) (b : Addr) (m : MethodId) : entryFrame m #[(.ref a), (.ref b)] 2 = mkF m 0 #[.val (.ref a), .val (.ref b)] [] := by first | (simp [entryFrame, mkF, argsToLocals, Value.category]; done) | rfl
set_option maxRecDepth 65536 in
set_option maxHeartbeats 4000000 in
theorem ct_req {l : Launch} {Z : State} {a0 : Array Value} (G : Env1 Z a0) (a : Addr) (b : Addr) (h0 : Heap) :
    Ct l Z EL1 [] [] (⟨"java/util/Objects", "requireNonNull", "(Ljava/lang/Object;Ljava/lang/String;)Ljava/lang/Object;"⟩ : MethodName) jdk_31_method_11_code 2 (some (.object "java/lang/Object")) ({ frames := 0, cells := 0, slots := 0, locals := 0 } : Room) #[(.ref a), (.ref b)] h0 (fun v h => v = some (.ref a) ∧ h0 = h) := by
  refine Ct.of_seg (a0 := a0) (plainFor_of_name pn_java_util_Objects) G.2.1 (ef_ct_req a b) ?_
  refine Seg.aloadN d7_0 rfl rfl (pc' := 1) rfl ?_
  refine Seg.nonnY (pc' := 13) d7_1 (by decide) (by decide) ?_
  refine Seg.aloadN d7_13 rfl rfl (pc' := 14) rfl ?_
  exact Seg.retA rfl rfl rfl d7_14 (by decide) (by decide) ⟨rfl, rfl⟩
theorem d13_0 : decode prog_14_method_1_code 0 = .ok (.aload_n 0, 1) := by decide +kernel
theorem d13_1 : decode prog_14_method_1_code 1 = .ok (.invokespecial 1, 3) := by decide +kernel
theorem d13_4 : decode prog_14_method_1_code 4 = .ok (.aload_n 0, 1) := by decide +kernel
theorem d13_5 : decode prog_14_method_1_code 5 = .ok (.aload_n 1, 1) := by decide +kernel
theorem d13_6 : decode prog_14_method_1_code 6 = .ok (.putfield 7, 3) := by decide +kernel
theorem d13_9 : decode prog_14_method_1_code 9 = .ok (.return_, 1) := by decide +kernel
theorem pn_com_example_reify_reify_EdnList : plainName "com/example/reify/reify/EdnList" = true := by first | (simp [plainName, overriddenIn]; done) | decide +kernel
theorem ef_ct_ei (a : Addr) (b : Addr) (o0 : Value) (o1 : Value) (m : MethodId) : entryFrame m #[(.ref a), (.ref b)] 2 = mkF m 0 #[.val (.ref a), .val (.ref b)] [] := by first | (simp [entryFrame, mkF, argsToLocals, Value.category]; done) | rfl
set_option maxRecDepth 65536 in
set_option maxHeartbeats 4000000 in
theorem ct_ei {l : Launch} {Z : State} {a0 : Array Value} (G : Env1 Z a0) (a : Addr) (b : Addr) (o0 : Value) (o1 : Value) (h0 : Heap) (A : Exa Z h0 a "com/example/reify/reify/EdnList") (F0 : Fld Z h0 a "java/util/AbstractList" "modCount" "I" o0) (F1 : Fld Z h0 a "com/example/reify/reify/EdnList" "elements" "Ljava/util/List;" o1) :
    Ct l Z EL1 [a] [] (⟨"com/example/reify/reify/EdnList", "<init>", "(Ljava/util/List;)V"⟩ : MethodName) prog_14_method_1_code 2 none ({ frames := 3, cells := 0, slots := 0, locals := 36 } : Room) #[(.ref a), (.ref b)] h0 (fun v h => v = none ∧ Keep h0 h [a] ∧ Fld Z h a "com/example/reify/reify/EdnList" "elements" "Ljava/util/List;" (.ref b)) := by
  refine Ct.of_seg (a0 := a0) (plainFor_of_name pn_com_example_reify_reify_EdnList) G.2.1 (ef_ct_ei a b o0 o1) ?_
  refine Seg.aloadN d13_0 rfl rfl (pc' := 1) rfl ?_
  refine Seg.callN (y' := (⟨"java/util/AbstractList", "<init>", "()V"⟩ : MethodName)) (a := a) rfl (wd G 96 rfl) (wd G 15 rfl) (wd G 19 rfl) ⟨by decide, by decide⟩ (Pays.of_ct (W := 0) (ct_abE G a o0 o1 h0 A F0 F1) (allS (List.mem_of_getElem? (i := 0) rfl) all0) (wd G 19 rfl) (wd G 18 rfl) (by decide) (by decide) rfl rfl) (argsL := []) (rest := []) rfl (lenOf pd_0 rfl) rfl (Nat.le_of_eq rfl) rfl d13_1 (pc' := 4) rfl (k' := 0) (n' := 0) rfl rfl (by decide) (by decide) ?_
  intro v_1 h_4 sz_2 q_3
  obtain ⟨rfl, K1, G1⟩ := q_3
  refine Seg.aloadN d13_4 rfl rfl (pc' := 5) rfl ?_
  refine Seg.aloadN d13_5 rfl rfl (pc' := 6) rfl ?_
  have F_5 := (A.keep K1)
  refine Seg.putF (host := "") (ty := (.object "java/util/List")) (v' := (.ref b)) (wd G 99 rfl) Via.refl G1 F_5 (Or.inr ⟨(wd G 100 rfl), rfl, rfl⟩) (wd G 39 rfl) (by decide) rfl rfl (List.mem_of_getElem? (i := 0) rfl) d13_6 (pc' := 9) rfl ?_
  intro h_8 W_6 F_7
  exact Seg.ret0 rfl d13_9 (by decide) (by decide) ⟨rfl, (((Keep.refl h0 [a]).trans K1 (allS (Or.inl (List.mem_of_getElem? (i := 0) rfl)) all0)).wr W_6 (Or.inl (List.mem_of_getElem? (i := 0) rfl))), F_7⟩
theorem d11_0 : decode jdk_65_method_120_code 0 = .ok (.aload_n 2, 1) := by decide +kernel
theorem d11_1 : decode jdk_65_method_120_code 1 = .ok (.ldc 110, 2) := by decide +kernel
theorem d11_3 : decode jdk_65_method_120_code 3 = .ok (.if_acmp .ne 10, 3) := by decide +kernel
theorem d11_6 : decode jdk_65_method_120_code 6 = .ok (.iload_n 1, 1) := by decide +kernel
theorem d11_7 : decode jdk_65_method_120_code 7 = .ok (.anewarray 2, 3) := by decide +kernel
theorem d11_10 : decode jdk_65_method_120_code 10 = .ok (.goto 14, 3) := by decide +kernel
theorem d11_24 : decode jdk_65_method_120_code 24 = .ok (.astore_n 3, 1) := by decide +kernel
theorem d11_25 : decode jdk_65_method_120_code 25 = .ok (.aload_n 0, 1) := by decide +kernel
theorem d11_26 : decode jdk_65_method_120_code 26 = .ok (.iconst 0, 1) := by decide +kernel
theorem d11_27 : decode jdk_65_method_120_code 27 = .ok (.aload_n 3, 1) := by decide +kernel
theorem d11_28 : decode jdk_65_method_120_code 28 = .ok (.iconst 0, 1) := by decide +kernel
theorem d11_29 : decode jdk_65_method_120_code 29 = .ok (.aload_n 0, 1) := by decide +kernel
theorem d11_30 : decode jdk_65_method_120_code 30 = .ok (.arraylength, 1) := by decide +kernel
theorem d11_31 : decode jdk_65_method_120_code 31 = .ok (.iload_n 1, 1) := by decide +kernel
theorem d11_32 : decode jdk_65_method_120_code 32 = .ok (.invokestatic 304, 3) := by decide +kernel
theorem d11_35 : decode jdk_65_method_120_code 35 = .ok (.invokestatic 150, 3) := by decide +kernel
theorem d11_38 : decode jdk_65_method_120_code 38 = .ok (.aload_n 3, 1) := by decide +kernel
theorem d11_39 : decode jdk_65_method_120_code 39 = .ok (.areturn, 1) := by decide +kernel
theorem pn_java_util_Arrays : plainName "java/util/Arrays" = true := by first | (simp [plainName, overriddenIn]; done) | decide +kernel
theorem ef_ct_cpo3_0 (d0 : Addr) (kd : ClassId) (e0 : Addr) (mo : Addr) (ma : Addr) (b : Addr) (kb : ClassId) (m : MethodId) : entryFrame m #[(.ref b), (.int (0 : Int32)), (.ref mo)] 4 = mkF m 0 #[.val (.ref b), .val (.int (0 : Int32)), .val (.ref mo), .unset] [] := by first | (simp [entryFrame, mkF, argsToLocals, Value.category]; done) | rfl
set_option maxRecDepth 65536 in
set_option maxHeartbeats 4000000 in
theorem ct_cpo3_0 {l : Launch} {Z : State} {a0 : Array Value} (G : Env1 Z a0) (d0 : Addr) (kd : ClassId) (e0 : Addr) (mo : Addr) (ma : Addr) (b : Addr) (kb : ClassId) (h0 : Heap) (N : Pins Z d0 kd e0 mo ma) (Ab : Arv Z h0 b kb (.object "java/lang/Object") 0 [] .null) :
    Ct l Z EL1 [] [] (⟨"java/util/Arrays", "copyOf", "([Ljava/lang/Object;ILjava/lang/Class;)[Ljava/lang/Object;"⟩ : MethodName) jdk_65_method_120_code 4 (some (.array (.object "java/lang/Object"))) ({ frames := 1, cells := 1, slots := 0, locals := 18 } : Room) #[(.ref b), (.int (0 : Int32)), (.ref mo)] h0 (fun v h => ∃ (r : Addr) (kr : ClassId), v = some (.ref r) ∧ Ext h0 h ∧ h0.size ≤ r ∧ Arv Z h r kr (.object "java/lang/Object") 0 [] .null) := by
  refine Ct.of_seg (a0 := a0) (plainFor_of_name pn_java_util_Arrays) G.2.1 (ef_ct_cpo3_0 d0 kd e0 mo ma b kb) ?_
  refine Seg.aloadN d11_0 rfl rfl (pc' := 1) rfl ?_
  refine Seg.ldcM (wd G 81 rfl) N.2.2.2.2.1 d11_1 (pc' := 3) rfl ?_
  refine Seg.acN d11_3 rfl rfl (XT.aa_ne_f rfl) (pc' := 6) rfl ?_
  refine Seg.iloadN d11_6 rfl (pc' := 7) rfl ?_
  refine Seg.newR (ad := "[Ljava/lang/Object;") (wd G 82 rfl) (wd G 83 rfl) (by decide) d11_7 (pc' := 10) rfl (by decide) (cap := 0) (by decide) (by decide) (k' := 1) (n' := 0) rfl rfl (by decide) (by decide) ?_
  intro b_1 h_3 k_b_1 E_2 e_b_1 l_b_1 A_b_1 X_b_1 O_b_1
  refine Seg.goto (pc' := 24) d11_10 (by decide) (by decide) ?_
  refine Seg.astoreN (L' := #[.val (.ref b), .val (.int (0 : Int32)), .val (.ref mo), .val (.ref b_1)]) d11_24 rfl rfl (pc' := 25) rfl ?_
  refine Seg.aloadN d11_25 rfl rfl (pc' := 26) rfl ?_
  refine Seg.iconst (v := 0) d11_26 (by decide) (pc' := 27) rfl ?_
  refine Seg.aloadN d11_27 rfl rfl (pc' := 28) rfl ?_
  refine Seg.iconst (v := 0) d11_28 (by decide) (pc' := 29) rfl ?_
  refine Seg.aloadN d11_29 rfl rfl (pc' := 30) rfl ?_
  have F_4 := Ab.ext E_2
  refine Seg.alen F_4 d11_30 (pc' := 31) rfl ?_
  refine Seg.iloadN d11_31 rfl (pc' := 32) rfl ?_
  refine Seg.callS (y' := (⟨"java/lang/Math", "min", "(II)I"⟩ : MethodName)) (wd G 84 rfl) (wd G 85 rfl) (wd G 86 rfl) (wd G 87 rfl) ⟨by decide, by decide⟩ (Pays.of_ct (W := 4) (ct_min0 G  h_3) all0 (wd G 87 rfl) (wd G 86 rfl) (by decide) (by decide) rfl rfl) (argsL := [(.int (0 : Int32)), (.int (0 : Int32))]) (rest := [(.int (0 : Int32)), (.ref b_1), (.int (0 : Int32)), (.ref b)]) rfl (lenOf pd_2 rfl) rfl (Nat.le_of_eq rfl) rfl d11_32 (pc' := 35) rfl (k' := 1) (n' := 0) rfl rfl (by decide) (by decide) ?_
  intro v_5 h_8 sz_6 q_7
  obtain ⟨rfl, rfl⟩ := q_7
  refine Seg.cpA (us := []) (vr := []) (wd G 88 rfl) (wd G 91 rfl) (wd G 89 rfl) (wd G 90 rfl) F_4 A_b_1 (Or.inr ⟨rfl, rfl, trivial⟩) (by decide) (by decide) (by decide) (by decide) (by decide) rfl (by decide) rfl (List.mem_of_getElem? (i := 0) rfl) rfl d11_35 (pc' := 38) rfl (by decide) (W := 0) (Nat.le_of_eq rfl) (by decide) ?_
  intro h_11 K_9 A_10
  refine Seg.aloadN d11_38 rfl rfl (pc' := 39) rfl ?_
  have E_12 : Ext h0 h_11 := ext_kp E_2 K_9 (allS (Nat.le_trans (ext_rfl _).1 (Nat.le_of_eq e_b_1)) all0)
  exact Seg.retA rfl rfl rfl d11_39 (by decide) (by decide) ⟨b_1, k_b_1, rfl, E_12, (Nat.le_trans (ext_rfl _).1 (Nat.le_of_eq e_b_1)), A_10⟩
theorem d10_0 : decode jdk_65_method_119_code 0 = .ok (.aload_n 0, 1) := by decide +kernel
theorem d10_1 : decode jdk_65_method_119_code 1 = .ok (.iload_n 1, 1) := by decide +kernel
theorem d10_2 : decode jdk_65_method_119_code 2 = .ok (.aload_n 0, 1) := by decide +kernel
theorem d10_3 : decode jdk_65_method_119_code 3 = .ok (.invokevirtual 86, 3) := by decide +kernel
theorem d10_6 : decode jdk_65_method_119_code 6 = .ok (.invokestatic 300, 3) := by decide +kernel
theorem pd_6 : parseMethodDescriptor "([Ljava/lang/Object;ILjava/lang/Class;)[Ljava/lang/Object;" = some ⟨[(.array (.object "java/lang/Object")), .int, (.object "java/lang/Class")], some (.array (.object "java/lang/Object"))⟩ := by decide +kernel
theorem d10_9 : decode jdk_65_method_119_code 9 = .ok (.areturn, 1) := by decide +kernel
theorem ef_ct_cpo2_0 (d0 : Addr) (kd : ClassId) (e0 : Addr) (mo : Addr) (ma : Addr) (b : Addr) (kb : ClassId) (m : MethodId) : entryFrame m #[(.ref b), (.int (0 : Int32))] 2 = mkF m 0 #[.val (.ref b), .val (.int (0 : Int32))] [] := by first | (simp [entryFrame, mkF, argsToLocals, Value.category]; done) | rfl
set_option maxRecDepth 65536 in
set_option maxHeartbeats 4000000 in
theorem ct_cpo2_0 {l : Launch} {Z : State} {a0 : Array Value} (G : Env1 Z a0) (d0 : Addr) (kd : ClassId) (e0 : Addr) (mo : Addr) (ma : Addr) (b : Addr) (kb : ClassId) (h0 : Heap) (N : Pins Z d0 kd e0 mo ma) (Ab : Arv Z h0 b kb (.object "java/lang/Object") 0 [] .null) (Xb : Exa Z h0 b "[Ljava/lang/Object;") :
    Ct l Z EL1 [] [] (⟨"java/util/Arrays", "copyOf", "([Ljava/lang/Object;I)[Ljava/lang/Object;"⟩ : MethodName) jdk_65_method_119_code 2 (some (.array (.object "java/lang/Object"))) ({ frames := 2, cells := 1, slots := 0, locals := 33 } : Room) #[(.ref b), (.int (0 : Int32))] h0 (fun v h => ∃ (r : Addr) (kr : ClassId), v = some (.ref r) ∧ Ext h0 h ∧ h0.size ≤ r ∧ Arv Z h r kr (.object "java/lang/Object") 0 [] .null) := by
  refine Ct.of_seg (a0 := a0) (plainFor_of_name pn_java_util_Arrays) G.2.1 (ef_ct_cpo2_0 d0 kd e0 mo ma b kb) ?_
  refine Seg.aloadN d10_0 rfl rfl (pc' := 1) rfl ?_
  refine Seg.iloadN d10_1 rfl (pc' := 2) rfl ?_
  refine Seg.aloadN d10_2 rfl rfl (pc' := 3) rfl ?_
  refine Seg.getC (wd G 72 rfl) (wd G 73 rfl) (nf_sel (wd G 75 rfl)) (wd G 75 rfl) (wd G 74 rfl) (wd G 76 rfl) Xb N.2.2.2.2.1 rfl d10_3 (pc' := 6) rfl (by decide) (W := 2) (Nat.le_of_eq rfl) (by decide) ?_
  refine Seg.callS (y' := (⟨"java/util/Arrays", "copyOf", "([Ljava/lang/Object;ILjava/lang/Class;)[Ljava/lang/Object;"⟩ : MethodName)) (wd G 78 rfl) (wd G 79 rfl) (wd G 70 rfl) (wd G 80 rfl) ⟨by decide, by decide⟩ (Pays.of_ct (W := 0) (ct_cpo3_0 G d0 kd e0 mo ma b kb h0 N Ab) all0 (wd G 80 rfl) (wd G 70 rfl) (by decide) (by decide) rfl rfl) (argsL := [(.ref b), (.int (0 : Int32)), (.ref mo)]) (rest := []) rfl (lenOf pd_6 rfl) rfl (Nat.le_of_eq rfl) rfl d10_6 (pc' := 9) rfl (k' := 1) (n' := 0) rfl rfl (by decide) (by decide) ?_
  intro v_1 h_4 sz_2 q_3
  obtain ⟨r, kr, rfl, E1, g1, A1⟩ := q_3
  exact Seg.retA rfl rfl rfl d10_9 (by decide) (by decide) ⟨r, kr, rfl, E1, g1, A1⟩
theorem d9_0 : decode jdk_38_method_16_code 0 = .ok (.aload_n 0, 1) := by decide +kernel
theorem d9_1 : decode jdk_38_method_16_code 1 = .ok (.getfield 9, 3) := by decide +kernel
theorem d9_4 : decode jdk_38_method_16_code 4 = .ok (.aload_n 0, 1) := by decide +kernel
theorem d9_5 : decode jdk_38_method_16_code 5 = .ok (.getfield 48, 3) := by decide +kernel
theorem d9_8 : decode jdk_38_method_16_code 8 = .ok (.invokestatic 66, 3) := by decide +kernel
theorem pd_7 : parseMethodDescriptor "([Ljava/lang/Object;I)[Ljava/lang/Object;" = some ⟨[(.array (.object "java/lang/Object")), .int], some (.array (.object "java/lang/Object"))⟩ := by decide +kernel
theorem d9_11 : decode jdk_38_method_16_code 11 = .ok (.areturn, 1) := by decide +kernel
theorem ef_ct_ta_0 (d0 : Addr) (kd : ClassId) (e0 : Addr) (mo : Addr) (ma : Addr) (a : Addr) (b : Addr) (kb : ClassId) (m : MethodId) : entryFrame m #[(.ref a)] 1 = mkF m 0 #[.val (.ref a)] [] := by first | (simp [entryFrame, mkF, argsToLocals, Value.category]; done) | rfl
set_option maxRecDepth 65536 in
set_option maxHeartbeats 4000000 in
theorem ct_ta_0 {l : Launch} {Z : State} {a0 : Array Value} (G : Env1 Z a0) (d0 : Addr) (kd : ClassId) (e0 : Addr) (mo : Addr) (ma : Addr) (a : Addr) (b : Addr) (kb : ClassId) (h0 : Heap) (N : Pins Z d0 kd e0 mo ma) (F1 : Fld Z h0 a "java/util/ArrayList" "elementData" "[Ljava/lang/Object;" (.ref b)) (F2 : Fld Z h0 a "java/util/ArrayList" "size" "I" (.int 0)) (Ab : Arv Z h0 b kb (.object "java/lang/Object") 0 [] .null) (Xb : Exa Z h0 b "[Ljava/lang/Object;") :
    Ct l Z EL1 [] [] (⟨"java/util/ArrayList", "toArray", "()[Ljava/lang/Object;"⟩ : MethodName) jdk_38_method_16_code 1 (some (.array (.object "java/lang/Object"))) ({ frames := 3, cells := 1, slots := 0, locals := 46 } : Room) #[(.ref a)] h0 (fun v h => ∃ (r : Addr) (kr : ClassId), v = some (.ref r) ∧ Ext h0 h ∧ h0.size ≤ r ∧ Arv Z h r kr (.object "java/lang/Object") 0 [] .null) := by
  refine Ct.of_seg (a0 := a0) (plainFor_of_name pn_java_util_ArrayList) G.2.1 (ef_ct_ta_0 d0 kd e0 mo ma a b kb) ?_
  refine Seg.aloadN d9_0 rfl rfl (pc' := 1) rfl ?_
  refine Seg.getF (host := "") (Or.inl (wd G 32 rfl)) Via.refl F1 d9_1 (pc' := 4) rfl ?_
  refine Seg.aloadN d9_4 rfl rfl (pc' := 5) rfl ?_
  refine Seg.getF (host := "") (Or.inl (wd G 66 rfl)) Via.refl F2 d9_5 (pc' := 8) rfl ?_
  refine Seg.callS (y' := (⟨"java/util/Arrays", "copyOf", "([Ljava/lang/Object;I)[Ljava/lang/Object;"⟩ : MethodName)) (wd G 68 rfl) (wd G 69 rfl) (wd G 70 rfl) (wd G 71 rfl) ⟨by decide, by decide⟩ (Pays.of_ct (W := 0) (ct_cpo2_0 G d0 kd e0 mo ma b kb h0 N Ab Xb) all0 (wd G 71 rfl) (wd G 70 rfl) (by decide) (by decide) rfl rfl) (argsL := [(.ref b), (.int (0 : Int32))]) (rest := []) rfl (lenOf pd_7 rfl) rfl (Nat.le_of_eq rfl) rfl d9_8 (pc' := 11) rfl (k' := 1) (n' := 0) rfl rfl (by decide) (by decide) ?_
  intro v_1 h_4 sz_2 q_3
  obtain ⟨r, kr, rfl, E1, g1, A1⟩ := q_3
  exact Seg.retA rfl rfl rfl d9_11 (by decide) (by decide) ⟨r, kr, rfl, E1, g1, A1⟩
theorem d8_0 : decode jdk_38_method_3_code 0 = .ok (.aload_n 0, 1) := by decide +kernel
theorem d8_1 : decode jdk_38_method_3_code 1 = .ok (.invokespecial 1, 3) := by decide +kernel
theorem d8_4 : decode jdk_38_method_3_code 4 = .ok (.aload_n 1, 1) := by decide +kernel
theorem d8_5 : decode jdk_38_method_3_code 5 = .ok (.invokeinterface 42 1, 5) := by decide +kernel
theorem d8_10 : decode jdk_38_method_3_code 10 = .ok (.astore_n 2, 1) := by decide +kernel
theorem d8_11 : decode jdk_38_method_3_code 11 = .ok (.aload_n 0, 1) := by decide +kernel
theorem d8_12 : decode jdk_38_method_3_code 12 = .ok (.aload_n 2, 1) := by decide +kernel
theorem d8_13 : decode jdk_38_method_3_code 13 = .ok (.arraylength, 1) := by decide +kernel
theorem d8_14 : decode jdk_38_method_3_code 14 = .ok (.dup_x1, 1) := by decide +kernel
theorem d8_15 : decode jdk_38_method_3_code 15 = .ok (.putfield 48, 3) := by decide +kernel
theorem d8_18 : decode jdk_38_method_3_code 18 = .ok (.ifCond .eq 39, 3) := by decide +kernel
theorem d8_57 : decode jdk_38_method_3_code 57 = .ok (.aload_n 0, 1) := by decide +kernel
theorem d8_58 : decode jdk_38_method_3_code 58 = .ok (.getstatic 15, 3) := by decide +kernel
theorem d8_61 : decode jdk_38_method_3_code 61 = .ok (.putfield 9, 3) := by decide +kernel
theorem d8_64 : decode jdk_38_method_3_code 64 = .ok (.return_, 1) := by decide +kernel
theorem ef_ct_ic_0 (d0 : Addr) (kd : ClassId) (e0 : Addr) (mo : Addr) (ma : Addr) (x : Addr) (a : Addr) (o0 : Value) (o1 : Value) (o2 : Value) (b : Addr) (kb : ClassId) (m : MethodId) : entryFrame m #[(.ref x), (.ref a)] 3 = mkF m 0 #[.val (.ref x), .val (.ref a), .unset] [] := by first | (simp [entryFrame, mkF, argsToLocals, Value.category]; done) | rfl
set_option maxRecDepth 65536 in
set_option maxHeartbeats 4000000 in
theorem ct_ic_0 {l : Launch} {Z : State} {a0 : Array Value} (G : Env1 Z a0) (d0 : Addr) (kd : ClassId) (e0 : Addr) (mo : Addr) (ma : Addr) (x : Addr) (a : Addr) (o0 : Value) (o1 : Value) (o2 : Value) (b : Addr) (kb : ClassId) (h0 : Heap) (N : Pins Z d0 kd e0 mo ma) (A : Exa Z h0 x "java/util/ArrayList") (H0 : Fld Z h0 x "java/util/AbstractList" "modCount" "I" o0) (H1 : Fld Z h0 x "java/util/ArrayList" "elementData" "[Ljava/lang/Object;" o1) (H2 : Fld Z h0 x "java/util/ArrayList" "size" "I" o2) (Xa : Exa Z h0 a "java/util/ArrayList") (F1 : Fld Z h0 a "java/util/ArrayList" "elementData" "[Ljava/lang/Object;" (.ref b)) (F2 : Fld Z h0 a "java/util/ArrayList" "size" "I" (.int 0)) (Ab : Arv Z h0 b kb (.object "java/lang/Object") 0 [] .null) (Xb : Exa Z h0 b "[Ljava/lang/Object;") (nax : a ≠ x) (nbx : b ≠ x) :
    Ct l Z EL1 [x] [] (⟨"java/util/ArrayList", "<init>", "(Ljava/util/Collection;)V"⟩ : MethodName) jdk_38_method_3_code 3 none ({ frames := 4, cells := 1, slots := 0, locals := 58 } : Room) #[(.ref x), (.ref a)] h0 (fun v h => v = none ∧ Keep h0 h [x] ∧ Fld Z h x "java/util/ArrayList" "elementData" "[Ljava/lang/Object;" (.ref e0) ∧ Fld Z h x "java/util/ArrayList" "size" "I" (.int 0)) := by
  refine Ct.of_seg (a0 := a0) (plainFor_of_name pn_java_util_ArrayList) G.2.1 (ef_ct_ic_0 d0 kd e0 mo ma x a o0 o1 o2 b kb) ?_
  refine Seg.aloadN d8_0 rfl rfl (pc' := 1) rfl ?_
  refine Seg.callN (y' := (⟨"java/util/AbstractList", "<init>", "()V"⟩ : MethodName)) (a := x) rfl (wd G 14 rfl) (wd G 15 rfl) (wd G 19 rfl) ⟨by decide, by decide⟩ (Pays.of_ct (W := 0) (ct_abA G x o0 o1 o2 h0 A H0 H1 H2) (allS (List.mem_of_getElem? (i := 0) rfl) all0) (wd G 19 rfl) (wd G 18 rfl) (by decide) (by decide) rfl rfl) (argsL := []) (rest := []) rfl (lenOf pd_0 rfl) rfl (Nat.le_of_eq rfl) rfl d8_1 (pc' := 4) rfl (k' := 0) (n' := 0) rfl rfl (by decide) (by decide) ?_
  intro v_1 h_4 sz_2 q_3
  obtain ⟨rfl, K1, G0, G1, G2⟩ := q_3
  refine Seg.aloadN d8_4 rfl rfl (pc' := 5) rfl ?_
  have F_5 := (F1.keep K1 (ninS nax nin0))
  have F_6 := (F2.keep K1 (ninS nax nin0))
  have F_7 := (Ab.keep K1 (ninS nbx nin0))
  have F_8 := (Xb.keep K1)
  have F_9 := (Xa.keep K1)
  refine Seg.callI (y' := (⟨"java/util/Collection", "toArray", "()[Ljava/lang/Object;"⟩ : MethodName)) (z := (⟨"java/util/ArrayList", "toArray", "()[Ljava/lang/Object;"⟩ : MethodName)) (a := a) (wd G 58 rfl) (wd G 59 rfl) (wd G 60 rfl) rfl (wd G 61 rfl) (wd G 62 rfl) (wd G 63 rfl) (wd G 64 rfl) (wd G 54 rfl) ⟨by decide, by decide⟩ F_9 (Pays.of_ct (W := 0) (ct_ta_0 G d0 kd e0 mo ma a b kb h_4 N F_5 F_6 F_7 F_8) all0 (wd G 65 rfl) (wd G 10 rfl) (by decide) (by decide) rfl rfl) (argsL := []) (rest := []) rfl (lenOf pd_4 rfl) rfl (Nat.le_of_eq rfl) rfl d8_5 (pc' := 10) rfl (k' := 1) (n' := 0) rfl rfl (by decide) (by decide) ?_
  intro v_10 h_13 sz_11 q_12
  obtain ⟨r, kr, rfl, E1, g1, A1⟩ := q_12
  have nrx : r ≠ x := Nat.ne_of_gt (Nat.lt_of_lt_of_le A.lt (Nat.le_trans K1.1 g1))
  refine Seg.astoreN (L' := #[.val (.ref x), .val (.ref a), .val (.ref r)]) d8_10 rfl rfl (pc' := 11) rfl ?_
  refine Seg.aloadN d8_11 rfl rfl (pc' := 12) rfl ?_
  refine Seg.aloadN d8_12 rfl rfl (pc' := 13) rfl ?_
  refine Seg.alen A1 d8_13 (pc' := 14) rfl ?_
  refine Seg.dupX1 d8_14 rfl rfl (pc' := 15) rfl ?_
  have F_14 := G2.ext E1
  have F_15 := ((A.keep K1).ext E1)
  refine Seg.putF (host := "") (ty := .int) (v' := (.int (0 : Int32))) (wd G 66 rfl) Via.refl F_14 F_15 (Or.inl (wd G 67 rfl)) (wd G 9 rfl) (by decide) rfl rfl (List.mem_of_getElem? (i := 0) rfl) d8_15 (pc' := 18) rfl ?_
  intro h_18 W_16 F_17
  refine Seg.ifY (pc' := 57) d8_18 (by decide) (by decide) (by decide) ?_
  refine Seg.aloadN d8_57 rfl rfl (pc' := 58) rfl ?_
  refine Seg.getS (wd G 92 rfl) Via.refl N.2.2.2.1 d8_58 (pc' := 61) rfl ?_
  have F_19 := ((G1.ext E1).other W_16 (Or.inr (slot_ne (Or.inl (wd G 33 rfl)) (Or.inl (wd G 67 rfl)) (by decide) (t := (.array (.object "java/lang/Object"))) (t' := .int) (by decide) (by decide))))
  have F_20 := (F_15.wr W_16)
  refine Seg.putF (host := "") (ty := (.array (.object "java/lang/Object"))) (v' := (.ref e0)) (wd G 32 rfl) Via.refl F_19 F_20 (Or.inl (wd G 33 rfl)) (wd G 9 rfl) (by decide) rfl rfl (List.mem_of_getElem? (i := 0) rfl) d8_61 (pc' := 64) rfl ?_
  intro h_23 W_21 F_22
  have F_24 := (F_17.other W_21 (Or.inr (slot_ne (Or.inl (wd G 67 rfl)) (Or.inl (wd G 33 rfl)) (by decide) (t := .int) (t' := (.array (.object "java/lang/Object"))) (by decide) (by decide))))
  exact Seg.ret0 rfl d8_64 (by decide) (by decide) ⟨rfl, (((((Keep.refl h0 [x]).trans K1 (allS (Or.inl (List.mem_of_getElem? (i := 0) rfl)) all0)).ext E1).wr W_16 (Or.inl (List.mem_of_getElem? (i := 0) rfl))).wr W_21 (Or.inl (List.mem_of_getElem? (i := 0) rfl))), F_22, F_24⟩
theorem d6_0 : decode prog_14_method_2_code 0 = .ok (.new 8, 3) := by decide +kernel
theorem d6_3 : decode prog_14_method_2_code 3 = .ok (.dup, 1) := by decide +kernel
theorem d6_4 : decode prog_14_method_2_code 4 = .ok (.new 13, 3) := by decide +kernel
theorem d6_7 : decode prog_14_method_2_code 7 = .ok (.dup, 1) := by decide +kernel
theorem d6_8 : decode prog_14_method_2_code 8 = .ok (.aload_n 0, 1) := by decide +kernel
theorem d6_9 : decode prog_14_method_2_code 9 = .ok (.ldc 15, 2) := by decide +kernel
theorem d6_11 : decode prog_14_method_2_code 11 = .ok (.invokestatic 16, 3) := by decide +kernel
theorem pd_8 : parseMethodDescriptor "(Ljava/lang/Object;Ljava/lang/String;)Ljava/lang/Object;" = some ⟨[(.object "java/lang/Object"), (.object "java/lang/String")], some (.object "java/lang/Object")⟩ := by decide +kernel
theorem d6_14 : decode prog_14_method_2_code 14 = .ok (.checkcast 22, 3) := by decide +kernel
theorem d6_17 : decode prog_14_method_2_code 17 = .ok (.invokespecial 24, 3) := by decide +kernel
theorem pd_9 : parseMethodDescriptor "(Ljava/util/Collection;)V" = some ⟨[(.object "java/util/Collection")], none⟩ := by decide +kernel
theorem d6_20 : decode prog_14_method_2_code 20 = .ok (.invokespecial 27, 3) := by decide +kernel
theorem pd_10 : parseMethodDescriptor "(Ljava/util/List;)V" = some ⟨[(.object "java/util/List")], none⟩ := by decide +kernel
theorem d6_23 : decode prog_14_method_2_code 23 = .ok (.areturn, 1) := by decide +kernel
theorem ef_ct_of_0 (d0 : Addr) (kd : ClassId) (e0 : Addr) (mo : Addr) (ma : Addr) (a : Addr) (b : Addr) (kb : ClassId) (m : MethodId) : entryFrame m #[(.ref a)] 1 = mkF m 0 #[.val (.ref a)] [] := by first | (simp [entryFrame, mkF, argsToLocals, Value.category]; done) | rfl
set_option maxRecDepth 65536 in
set_option maxHeartbeats 4000000 in
theorem ct_of_0 {l : Launch} {Z : State} {a0 : Array Value} (G : Env1 Z a0) (d0 : Addr) (kd : ClassId) (e0 : Addr) (mo : Addr) (ma : Addr) (a : Addr) (b : Addr) (kb : ClassId) (h0 : Heap) (N : Pins Z d0 kd e0 mo ma) (Xa : Exa Z h0 a "java/util/ArrayList") (F1 : Fld Z h0 a "java/util/ArrayList" "elementData" "[Ljava/lang/Object;" (.ref b)) (F2 : Fld Z h0 a "java/util/ArrayList" "size" "I" (.int 0)) (Ab : Arv Z h0 b kb (.object "java/lang/Object") 0 [] .null) (Xb : Exa Z h0 b "[Ljava/lang/Object;") :
    Ct l Z EL1 [] [] (⟨"com/example/reify/reify/EdnList", "of", "(Ljava/util/List;)Lcom/example/reify/reify/EdnList;"⟩ : MethodName) prog_14_method_2_code 1 (some (.object "com/example/reify/reify/EdnList")) ({ frames := 5, cells := 5, slots := 41, locals := 75 } : Room) #[(.ref a)] h0 (fun v h => ∃ (e y : Addr), v = some (.ref e) ∧ Ext h0 h ∧ h0.size ≤ e ∧ h0.size ≤ y ∧ Exa Z h e "com/example/reify/reify/EdnList" ∧ Fld Z h e "com/example/reify/reify/EdnList" "elements" "Ljava/util/List;" (.ref y) ∧ Exa Z h y "java/util/ArrayList" ∧ Fld Z h y "java/util/ArrayList" "elementData" "[Ljava/lang/Object;" (.ref e0) ∧ Fld Z h y "java/util/ArrayList" "size" "I" (.int 0)) := by
  refine Ct.of_seg (a0 := a0) (plainFor_of_name pn_com_example_reify_reify_EdnList) G.2.1 (ef_ct_of_0 d0 kd e0 mo ma a b kb) ?_
  refine Seg.newO (wd G 38 rfl) (wd G 39 rfl) (wd G 36 rfl) d6_0 (pc' := 3) rfl (k' := 1) (n' := 2) rfl rfl (by decide) (by decide) ?_
  intro b_1 h_3 E_2 e_b_1 l_b_1 A_b_1 D_b_1
  have F_modCount_b_1 : Fld Z h_3 b_1 "java/util/AbstractList" "modCount" "I" (.int (0 : Int32)) := D_b_1 (Or.inl (wd G 98 rfl)) (ty := .int) (by decide)
  have F_elements_b_1 : Fld Z h_3 b_1 "com/example/reify/reify/EdnList" "elements" "Ljava/util/List;" Value.null := D_b_1 (Or.inr (wd G 100 rfl)) (ty := (.object "java/util/List")) (by decide)
  refine Seg.dup d6_3 rfl (pc' := 4) rfl ?_
  refine Seg.newO (wd G 40 rfl) (wd G 9 rfl) (wd G 10 rfl) d6_4 (pc' := 7) rfl (k' := 2) (n' := 5) rfl rfl (by decide) (by decide) ?_
  intro b_4 h_6 E_5 e_b_4 l_b_4 A_b_4 D_b_4
  have F_modCount_b_4 : Fld Z h_6 b_4 "java/util/AbstractList" "modCount" "I" (.int (0 : Int32)) := D_b_4 (Or.inl (wd G 30 rfl)) (ty := .int) (by decide)
  have F_elementData_b_4 : Fld Z h_6 b_4 "java/util/ArrayList" "elementData" "[Ljava/lang/Object;" Value.null := D_b_4 (Or.inl (wd G 33 rfl)) (ty := (.array (.object "java/lang/Object"))) (by decide)
  have F_size_b_4 : Fld Z h_6 b_4 "java/util/ArrayList" "size" "I" (.int (0 : Int32)) := D_b_4 (Or.inl (wd G 67 rfl)) (ty := .int) (by decide)
  refine Seg.dup d6_7 rfl (pc' := 8) rfl ?_
  refine Seg.aloadN d6_8 rfl rfl (pc' := 9) rfl ?_
  refine Seg.ldcO (text := "elements") (nn := 32) (wd G 41 rfl) (wS G) d6_9 (pc' := 11) rfl (by decide) (by decide) (k' := 4) (n' := 41) rfl rfl (by decide) (by decide) ?_
  intro a_7 h_9 E_8
  refine Seg.callS (y' := (⟨"java/util/Objects", "requireNonNull", "(Ljava/lang/Object;Ljava/lang/String;)Ljava/lang/Object;"⟩ : MethodName)) (wd G 49 rfl) (wd G 50 rfl) (wd G 51 rfl) (wd G 52 rfl) ⟨by decide, by decide⟩ (Pays.of_ct (W := 4) (ct_req G a a_7 h_9) all0 (wd G 52 rfl) (wd G 51 rfl) (by decide) (by decide) rfl rfl) (argsL := [(.ref a), (.ref a_7)]) (rest := [(.ref b_4), (.ref b_4), (.ref b_1), (.ref b_1)]) rfl (lenOf pd_8 rfl) rfl (Nat.le_of_eq rfl) rfl d6_11 (pc' := 14) rfl (k' := 4) (n' := 41) rfl rfl (by decide) (by decide) ?_
  intro v_10 h_13 sz_11 q_12
  obtain ⟨rfl, rfl⟩ := q_12
  have E_14 : Ext h0 h_6 := ext_tr E_2 E_5
  have E_15 : Ext h0 h_9 := ext_tr E_14 E_8
  have F_16 := Xa.ext E_15
  refine Seg.castY (wd G 53 rfl) (Ins.of_exa F_16 (wd G 54 rfl)) d6_14 (pc' := 17) rfl ?_
  have F_17 := A_b_4.ext E_8
  have F_18 := F_modCount_b_4.ext E_8
  have F_19 := F_elementData_b_4.ext E_8
  have F_20 := F_size_b_4.ext E_8
  have F_21 := F1.ext E_15
  have F_22 := F2.ext E_15
  have F_23 := Ab.ext E_15
  have F_24 := Xb.ext E_15
  refine Seg.callN (y' := (⟨"java/util/ArrayList", "<init>", "(Ljava/util/Collection;)V"⟩ : MethodName)) (a := b_4) rfl (wd G 55 rfl) (wd G 56 rfl) (wd G 57 rfl) ⟨by decide, by decide⟩ (Pays.of_ct (W := 3) (ct_ic_0 G d0 kd e0 mo ma b_4 a (.int 0) .null (.int 0) b kb h_9 N F_17 F_18 F_19 F_20 F_16 F_21 F_22 F_23 F_24 (Nat.ne_of_lt (Nat.lt_of_lt_of_le Xa.lt (Nat.le_trans E_2.1 (Nat.le_of_eq e_b_4)))) (Nat.ne_of_lt (Nat.lt_of_lt_of_le Xb.lt (Nat.le_trans E_2.1 (Nat.le_of_eq e_b_4))))) (allS (List.mem_of_getElem? (i := 0) rfl) all0) (wd G 57 rfl) (wd G 10 rfl) (by decide) (by decide) rfl rfl) (argsL := [(.ref a)]) (rest := [(.ref b_4), (.ref b_1), (.ref b_1)]) rfl (lenOf pd_9 rfl) rfl (Nat.le_of_eq rfl) rfl d6_17 (pc' := 20) rfl (k' := 5) (n' := 41) rfl rfl (by decide) (by decide) ?_
  intro v_25 h_28 sz_26 q_27
  obtain ⟨rfl, K1, J1, J2⟩ := q_27
  have E_29 : Ext h_3 h_9 := ext_tr E_5 E_8
  have E_30 : Ext h_3 h_28 := ext_kp E_29 K1 (allS (Nat.le_trans (ext_rfl _).1 (Nat.le_of_eq e_b_4)) all0)
  have F_31 := A_b_1.ext E_30
  have F_32 := F_modCount_b_1.ext E_30
  have F_33 := F_elements_b_1.ext E_30
  refine Seg.callN (y' := (⟨"com/example/reify/reify/EdnList", "<init>", "(Ljava/util/List;)V"⟩ : MethodName)) (a := b_1) rfl (wd G 93 rfl) (wd G 94 rfl) (wd G 95 rfl) ⟨by decide, by decide⟩ (Pays.of_ct (W := 1) (ct_ei G b_1 b_4 (.int 0) .null h_28 F_31 F_32 F_33) (allS (List.mem_of_getElem? (i := 1) rfl) all0) (wd G 95 rfl) (wd G 36 rfl) (by decide) (by decide) rfl rfl) (argsL := [(.ref b_4)]) (rest := [(.ref b_1)]) rfl (lenOf pd_10 rfl) rfl (Nat.le_of_eq rfl) rfl d6_20 (pc' := 23) rfl (k' := 5) (n' := 41) rfl rfl (by decide) (by decide) ?_
  intro v_34 h_37 sz_35 q_36
  obtain ⟨rfl, K2, L1⟩ := q_36
  have E_38 : Ext h0 h_28 := ext_kp E_15 K1 (allS (Nat.le_trans E_2.1 (Nat.le_of_eq e_b_4)) all0)
  have E_39 : Ext h0 h_37 := ext_kp E_38 K2 (allS (Nat.le_trans (ext_rfl _).1 (Nat.le_of_eq e_b_1)) all0)
  have F_40 := (F_31.keep K2)
  have F_41 := ((F_17.keep K1).keep K2)
  have F_42 := (J1.keep K2 (ninS (Nat.ne_of_gt (Nat.lt_of_lt_of_le l_b_1 (Nat.le_trans (Nat.le_refl _) (Nat.le_of_eq e_b_4)))) nin0))
  have F_43 := (J2.keep K2 (ninS (Nat.ne_of_gt (Nat.lt_of_lt_of_le l_b_1 (Nat.le_trans (Nat.le_refl _) (Nat.le_of_eq e_b_4)))) nin0))
  exact Seg.retA rfl rfl rfl d6_23 (by decide) (by decide) ⟨b_1, b_4, rfl, E_39, (Nat.le_trans (ext_rfl _).1 (Nat.le_of_eq e_b_1)), (Nat.le_trans E_2.1 (Nat.le_of_eq e_b_4)), F_40, L1, F_41, F_42, F_43⟩
theorem ef_ct_cpo3_1 (d0 : Addr) (kd : ClassId) (e0 : Addr) (mo : Addr) (ma : Addr) (b : Addr) (kb : ClassId) (v0 : Value) (m : MethodId) : entryFrame m #[(.ref b), (.int (1 : Int32)), (.ref mo)] 4 = mkF m 0 #[.val (.ref b), .val (.int (1 : Int32)), .val (.ref mo), .unset] [] := by first | (simp [entryFrame, mkF, argsToLocals, Value.category]; done) | rfl
set_option maxRecDepth 65536 in
set_option maxHeartbeats 4000000 in
theorem ct_cpo3_1 {l : Launch} {Z : State} {a0 : Array Value} (G : Env1 Z a0) (d0 : Addr) (kd : ClassId) (e0 : Addr) (mo : Addr) (ma : Addr) (b : Addr) (kb : ClassId) (v0 : Value) (h0 : Heap) (N : Pins Z d0 kd e0 mo ma) (Ab : Arv Z h0 b kb (.object "java/lang/Object") 10 [v0, .null, .null, .null, .null, .null, .null, .null, .null, .null] .null) (i0 : IoN Z h0 v0) :
    Ct l Z EL1 [] [] (⟨"java/util/Arrays", "copyOf", "([Ljava/lang/Object;ILjava/lang/Class;)[Ljava/lang/Object;"⟩ : MethodName) jdk_65_method_120_code 4 (some (.array (.object "java/lang/Object"))) ({ frames := 1, cells := 1, slots := 1, locals := 18 } : Room) #[(.ref b), (.int (1 : Int32)), (.ref mo)] h0 (fun v h => ∃ (r : Addr) (kr : ClassId), v = some (.ref r) ∧ Ext h0 h ∧ h0.size ≤ r ∧ Arv Z h r kr (.object "java/lang/Object") 1 [v0] .null) := by
  refine Ct.of_seg (a0 := a0) (plainFor_of_name pn_java_util_Arrays) G.2.1 (ef_ct_cpo3_1 d0 kd e0 mo ma b kb v0) ?_
  refine Seg.aloadN d11_0 rfl rfl (pc' := 1) rfl ?_
  refine Seg.ldcM (wd G 81 rfl) N.2.2.2.2.1 d11_1 (pc' := 3) rfl ?_
  refine Seg.acN d11_3 rfl rfl (XT.aa_ne_f rfl) (pc' := 6) rfl ?_
  refine Seg.iloadN d11_6 rfl (pc' := 7) rfl ?_
  refine Seg.newR (ad := "[Ljava/lang/Object;") (wd G 82 rfl) (wd G 83 rfl) (by decide) d11_7 (pc' := 10) rfl (by decide) (cap := 1) (by decide) (by decide) (k' := 1) (n' := 1) rfl rfl (by decide) (by decide) ?_
  intro b_1 h_3 k_b_1 E_2 e_b_1 l_b_1 A_b_1 X_b_1 O_b_1
  replace A_b_1 : Arv Z h_3 b_1 k_b_1 (.object "java/lang/Object") (1 : Int32) [Value.null] .null := A_b_1.pad (pad_rep [] .null 1)
  refine Seg.goto (pc' := 24) d11_10 (by decide) (by decide) ?_
  refine Seg.astoreN (L' := #[.val (.ref b), .val (.int (1 : Int32)), .val (.ref mo), .val (.ref b_1)]) d11_24 rfl rfl (pc' := 25) rfl ?_
  refine Seg.aloadN d11_25 rfl rfl (pc' := 26) rfl ?_
  refine Seg.iconst (v := 0) d11_26 (by decide) (pc' := 27) rfl ?_
  refine Seg.aloadN d11_27 rfl rfl (pc' := 28) rfl ?_
  refine Seg.iconst (v := 0) d11_28 (by decide) (pc' := 29) rfl ?_
  refine Seg.aloadN d11_29 rfl rfl (pc' := 30) rfl ?_
  have F_4 := Ab.ext E_2
  refine Seg.alen F_4 d11_30 (pc' := 31) rfl ?_
  refine Seg.iloadN d11_31 rfl (pc' := 32) rfl ?_
  refine Seg.callS (y' := (⟨"java/lang/Math", "min", "(II)I"⟩ : MethodName)) (wd G 84 rfl) (wd G 85 rfl) (wd G 86 rfl) (wd G 87 rfl) ⟨by decide, by decide⟩ (Pays.of_ct (W := 4) (ct_min1 G  h_3) all0 (wd G 87 rfl) (wd G 86 rfl) (by decide) (by decide) rfl rfl) (argsL := [(.int (10 : Int32)), (.int (1 : Int32))]) (rest := [(.int (0 : Int32)), (.ref b_1), (.int (0 : Int32)), (.ref b)]) rfl (lenOf pd_2 rfl) rfl (Nat.le_of_eq rfl) rfl d11_32 (pc' := 35) rfl (k' := 1) (n' := 1) rfl rfl (by decide) (by decide) ?_
  intro v_5 h_8 sz_6 q_7
  obtain ⟨rfl, rfl⟩ := q_7
  have F_9 := i0.ext E_2
  refine Seg.cpA (us := [v0]) (vr := [v0]) (wd G 88 rfl) (wd G 91 rfl) (wd G 89 rfl) (wd G 90 rfl) F_4 A_b_1 (Or.inr ⟨rfl, rfl, ⟨(F_9.sto A_b_1 O_b_1 (wd G 127 rfl)), trivial⟩⟩) (by decide) (by decide) (by decide) (by decide) (by decide) rfl (by decide) rfl (List.mem_of_getElem? (i := 0) rfl) rfl d11_35 (pc' := 38) rfl (by decide) (W := 0) (Nat.le_of_eq rfl) (by decide) ?_
  intro h_12 K_10 A_11
  refine Seg.aloadN d11_38 rfl rfl (pc' := 39) rfl ?_
  have E_13 : Ext h0 h_12 := ext_kp E_2 K_10 (allS (Nat.le_trans (ext_rfl _).1 (Nat.le_of_eq e_b_1)) all0)
  exact Seg.retA rfl rfl rfl d11_39 (by decide) (by decide) ⟨b_1, k_b_1, rfl, E_13, (Nat.le_trans (ext_rfl _).1 (Nat.le_of_eq e_b_1)), A_11⟩
theorem ef_ct_cpo2_1 (d0 : Addr) (kd : ClassId) (e0 : Addr) (mo : Addr) (ma : Addr) (b : Addr) (kb : ClassId) (v0 : Value) (m : MethodId) : entryFrame m #[(.ref b), (.int (1 : Int32))] 2 = mkF m 0 #[.val (.ref b), .val (.int (1 : Int32))] [] := by first | (simp [entryFrame, mkF, argsToLocals, Value.category]; done) | rfl
set_option maxRecDepth 65536 in
set_option maxHeartbeats 4000000 in
theorem ct_cpo2_1 {l : Launch} {Z : State} {a0 : Array Value} (G : Env1 Z a0) (d0 : Addr) (kd : ClassId) (e0 : Addr) (mo : Addr) (ma : Addr) (b : Addr) (kb : ClassId) (v0 : Value) (h0 : Heap) (N : Pins Z d0 kd e0 mo ma) (Ab : Arv Z h0 b kb (.object "java/lang/Object") 10 [v0, .null, .null, .null, .null, .null, .null, .null, .null, .null] .null) (Xb : Exa Z h0 b "[Ljava/lang/Object;") (i0 : IoN Z h0 v0) :
    Ct l Z EL1 [] [] (⟨"java/util/Arrays", "copyOf", "([Ljava/lang/Object;I)[Ljava/lang/Object;"⟩ : MethodName) jdk_65_method_119_code 2 (some (.array (.object "java/lang/Object"))) ({ frames := 2, cells := 1, slots := 1, locals := 33 } : Room) #[(.ref b), (.int (1 : Int32))] h0 (fun v h => ∃ (r : Addr) (kr : ClassId), v = some (.ref r) ∧ Ext h0 h ∧ h0.size ≤ r ∧ Arv Z h r kr (.object "java/lang/Object") 1 [v0] .null) := by
  refine Ct.of_seg (a0 := a0) (plainFor_of_name pn_java_util_Arrays) G.2.1 (ef_ct_cpo2_1 d0 kd e0 mo ma b kb v0) ?_
  refine Seg.aloadN d10_0 rfl rfl (pc' := 1) rfl ?_
  refine Seg.iloadN d10_1 rfl (pc' := 2) rfl ?_
  refine Seg.aloadN d10_2 rfl rfl (pc' := 3) rfl ?_
  refine Seg.getC (wd G 72 rfl) (wd G 73 rfl) (nf_sel (wd G 75 rfl)) (wd G 75 rfl) (wd G 74 rfl) (wd G 76 rfl) Xb N.2.2.2.2.1 rfl d10_3 (pc' := 6) rfl (by decide) (W := 2) (Nat.le_of_eq rfl) (by decide) ?_
  refine Seg.callS (y' := (⟨"java/util/Arrays", "copyOf", "([Ljava/lang/Object;ILjava/lang/Class;)[Ljava/lang/Object;"⟩ : MethodName)) (wd G 78 rfl) (wd G 79 rfl) (wd G 70 rfl) (wd G 80 rfl) ⟨by decide, by decide⟩ (Pays.of_ct (W := 0) (ct_cpo3_1 G d0 kd e0 mo ma b kb v0 h0 N Ab i0) all0 (wd G 80 rfl) (wd G 70 rfl) (by decide) (by decide) rfl rfl) (argsL := [(.ref b), (.int (1 : Int32)), (.ref mo)]) (rest := []) rfl (lenOf pd_6 rfl) rfl (Nat.le_of_eq rfl) rfl d10_6 (pc' := 9) rfl (k' := 1) (n' := 1) rfl rfl (by decide) (by decide) ?_
  intro v_1 h_4 sz_2 q_3
  obtain ⟨r, kr, rfl, E1, g1, A1⟩ := q_3
  exact Seg.retA rfl rfl rfl d10_9 (by decide) (by decide) ⟨r, kr, rfl, E1, g1, A1⟩
theorem ef_ct_ta_1 (d0 : Addr) (kd : ClassId) (e0 : Addr) (mo : Addr) (ma : Addr) (a : Addr) (b : Addr) (kb : ClassId) (v0 : Value) (m : MethodId) : entryFrame m #[(.ref a)] 1 = mkF m 0 #[.val (.ref a)] [] := by first | (simp [entryFrame, mkF, argsToLocals, Value.category]; done) | rfl
set_option maxRecDepth 65536 in
set_option maxHeartbeats 4000000 in
theorem ct_ta_1 {l : Launch} {Z : State} {a0 : Array Value} (G : Env1 Z a0) (d0 : Addr) (kd : ClassId) (e0 : Addr) (mo : Addr) (ma : Addr) (a : Addr) (b : Addr) (kb : ClassId) (v0 : Value) (h0 : Heap) (N : Pins Z d0 kd e0 mo ma) (F1 : Fld Z h0 a "java/util/ArrayList" "elementData" "[Ljava/lang/Object;" (.ref b)) (F2 : Fld Z h0 a "java/util/ArrayList" "size" "I" (.int 1)) (Ab : Arv Z h0 b kb (.object "java/lang/Object") 10 [v0, .null, .null, .null, .null, .null, .null, .null, .null, .null] .null) (Xb : Exa Z h0 b "[Ljava/lang/Object;") (i0 : IoN Z h0 v0) :
    Ct l Z EL1 [] [] (⟨"java/util/ArrayList", "toArray", "()[Ljava/lang/Object;"⟩ : MethodName) jdk_38_method_16_code 1 (some (.array (.object "java/lang/Object"))) ({ frames := 3, cells := 1, slots := 1, locals := 46 } : Room) #[(.ref a)] h0 (fun v h => ∃ (r : Addr) (kr : ClassId), v = some (.ref r) ∧ Ext h0 h ∧ h0.size ≤ r ∧ Arv Z h r kr (.object "java/lang/Object") 1 [v0] .null) := by
  refine Ct.of_seg (a0 := a0) (plainFor_of_name pn_java_util_ArrayList) G.2.1 (ef_ct_ta_1 d0 kd e0 mo ma a b kb v0) ?_
  refine Seg.aloadN d9_0 rfl rfl (pc' := 1) rfl ?_
  refine Seg.getF (host := "") (Or.inl (wd G 32 rfl)) Via.refl F1 d9_1 (pc' := 4) rfl ?_
  refine Seg.aloadN d9_4 rfl rfl (pc' := 5) rfl ?_
  refine Seg.getF (host := "") (Or.inl (wd G 66 rfl)) Via.refl F2 d9_5 (pc' := 8) rfl ?_
  refine Seg.callS (y' := (⟨"java/util/Arrays", "copyOf", "([Ljava/lang/Object;I)[Ljava/lang/Object;"⟩ : MethodName)) (wd G 68 rfl) (wd G 69 rfl) (wd G 70 rfl) (wd G 71 rfl) ⟨by decide, by decide⟩ (Pays.of_ct (W := 0) (ct_cpo2_1 G d0 kd e0 mo ma b kb v0 h0 N Ab Xb i0) all0 (wd G 71 rfl) (wd G 70 rfl) (by decide) (by decide) rfl rfl) (argsL := [(.ref b), (.int (1 : Int32))]) (rest := []) rfl (lenOf pd_7 rfl) rfl (Nat.le_of_eq rfl) rfl d9_8 (pc' := 11) rfl (k' := 1) (n' := 1) rfl rfl (by decide) (by decide) ?_
  intro v_1 h_4 sz_2 q_3
  obtain ⟨r, kr, rfl, E1, g1, A1⟩ := q_3
  exact Seg.retA rfl rfl rfl d9_11 (by decide) (by decide) ⟨r, kr, rfl, E1, g1, A1⟩
theorem d8_21 : decode jdk_38_method_3_code 21 = .ok (.aload_n 1, 1) := by decide +kernel
theorem d8_22 : decode jdk_38_method_3_code 22 = .ok (.invokeinterface 52 1, 5) := by decide +kernel
theorem d8_27 : decode jdk_38_method_3_code 27 = .ok (.ldc 10, 2) := by decide +kernel
theorem d8_29 : decode jdk_38_method_3_code 29 = .ok (.if_acmp .ne 11, 3) := by decide +kernel
theorem d8_32 : decode jdk_38_method_3_code 32 = .ok (.aload_n 0, 1) := by decide +kernel
theorem d8_33 : decode jdk_38_method_3_code 33 = .ok (.aload_n 2, 1) := by decide +kernel
theorem d8_34 : decode jdk_38_method_3_code 34 = .ok (.putfield 9, 3) := by decide +kernel
theorem d8_37 : decode jdk_38_method_3_code 37 = .ok (.goto 27, 3) := by decide +kernel
theorem ef_ct_ic_1 (d0 : Addr) (kd : ClassId) (e0 : Addr) (mo : Addr) (ma : Addr) (x : Addr) (a : Addr) (o0 : Value) (o1 : Value) (o2 : Value) (b : Addr) (kb : ClassId) (v0 : Value) (m : MethodId) : entryFrame m #[(.ref x), (.ref a)] 3 = mkF m 0 #[.val (.ref x), .val (.ref a), .unset] [] := by first | (simp [entryFrame, mkF, argsToLocals, Value.category]; done) | rfl
set_option maxRecDepth 65536 in
set_option maxHeartbeats 4000000 in
theorem ct_ic_1 {l : Launch} {Z : State} {a0 : Array Value} (G : Env1 Z a0) (d0 : Addr) (kd : ClassId) (e0 : Addr) (mo : Addr) (ma : Addr) (x : Addr) (a : Addr) (o0 : Value) (o1 : Value) (o2 : Value) (b : Addr) (kb : ClassId) (v0 : Value) (h0 : Heap) (N : Pins Z d0 kd e0 mo ma) (A : Exa Z h0 x "java/util/ArrayList") (H0 : Fld Z h0 x "java/util/AbstractList" "modCount" "I" o0) (H1 : Fld Z h0 x "java/util/ArrayList" "elementData" "[Ljava/lang/Object;" o1) (H2 : Fld Z h0 x "java/util/ArrayList" "size" "I" o2) (Xa : Exa Z h0 a "java/util/ArrayList") (F1 : Fld Z h0 a "java/util/ArrayList" "elementData" "[Ljava/lang/Object;" (.ref b)) (F2 : Fld Z h0 a "java/util/ArrayList" "size" "I" (.int 1)) (Ab : Arv Z h0 b kb (.object "java/lang/Object") 10 [v0, .null, .null, .null, .null, .null, .null, .null, .null, .null] .null) (Xb : Exa Z h0 b "[Ljava/lang/Object;") (i0 : IoN Z h0 v0) (nax : a ≠ x) (nbx : b ≠ x) :
    Ct l Z EL1 [x] [] (⟨"java/util/ArrayList", "<init>", "(Ljava/util/Collection;)V"⟩ : MethodName) jdk_38_method_3_code 3 none ({ frames := 4, cells := 1, slots := 1, locals := 58 } : Room) #[(.ref x), (.ref a)] h0 (fun v h => v = none ∧ ∃ (r : Addr) (kr : ClassId), h0.size ≤ r ∧ Keep h0 h [x] ∧ Fld Z h x "java/util/ArrayList" "elementData" "[Ljava/lang/Object;" (.ref r) ∧ Fld Z h x "java/util/ArrayList" "size" "I" (.int 1) ∧ Arv Z h r kr (.object "java/lang/Object") 1 [v0] .null) := by
  refine Ct.of_seg (a0 := a0) (plainFor_of_name pn_java_util_ArrayList) G.2.1 (ef_ct_ic_1 d0 kd e0 mo ma x a o0 o1 o2 b kb v0) ?_
  refine Seg.aloadN d8_0 rfl rfl (pc' := 1) rfl ?_
  refine Seg.callN (y' := (⟨"java/util/AbstractList", "<init>", "()V"⟩ : MethodName)) (a := x) rfl (wd G 14 rfl) (wd G 15 rfl) (wd G 19 rfl) ⟨by decide, by decide⟩ (Pays.of_ct (W := 0) (ct_abA G x o0 o1 o2 h0 A H0 H1 H2) (allS (List.mem_of_getElem? (i := 0) rfl) all0) (wd G 19 rfl) (wd G 18 rfl) (by decide) (by decide) rfl rfl) (argsL := []) (rest := []) rfl (lenOf pd_0 rfl) rfl (Nat.le_of_eq rfl) rfl d8_1 (pc' := 4) rfl (k' := 0) (n' := 0) rfl rfl (by decide) (by decide) ?_
  intro v_1 h_4 sz_2 q_3
  obtain ⟨rfl, K1, G0, G1, G2⟩ := q_3
  refine Seg.aloadN d8_4 rfl rfl (pc' := 5) rfl ?_
  have F_5 := (F1.keep K1 (ninS nax nin0))
  have F_6 := (F2.keep K1 (ninS nax nin0))
  have F_7 := (Ab.keep K1 (ninS nbx nin0))
  have F_8 := (Xb.keep K1)
  have F_9 := (i0.keep K1)
  have F_10 := (Xa.keep K1)
  refine Seg.callI (y' := (⟨"java/util/Collection", "toArray", "()[Ljava/lang/Object;"⟩ : MethodName)) (z := (⟨"java/util/ArrayList", "toArray", "()[Ljava/lang/Object;"⟩ : MethodName)) (a := a) (wd G 58 rfl) (wd G 59 rfl) (wd G 60 rfl) rfl (wd G 61 rfl) (wd G 62 rfl) (wd G 63 rfl) (wd G 64 rfl) (wd G 54 rfl) ⟨by decide, by decide⟩ F_10 (Pays.of_ct (W := 0) (ct_ta_1 G d0 kd e0 mo ma a b kb v0 h_4 N F_5 F_6 F_7 F_8 F_9) all0 (wd G 65 rfl) (wd G 10 rfl) (by decide) (by decide) rfl rfl) (argsL := []) (rest := []) rfl (lenOf pd_4 rfl) rfl (Nat.le_of_eq rfl) rfl d8_5 (pc' := 10) rfl (k' := 1) (n' := 1) rfl rfl (by decide) (by decide) ?_
  intro v_11 h_14 sz_12 q_13
  obtain ⟨r, kr, rfl, E1, g1, A1⟩ := q_13
  have nrx : r ≠ x := Nat.ne_of_gt (Nat.lt_of_lt_of_le A.lt (Nat.le_trans K1.1 g1))
  refine Seg.astoreN (L' := #[.val (.ref x), .val (.ref a), .val (.ref r)]) d8_10 rfl rfl (pc' := 11) rfl ?_
  refine Seg.aloadN d8_11 rfl rfl (pc' := 12) rfl ?_
  refine Seg.aloadN d8_12 rfl rfl (pc' := 13) rfl ?_
  refine Seg.alen A1 d8_13 (pc' := 14) rfl ?_
  refine Seg.dupX1 d8_14 rfl rfl (pc' := 15) rfl ?_
  have F_15 := G2.ext E1
  have F_16 := ((A.keep K1).ext E1)
  refine Seg.putF (host := "") (ty := .int) (v' := (.int (1 : Int32))) (wd G 66 rfl) Via.refl F_15 F_16 (Or.inl (wd G 67 rfl)) (wd G 9 rfl) (by decide) rfl rfl (List.mem_of_getElem? (i := 0) rfl) d8_15 (pc' := 18) rfl ?_
  intro h_19 W_17 F_18
  refine Seg.ifN d8_18 (by decide) (pc' := 21) rfl ?_
  refine Seg.aloadN d8_21 rfl rfl (pc' := 22) rfl ?_
  have F_20 := ((F_10.ext E1).wr W_17)
  refine Seg.getCI (xi := (⟨"java/util/Collection", "getClass", "()Ljava/lang/Class;"⟩ : MethodName)) (wd G 142 rfl) (wd G 73 rfl) (wd G 143 rfl) (wd G 144 rfl) (wd G 74 rfl) (wd G 145 rfl) (wd G 146 rfl) (wd G 54 rfl) (wd G 76 rfl) ⟨by decide, by decide⟩ (by decide) rfl rfl F_20 N.2.2.2.2.2 rfl d8_22 (pc' := 27) rfl (by decide) (W := 0) (Nat.le_of_eq rfl) (by decide) ?_
  refine Seg.ldcM (wd G 148 rfl) N.2.2.2.2.2 d8_27 (pc' := 29) rfl ?_
  refine Seg.acN d8_29 rfl rfl (XT.aa_ne_f rfl) (pc' := 32) rfl ?_
  refine Seg.aloadN d8_32 rfl rfl (pc' := 33) rfl ?_
  refine Seg.aloadN d8_33 rfl rfl (pc' := 34) rfl ?_
  have F_21 := ((G1.ext E1).other W_17 (Or.inr (slot_ne (Or.inl (wd G 33 rfl)) (Or.inl (wd G 67 rfl)) (by decide) (t := (.array (.object "java/lang/Object"))) (t' := .int) (by decide) (by decide))))
  have F_22 := (F_16.wr W_17)
  refine Seg.putF (host := "") (ty := (.array (.object "java/lang/Object"))) (v' := (.ref r)) (wd G 32 rfl) Via.refl F_21 F_22 (Or.inl (wd G 33 rfl)) (wd G 9 rfl) (by decide) rfl rfl (List.mem_of_getElem? (i := 0) rfl) d8_34 (pc' := 37) rfl ?_
  intro h_25 W_23 F_24
  refine Seg.goto (pc' := 64) d8_37 (by decide) (by decide) ?_
  have F_26 := (F_18.other W_23 (Or.inr (slot_ne (Or.inl (wd G 67 rfl)) (Or.inl (wd G 33 rfl)) (by decide) (t := .int) (t' := (.array (.object "java/lang/Object"))) (by decide) (by decide))))
  have F_27 := ((A1.keep (Keep.of_wr W_17) (ninS nrx nin0)).keep (Keep.of_wr W_23) (ninS nrx nin0))
  exact Seg.ret0 rfl d8_64 (by decide) (by decide) ⟨rfl, r, kr, (Nat.le_trans K1.1 g1), (((((Keep.refl h0 [x]).trans K1 (allS (Or.inl (List.mem_of_getElem? (i := 0) rfl)) all0)).ext E1).wr W_17 (Or.inl (List.mem_of_getElem? (i := 0) rfl))).wr W_23 (Or.inl (List.mem_of_getElem? (i := 0) rfl))), F_24, F_26, F_27⟩
theorem ef_ct_of_1 (d0 : Addr) (kd : ClassId) (e0 : Addr) (mo : Addr) (ma : Addr) (a : Addr) (b : Addr) (kb : ClassId) (v0 : Value) (m : MethodId) : entryFrame m #[(.ref a)] 1 = mkF m 0 #[.val (.ref a)] [] := by first | (simp [entryFrame, mkF, argsToLocals, Value.category]; done) | rfl
set_option maxRecDepth 65536 in
set_option maxHeartbeats 4000000 in
theorem ct_of_1 {l : Launch} {Z : State} {a0 : Array Value} (G : Env1 Z a0) (d0 : Addr) (kd : ClassId) (e0 : Addr) (mo : Addr) (ma : Addr) (a : Addr) (b : Addr) (kb : ClassId) (v0 : Value) (h0 : Heap) (N : Pins Z d0 kd e0 mo ma) (Xa : Exa Z h0 a "java/util/ArrayList") (F1 : Fld Z h0 a "java/util/ArrayList" "elementData" "[Ljava/lang/Object;" (.ref b)) (F2 : Fld Z h0 a "java/util/ArrayList" "size" "I" (.int 1)) (Ab : Arv Z h0 b kb (.object "java/lang/Object") 10 [v0, .null, .null, .null, .null, .null, .null, .null, .null, .null] .null) (Xb : Exa Z h0 b "[Ljava/lang/Object;") (i0 : IoN Z h0 v0) :
    Ct l Z EL1 [] [] (⟨"com/example/reify/reify/EdnList", "of", "(Ljava/util/List;)Lcom/example/reify/reify/EdnList;"⟩ : MethodName) prog_14_method_2_code 1 (some (.object "com/example/reify/reify/EdnList")) ({ frames := 5, cells := 5, slots := 42, locals := 75 } : Room) #[(.ref a)] h0 (fun v h => ∃ (e y : Addr) (r : Addr) (kr : ClassId), v = some (.ref e) ∧ Ext h0 h ∧ h0.size ≤ e ∧ h0.size ≤ y ∧ h0.size ≤ r ∧ Exa Z h e "com/example/reify/reify/EdnList" ∧ Fld Z h e "com/example/reify/reify/EdnList" "elements" "Ljava/util/List;" (.ref y) ∧ Exa Z h y "java/util/ArrayList" ∧ Fld Z h y "java/util/ArrayList" "elementData" "[Ljava/lang/Object;" (.ref r) ∧ Fld Z h y "java/util/ArrayList" "size" "I" (.int 1) ∧ Arv Z h r kr (.object "java/lang/Object") 1 [v0] .null) := by
  refine Ct.of_seg (a0 := a0) (plainFor_of_name pn_com_example_reify_reify_EdnList) G.2.1 (ef_ct_of_1 d0 kd e0 mo ma a b kb v0) ?_
  refine Seg.newO (wd G 38 rfl) (wd G 39 rfl) (wd G 36 rfl) d6_0 (pc' := 3) rfl (k' := 1) (n' := 2) rfl rfl (by decide) (by decide) ?_
  intro b_1 h_3 E_2 e_b_1 l_b_1 A_b_1 D_b_1
  have F_modCount_b_1 : Fld Z h_3 b_1 "java/util/AbstractList" "modCount" "I" (.int (0 : Int32)) := D_b_1 (Or.inl (wd G 98 rfl)) (ty := .int) (by decide)
  have F_elements_b_1 : Fld Z h_3 b_1 "com/example/reify/reify/EdnList" "elements" "Ljava/util/List;" Value.null := D_b_1 (Or.inr (wd G 100 rfl)) (ty := (.object "java/util/List")) (by decide)
  refine Seg.dup d6_3 rfl (pc' := 4) rfl ?_
  refine Seg.newO (wd G 40 rfl) (wd G 9 rfl) (wd G 10 rfl) d6_4 (pc' := 7) rfl (k' := 2) (n' := 5) rfl rfl (by decide) (by decide) ?_
  intro b_4 h_6 E_5 e_b_4 l_b_4 A_b_4 D_b_4
  have F_modCount_b_4 : Fld Z h_6 b_4 "java/util/AbstractList" "modCount" "I" (.int (0 : Int32)) := D_b_4 (Or.inl (wd G 30 rfl)) (ty := .int) (by decide)
  have F_elementData_b_4 : Fld Z h_6 b_4 "java/util/ArrayList" "elementData" "[Ljava/lang/Object;" Value.null := D_b_4 (Or.inl (wd G 33 rfl)) (ty := (.array (.object "java/lang/Object"))) (by decide)
  have F_size_b_4 : Fld Z h_6 b_4 "java/util/ArrayList" "size" "I" (.int (0 : Int32)) := D_b_4 (Or.inl (wd G 67 rfl)) (ty := .int) (by decide)
  refine Seg.dup d6_7 rfl (pc' := 8) rfl ?_
  refine Seg.aloadN d6_8 rfl rfl (pc' := 9) rfl ?_
  refine Seg.ldcO (text := "elements") (nn := 32) (wd G 41 rfl) (wS G) d6_9 (pc' := 11) rfl (by decide) (by decide) (k' := 4) (n' := 41) rfl rfl (by decide) (by decide) ?_
  intro a_7 h_9 E_8
  refine Seg.callS (y' := (⟨"java/util/Objects", "requireNonNull", "(Ljava/lang/Object;Ljava/lang/String;)Ljava/lang/Object;"⟩ : MethodName)) (wd G 49 rfl) (wd G 50 rfl) (wd G 51 rfl) (wd G 52 rfl) ⟨by decide, by decide⟩ (Pays.of_ct (W := 4) (ct_req G a a_7 h_9) all0 (wd G 52 rfl) (wd G 51 rfl) (by decide) (by decide) rfl rfl) (argsL := [(.ref a), (.ref a_7)]) (rest := [(.ref b_4), (.ref b_4), (.ref b_1), (.ref b_1)]) rfl (lenOf pd_8 rfl) rfl (Nat.le_of_eq rfl) rfl d6_11 (pc' := 14) rfl (k' := 4) (n' := 41) rfl rfl (by decide) (by decide) ?_
  intro v_10 h_13 sz_11 q_12
  obtain ⟨rfl, rfl⟩ := q_12
  have E_14 : Ext h0 h_6 := ext_tr E_2 E_5
  have E_15 : Ext h0 h_9 := ext_tr E_14 E_8
  have F_16 := Xa.ext E_15
  refine Seg.castY (wd G 53 rfl) (Ins.of_exa F_16 (wd G 54 rfl)) d6_14 (pc' := 17) rfl ?_
  have F_17 := A_b_4.ext E_8
  have F_18 := F_modCount_b_4.ext E_8
  have F_19 := F_elementData_b_4.ext E_8
  have F_20 := F_size_b_4.ext E_8
  have F_21 := F1.ext E_15
  have F_22 := F2.ext E_15
  have F_23 := Ab.ext E_15
  have F_24 := Xb.ext E_15
  have F_25 := i0.ext E_15
  refine Seg.callN (y' := (⟨"java/util/ArrayList", "<init>", "(Ljava/util/Collection;)V"⟩ : MethodName)) (a := b_4) rfl (wd G 55 rfl) (wd G 56 rfl) (wd G 57 rfl) ⟨by decide, by decide⟩ (Pays.of_ct (W := 3) (ct_ic_1 G d0 kd e0 mo ma b_4 a (.int 0) .null (.int 0) b kb v0 h_9 N F_17 F_18 F_19 F_20 F_16 F_21 F_22 F_23 F_24 F_25 (Nat.ne_of_lt (Nat.lt_of_lt_of_le Xa.lt (Nat.le_trans E_2.1 (Nat.le_of_eq e_b_4)))) (Nat.ne_of_lt (Nat.lt_of_lt_of_le Xb.lt (Nat.le_trans E_2.1 (Nat.le_of_eq e_b_4))))) (allS (List.mem_of_getElem? (i := 0) rfl) all0) (wd G 57 rfl) (wd G 10 rfl) (by decide) (by decide) rfl rfl) (argsL := [(.ref a)]) (rest := [(.ref b_4), (.ref b_1), (.ref b_1)]) rfl (lenOf pd_9 rfl) rfl (Nat.le_of_eq rfl) rfl d6_17 (pc' := 20) rfl (k' := 5) (n' := 42) rfl rfl (by decide) (by decide) ?_
  intro v_26 h_29 sz_27 q_28
  obtain ⟨rfl, r, kr, g1, K1, J1, J2, J3⟩ := q_28
  have E_30 : Ext h_3 h_9 := ext_tr E_5 E_8
  have E_31 : Ext h_3 h_29 := ext_kp E_30 K1 (allS (Nat.le_trans (ext_rfl _).1 (Nat.le_of_eq e_b_4)) all0)
  have F_32 := A_b_1.ext E_31
  have F_33 := F_modCount_b_1.ext E_31
  have F_34 := F_elements_b_1.ext E_31
  refine Seg.callN (y' := (⟨"com/example/reify/reify/EdnList", "<init>", "(Ljava/util/List;)V"⟩ : MethodName)) (a := b_1) rfl (wd G 93 rfl) (wd G 94 rfl) (wd G 95 rfl) ⟨by decide, by decide⟩ (Pays.of_ct (W := 1) (ct_ei G b_1 b_4 (.int 0) .null h_29 F_32 F_33 F_34) (allS (List.mem_of_getElem? (i := 1) rfl) all0) (wd G 95 rfl) (wd G 36 rfl) (by decide) (by decide) rfl rfl) (argsL := [(.ref b_4)]) (rest := [(.ref b_1)]) rfl (lenOf pd_10 rfl) rfl (Nat.le_of_eq rfl) rfl d6_20 (pc' := 23) rfl (k' := 5) (n' := 42) rfl rfl (by decide) (by decide) ?_
  intro v_35 h_38 sz_36 q_37
  obtain ⟨rfl, K2, L1⟩ := q_37
  have E_39 : Ext h0 h_29 := ext_kp E_15 K1 (allS (Nat.le_trans E_2.1 (Nat.le_of_eq e_b_4)) all0)
  have E_40 : Ext h0 h_38 := ext_kp E_39 K2 (allS (Nat.le_trans (ext_rfl _).1 (Nat.le_of_eq e_b_1)) all0)
  have F_41 := (F_32.keep K2)
  have F_42 := ((F_17.keep K1).keep K2)
  have F_43 := (J1.keep K2 (ninS (Nat.ne_of_gt (Nat.lt_of_lt_of_le l_b_1 (Nat.le_trans (Nat.le_refl _) (Nat.le_of_eq e_b_4)))) nin0))
  have F_44 := (J2.keep K2 (ninS (Nat.ne_of_gt (Nat.lt_of_lt_of_le l_b_1 (Nat.le_trans (Nat.le_refl _) (Nat.le_of_eq e_b_4)))) nin0))
  have F_45 := (J3.keep K2 (ninS (Nat.ne_of_gt (Nat.lt_of_lt_of_le l_b_1 (Nat.le_trans (Nat.le_trans E_5.1 E_8.1) g1))) nin0))
  exact Seg.retA rfl rfl rfl d6_23 (by decide) (by decide) ⟨b_1, b_4, r, kr, rfl, E_40, (Nat.le_trans (ext_rfl _).1 (Nat.le_of_eq e_b_1)), (Nat.le_trans E_2.1 (Nat.le_of_eq e_b_4)), (Nat.le_trans E_15.1 g1), F_41, L1, F_42, F_43, F_44, F_45⟩
theorem ef_ct_cpo3_2 (d0 : Addr) (kd : ClassId) (e0 : Addr) (mo : Addr) (ma : Addr) (b : Addr) (kb : ClassId) (v0 : Value) (v1 : Value) (m : MethodId) : entryFrame m #[(.ref b), (.int (2 : Int32)), (.ref mo)] 4 = mkF m 0 #[.val (.ref b), .val (.int (2 : Int32)), .val (.ref mo), .unset] [] := by first | (simp [entryFrame, mkF, argsToLocals, Value.category]; done) | rfl
set_option maxRecDepth 65536 in
set_option maxHeartbeats 4000000 in
theorem ct_cpo3_2 {l : Launch} {Z : State} {a0 : Array Value} (G : Env1 Z a0) (d0 : Addr) (kd : ClassId) (e0 : Addr) (mo : Addr) (ma : Addr) (b : Addr) (kb : ClassId) (v0 : Value) (v1 : Value) (h0 : Heap) (N : Pins Z d0 kd e0 mo ma) (Ab : Arv Z h0 b kb (.object "java/lang/Object") 10 [v0, v1, .null, .null, .null, .null, .null, .null, .null, .null] .null) (i0 : IoN Z h0 v0) (i1 : IoN Z h0 v1) :
    Ct l Z EL1 [] [] (⟨"java/util/Arrays", "copyOf", "([Ljava/lang/Object;ILjava/lang/Class;)[Ljava/lang/Object;"⟩ : MethodName) jdk_65_method_120_code 4 (some (.array (.object "java/lang/Object"))) ({ frames := 1, cells := 1, slots := 2, locals := 18 } : Room) #[(.ref b), (.int (2 : Int32)), (.ref mo)] h0 (fun v h => ∃ (r : Addr) (kr : ClassId), v = some (.ref r) ∧ Ext h0 h ∧ h0.size ≤ r ∧ Arv Z h r kr (.object "java/lang/Object") 2 [v0, v1] .null) := by
  refine Ct.of_seg (a0 := a0) (plainFor_of_name pn_java_util_Arrays) G.2.1 (ef_ct_cpo3_2 d0 kd e0 mo ma b kb v0 v1) ?_
  refine Seg.aloadN d11_0 rfl rfl (pc' := 1) rfl ?_
  refine Seg.ldcM (wd G 81 rfl) N.2.2.2.2.1 d11_1 (pc' := 3) rfl ?_
  refine Seg.acN d11_3 rfl rfl (XT.aa_ne_f rfl) (pc' := 6) rfl ?_
  refine Seg.iloadN d11_6 rfl (pc' := 7) rfl ?_
  refine Seg.newR (ad := "[Ljava/lang/Object;") (wd G 82 rfl) (wd G 83 rfl) (by decide) d11_7 (pc' := 10) rfl (by decide) (cap := 2) (by decide) (by decide) (k' := 1) (n' := 2) rfl rfl (by decide) (by decide) ?_
  intro b_1 h_3 k_b_1 E_2 e_b_1 l_b_1 A_b_1 X_b_1 O_b_1
  replace A_b_1 : Arv Z h_3 b_1 k_b_1 (.object "java/lang/Object") (2 : Int32) [Value.null, Value.null] .null := A_b_1.pad (pad_rep [] .null 2)
  refine Seg.goto (pc' := 24) d11_10 (by decide) (by decide) ?_
  refine Seg.astoreN (L' := #[.val (.ref b), .val (.int (2 : Int32)), .val (.ref mo), .val (.ref b_1)]) d11_24 rfl rfl (pc' := 25) rfl ?_
  refine Seg.aloadN d11_25 rfl rfl (pc' := 26) rfl ?_
  refine Seg.iconst (v := 0) d11_26 (by decide) (pc' := 27) rfl ?_
  refine Seg.aloadN d11_27 rfl rfl (pc' := 28) rfl ?_
  refine Seg.iconst (v := 0) d11_28 (by decide) (pc' := 29) rfl ?_
  refine Seg.aloadN d11_29 rfl rfl (pc' := 30) rfl ?_
  have F_4 := Ab.ext E_2
  refine Seg.alen F_4 d11_30 (pc' := 31) rfl ?_
  refine Seg.iloadN d11_31 rfl (pc' := 32) rfl ?_
  refine Seg.callS (y' := (⟨"java/lang/Math", "min", "(II)I"⟩ : MethodName)) (wd G 84 rfl) (wd G 85 rfl) (wd G 86 rfl) (wd G 87 rfl) ⟨by decide, by decide⟩ (Pays.of_ct (W := 4) (ct_min2 G  h_3) all0 (wd G 87 rfl) (wd G 86 rfl) (by decide) (by decide) rfl rfl) (argsL := [(.int (10 : Int32)), (.int (2 : Int32))]) (rest := [(.int (0 : Int32)), (.ref b_1), (.int (0 : Int32)), (.ref b)]) rfl (lenOf pd_2 rfl) rfl (Nat.le_of_eq rfl) rfl d11_32 (pc' := 35) rfl (k' := 1) (n' := 2) rfl rfl (by decide) (by decide) ?_
  intro v_5 h_8 sz_6 q_7
  obtain ⟨rfl, rfl⟩ := q_7
  have F_9 := i0.ext E_2
  have F_10 := i1.ext E_2
  refine Seg.cpA (us := [v0, v1]) (vr := [v0, v1]) (wd G 88 rfl) (wd G 91 rfl) (wd G 89 rfl) (wd G 90 rfl) F_4 A_b_1 (Or.inr ⟨rfl, rfl, ⟨(F_9.sto A_b_1 O_b_1 (wd G 127 rfl)), (F_10.sto A_b_1 O_b_1 (wd G 127 rfl)), trivial⟩⟩) (by decide) (by decide) (by decide) (by decide) (by decide) rfl (by decide) rfl (List.mem_of_getElem? (i := 0) rfl) rfl d11_35 (pc' := 38) rfl (by decide) (W := 0) (Nat.le_of_eq rfl) (by decide) ?_
  intro h_13 K_11 A_12
  refine Seg.aloadN d11_38 rfl rfl (pc' := 39) rfl ?_
  have E_14 : Ext h0 h_13 := ext_kp E_2 K_11 (allS (Nat.le_trans (ext_rfl _).1 (Nat.le_of_eq e_b_1)) all0)
  exact Seg.retA rfl rfl rfl d11_39 (by decide) (by decide) ⟨b_1, k_b_1, rfl, E_14, (Nat.le_trans (ext_rfl _).1 (Nat.le_of_eq e_b_1)), A_12⟩
theorem ef_ct_cpo2_2 (d0 : Addr) (kd : ClassId) (e0 : Addr) (mo : Addr) (ma : Addr) (b : Addr) (kb : ClassId) (v0 : Value) (v1 : Value) (m : MethodId) : entryFrame m #[(.ref b), (.int (2 : Int32))] 2 = mkF m 0 #[.val (.ref b), .val (.int (2 : Int32))] [] := by first | (simp [entryFrame, mkF, argsToLocals, Value.category]; done) | rfl
set_option maxRecDepth 65536 in
set_option maxHeartbeats 4000000 in
theorem ct_cpo2_2 {l : Launch} {Z : State} {a0 : Array Value} (G : Env1 Z a0) (d0 : Addr) (kd : ClassId) (e0 : Addr) (mo : Addr) (ma : Addr) (b : Addr) (kb : ClassId) (v0 : Value) (v1 : Value) (h0 : Heap) (N : Pins Z d0 kd e0 mo ma) (Ab : Arv Z h0 b kb (.object "java/lang/Object") 10 [v0, v1, .null, .null, .null, .null, .null, .null, .null, .null] .null) (Xb : Exa Z h0 b "[Ljava/lang/Object;") (i0 : IoN Z h0 v0) (i1 : IoN Z h0 v1) :
    Ct l Z EL1 [] [] (⟨"java/util/Arrays", "copyOf", "([Ljava/lang/Object;I)[Ljava/lang/Object;"⟩ : MethodName) jdk_65_method_119_code 2 (some (.array (.object "java/lang/Object"))) ({ frames := 2, cells := 1, slots := 2, locals := 33 } : Room) #[(.ref b), (.int (2 : Int32))] h0 (fun v h => ∃ (r : Addr) (kr : ClassId), v = some (.ref r) ∧ Ext h0 h ∧ h0.size ≤ r ∧ Arv Z h r kr (.object "java/lang/Object") 2 [v0, v1] .null) := by
  refine Ct.of_seg (a0 := a0) (plainFor_of_name pn_java_util_Arrays) G.2.1 (ef_ct_cpo2_2 d0 kd e0 mo ma b kb v0 v1) ?_
  refine Seg.aloadN d10_0 rfl rfl (pc' := 1) rfl ?_
  refine Seg.iloadN d10_1 rfl (pc' := 2) rfl ?_
  refine Seg.aloadN d10_2 rfl rfl (pc' := 3) rfl ?_
  refine Seg.getC (wd G 72 rfl) (wd G 73 rfl) (nf_sel (wd G 75 rfl)) (wd G 75 rfl) (wd G 74 rfl) (wd G 76 rfl) Xb N.2.2.2.2.1 rfl d10_3 (pc' := 6) rfl (by decide) (W := 2) (Nat.le_of_eq rfl) (by decide) ?_
  refine Seg.callS (y' := (⟨"java/util/Arrays", "copyOf", "([Ljava/lang/Object;ILjava/lang/Class;)[Ljava/lang/Object;"⟩ : MethodName)) (wd G 78 rfl) (wd G 79 rfl) (wd G 70 rfl) (wd G 80 rfl) ⟨by decide, by decide⟩ (Pays.of_ct (W := 0) (ct_cpo3_2 G d0 kd e0 mo ma b kb v0 v1 h0 N Ab i0 i1) all0 (wd G 80 rfl) (wd G 70 rfl) (by decide) (by decide) rfl rfl) (argsL := [(.ref b), (.int (2 : Int32)), (.ref mo)]) (rest := []) rfl (lenOf pd_6 rfl) rfl (Nat.le_of_eq rfl) rfl d10_6 (pc' := 9) rfl (k' := 1) (n' := 2) rfl rfl (by decide) (by decide) ?_
  intro v_1 h_4 sz_2 q_3
  obtain ⟨r, kr, rfl, E1, g1, A1⟩ := q_3
  exact Seg.retA rfl rfl rfl d10_9 (by decide) (by decide) ⟨r, kr, rfl, E1, g1, A1⟩
theorem ef_ct_ta_2 (d0 : Addr) (kd : ClassId) (e0 : Addr) (mo : Addr) (ma : Addr) (a : Addr) (b : Addr) (kb : ClassId) (v0 : Value) (v1 : Value) (m : MethodId) : entryFrame m #[(.ref a)] 1 = mkF m 0 #[.val (.ref a)] [] := by first | (simp [entryFrame, mkF, argsToLocals, Value.category]; done) | rfl
set_option maxRecDepth 65536 in
set_option maxHeartbeats 4000000 in
theorem ct_ta_2 {l : Launch} {Z : State} {a0 : Array Value} (G : Env1 Z a0) (d0 : Addr) (kd : ClassId) (e0 : Addr) (mo : Addr) (ma : Addr) (a : Addr) (b : Addr) (kb : ClassId) (v0 : Value) (v1 : Value) (h0 : Heap) (N : Pins Z d0 kd e0 mo ma) (F1 : Fld Z h0 a "java/util/ArrayList" "elementData" "[Ljava/lang/Object;" (.ref b)) (F2 : Fld Z h0 a "java/util/ArrayList" "size" "I" (.int 2)) (Ab : Arv Z h0 b kb (.object "java/lang/Object") 10 [v0, v1, .null, .null, .null, .null, .null, .null, .null, .null] .null) (Xb : Exa Z h0 b "[Ljava/lang/Object;") (i0 : IoN Z h0 v0) (i1 : IoN Z h0 v1) :
    Ct l Z EL1 [] [] (⟨"java/util/ArrayList", "toArray", "()[Ljava/lang/Object;"⟩ : MethodName) jdk_38_method_16_code 1 (some (.array (.object "java/lang/Object"))) ({ frames := 3, cells := 1, slots := 2, locals := 46 } : Room) #[(.ref a)] h0 (fun v h => ∃ (r : Addr) (kr : ClassId), v = some (.ref r) ∧ Ext h0 h ∧ h0.size ≤ r ∧ Arv Z h r kr (.object "java/lang/Object") 2 [v0, v1] .null) := by
  refine Ct.of_seg (a0 := a0) (plainFor_of_name pn_java_util_ArrayList) G.2.1 (ef_ct_ta_2 d0 kd e0 mo ma a b kb v0 v1) ?_
  refine Seg.aloadN d9_0 rfl rfl (pc' := 1) rfl ?_
  refine Seg.getF (host := "") (Or.inl (wd G 32 rfl)) Via.refl F1 d9_1 (pc' := 4) rfl ?_
  refine Seg.aloadN d9_4 rfl rfl (pc' := 5) rfl ?_
  refine Seg.getF (host := "") (Or.inl (wd G 66 rfl)) Via.refl F2 d9_5 (pc' := 8) rfl ?_
  refine Seg.callS (y' := (⟨"java/util/Arrays", "copyOf", "([Ljava/lang/Object;I)[Ljava/lang/Object;"⟩ : MethodName)) (wd G 68 rfl) (wd G 69 rfl) (wd G 70 rfl) (wd G 71 rfl) ⟨by decide, by decide⟩ (Pays.of_ct (W := 0) (ct_cpo2_2 G d0 kd e0 mo ma b kb v0 v1 h0 N Ab Xb i0 i1) all0 (wd G 71 rfl) (wd G 70 rfl) (by decide) (by decide) rfl rfl) (argsL := [(.ref b), (.int (2 : Int32))]) (rest := []) rfl (lenOf pd_7 rfl) rfl (Nat.le_of_eq rfl) rfl d9_8 (pc' := 11) rfl (k' := 1) (n' := 2) rfl rfl (by decide) (by decide) ?_
  intro v_1 h_4 sz_2 q_3
  obtain ⟨r, kr, rfl, E1, g1, A1⟩ := q_3
  exact Seg.retA rfl rfl rfl d9_11 (by decide) (by decide) ⟨r, kr, rfl, E1, g1, A1⟩
theorem ef_ct_ic_2 (d0 : Addr) (kd : ClassId) (e0 : Addr) (mo : Addr) (ma : Addr) (x : Addr) (a : Addr) (o0 : Value) (o1 : Value) (o2 : Value) (b : Addr) (kb : ClassId) (v0 : Value) (v1 : Value) (m : MethodId) : entryFrame m #[(.ref x), (.ref a)] 3 = mkF m 0 #[.val (.ref x), .val (.ref a), .unset] [] := by first | (simp [entryFrame, mkF, argsToLocals, Value.category]; done) | rfl
set_option maxRecDepth 65536 in
set_option maxHeartbeats 4000000 in
theorem ct_ic_2 {l : Launch} {Z : State} {a0 : Array Value} (G : Env1 Z a0) (d0 : Addr) (kd : ClassId) (e0 : Addr) (mo : Addr) (ma : Addr) (x : Addr) (a : Addr) (o0 : Value) (o1 : Value) (o2 : Value) (b : Addr) (kb : ClassId) (v0 : Value) (v1 : Value) (h0 : Heap) (N : Pins Z d0 kd e0 mo ma) (A : Exa Z h0 x "java/util/ArrayList") (H0 : Fld Z h0 x "java/util/AbstractList" "modCount" "I" o0) (H1 : Fld Z h0 x "java/util/ArrayList" "elementData" "[Ljava/lang/Object;" o1) (H2 : Fld Z h0 x "java/util/ArrayList" "size" "I" o2) (Xa : Exa Z h0 a "java/util/ArrayList") (F1 : Fld Z h0 a "java/util/ArrayList" "elementData" "[Ljava/lang/Object;" (.ref b)) (F2 : Fld Z h0 a "java/util/ArrayList" "size" "I" (.int 2)) (Ab : Arv Z h0 b kb (.object "java/lang/Object") 10 [v0, v1, .null, .null, .null, .null, .null, .null, .null, .null] .null) (Xb : Exa Z h0 b "[Ljava/lang/Object;") (i0 : IoN Z h0 v0) (i1 : IoN Z h0 v1) (nax : a ≠ x) (nbx : b ≠ x) :
    Ct l Z EL1 [x] [] (⟨"java/util/ArrayList", "<init>", "(Ljava/util/Collection;)V"⟩ : MethodName) jdk_38_method_3_code 3 none ({ frames := 4, cells := 1, slots := 2, locals := 58 } : Room) #[(.ref x), (.ref a)] h0 (fun v h => v = none ∧ ∃ (r : Addr) (kr : ClassId), h0.size ≤ r ∧ Keep h0 h [x] ∧ Fld Z h x "java/util/ArrayList" "elementData" "[Ljava/lang/Object;" (.ref r) ∧ Fld Z h x "java/util/ArrayList" "size" "I" (.int 2) ∧ Arv Z h r kr (.object "java/lang/Object") 2 [v0, v1] .null) := by
  refine Ct.of_seg (a0 := a0) (plainFor_of_name pn_java_util_ArrayList) G.2.1 (ef_ct_ic_2 d0 kd e0 mo ma x a o0 o1 o2 b kb v0 v1) ?_
  refine Seg.aloadN d8_0 rfl rfl (pc' := 1) rfl ?_
  refine Seg.callN (y' := (⟨"java/util/AbstractList", "<init>", "()V"⟩ : MethodName)) (a := x) rfl (wd G 14 rfl) (wd G 15 rfl) (wd G 19 rfl) ⟨by decide, by decide⟩ (Pays.of_ct (W := 0) (ct_abA G x o0 o1 o2 h0 A H0 H1 H2) (allS (List.mem_of_getElem? (i := 0) rfl) all0) (wd G 19 rfl) (wd G 18 rfl) (by decide) (by decide) rfl rfl) (argsL := []) (rest := []) rfl (lenOf pd_0 rfl) rfl (Nat.le_of_eq rfl) rfl d8_1 (pc' := 4) rfl (k' := 0) (n' := 0) rfl rfl (by decide) (by decide) ?_
  intro v_1 h_4 sz_2 q_3
  obtain ⟨rfl, K1, G0, G1, G2⟩ := q_3
  refine Seg.aloadN d8_4 rfl rfl (pc' := 5) rfl ?_
  have F_5 := (F1.keep K1 (ninS nax nin0))
  have F_6 := (F2.keep K1 (ninS nax nin0))
  have F_7 := (Ab.keep K1 (ninS nbx nin0))
  have F_8 := (Xb.keep K1)
  have F_9 := (i0.keep K1)
  have F_10 := (i1.keep K1)
  have F_11 := (Xa.keep K1)
  refine Seg.callI (y' := (⟨"java/util/Collection", "toArray", "()[Ljava/lang/Object;"⟩ : MethodName)) (z := (⟨"java/util/ArrayList", "toArray", "()[Ljava/lang/Object;"⟩ : MethodName)) (a := a) (wd G 58 rfl) (wd G 59 rfl) (wd G 60 rfl) rfl (wd G 61 rfl) (wd G 62 rfl) (wd G 63 rfl) (wd G 64 rfl) (wd G 54 rfl) ⟨by decide, by decide⟩ F_11 (Pays.of_ct (W := 0) (ct_ta_2 G d0 kd e0 mo ma a b kb v0 v1 h_4 N F_5 F_6 F_7 F_8 F_9 F_10) all0 (wd G 65 rfl) (wd G 10 rfl) (by decide) (by decide) rfl rfl) (argsL := []) (rest := []) rfl (lenOf pd_4 rfl) rfl (Nat.le_of_eq rfl) rfl d8_5 (pc' := 10) rfl (k' := 1) (n' := 2) rfl rfl (by decide) (by decide) ?_
  intro v_12 h_15 sz_13 q_14
  obtain ⟨r, kr, rfl, E1, g1, A1⟩ := q_14
  have nrx : r ≠ x := Nat.ne_of_gt (Nat.lt_of_lt_of_le A.lt (Nat.le_trans K1.1 g1))
  refine Seg.astoreN (L' := #[.val (.ref x), .val (.ref a), .val (.ref r)]) d8_10 rfl rfl (pc' := 11) rfl ?_
  refine Seg.aloadN d8_11 rfl rfl (pc' := 12) rfl ?_
  refine Seg.aloadN d8_12 rfl rfl (pc' := 13) rfl ?_
  refine Seg.alen A1 d8_13 (pc' := 14) rfl ?_
  refine Seg.dupX1 d8_14 rfl rfl (pc' := 15) rfl ?_
  have F_16 := G2.ext E1
  have F_17 := ((A.keep K1).ext E1)
  refine Seg.putF (host := "") (ty := .int) (v' := (.int (2 : Int32))) (wd G 66 rfl) Via.refl F_16 F_17 (Or.inl (wd G 67 rfl)) (wd G 9 rfl) (by decide) rfl rfl (List.mem_of_getElem? (i := 0) rfl) d8_15 (pc' := 18) rfl ?_
  intro h_20 W_18 F_19
  refine Seg.ifN d8_18 (by decide) (pc' := 21) rfl ?_
  refine Seg.aloadN d8_21 rfl rfl (pc' := 22) rfl ?_
  have F_21 := ((F_11.ext E1).wr W_18)
  refine Seg.getCI (xi := (⟨"java/util/Collection", "getClass", "()Ljava/lang/Class;"⟩ : MethodName)) (wd G 142 rfl) (wd G 73 rfl) (wd G 143 rfl) (wd G 144 rfl) (wd G 74 rfl) (wd G 145 rfl) (wd G 146 rfl) (wd G 54 rfl) (wd G 76 rfl) ⟨by decide, by decide⟩ (by decide) rfl rfl F_21 N.2.2.2.2.2 rfl d8_22 (pc' := 27) rfl (by decide) (W := 0) (Nat.le_of_eq rfl) (by decide) ?_
  refine Seg.ldcM (wd G 148 rfl) N.2.2.2.2.2 d8_27 (pc' := 29) rfl ?_
  refine Seg.acN d8_29 rfl rfl (XT.aa_ne_f rfl) (pc' := 32) rfl ?_
  refine Seg.aloadN d8_32 rfl rfl (pc' := 33) rfl ?_
  refine Seg.aloadN d8_33 rfl rfl (pc' := 34) rfl ?_
  have F_22 := ((G1.ext E1).other W_18 (Or.inr (slot_ne (Or.inl (wd G 33 rfl)) (Or.inl (wd G 67 rfl)) (by decide) (t := (.array (.object "java/lang/Object"))) (t' := .int) (by decide) (by decide))))
  have F_23 := (F_17.wr W_18)
  refine Seg.putF (host := "") (ty := (.array (.object "java/lang/Object"))) (v' := (.ref r)) (wd G 32 rfl) Via.refl F_22 F_23 (Or.inl (wd G 33 rfl)) (wd G 9 rfl) (by decide) rfl rfl (List.mem_of_getElem? (i := 0) rfl) d8_34 (pc' := 37) rfl ?_
  intro h_26 W_24 F_25
  refine Seg.goto (pc' := 64) d8_37 (by decide) (by decide) ?_
  have F_27 := (F_19.other W_24 (Or.inr (slot_ne (Or.inl (wd G 67 rfl)) (Or.inl (wd G 33 rfl)) (by decide) (t := .int) (t' := (.array (.object "java/lang/Object"))) (by decide) (by decide))))
  have F_28 := ((A1.keep (Keep.of_wr W_18) (ninS nrx nin0)).keep (Keep.of_wr W_24) (ninS nrx nin0))
  exact Seg.ret0 rfl d8_64 (by decide) (by decide) ⟨rfl, r, kr, (Nat.le_trans K1.1 g1), (((((Keep.refl h0 [x]).trans K1 (allS (Or.inl (List.mem_of_getElem? (i := 0) rfl)) all0)).ext E1).wr W_18 (Or.inl (List.mem_of_getElem? (i := 0) rfl))).wr W_24 (Or.inl (List.mem_of_getElem? (i := 0) rfl))), F_25, F_27, F_28⟩
theorem ef_ct_of_2 (d0 : Addr) (kd : ClassId) (e0 : Addr) (mo : Addr) (ma : Addr) (a : Addr) (b : Addr) (kb : ClassId) (v0 : Value) (v1 : Value) (m : MethodId) : entryFrame m #[(.ref a)] 1 = mkF m 0 #[.val (.ref a)] [] := by first | (simp [entryFrame, mkF, argsToLocals, Value.category]; done) | rfl
set_option maxRecDepth 65536 in
set_option maxHeartbeats 4000000 in
theorem ct_of_2 {l : Launch} {Z : State} {a0 : Array Value} (G : Env1 Z a0) (d0 : Addr) (kd : ClassId) (e0 : Addr) (mo : Addr) (ma : Addr) (a : Addr) (b : Addr) (kb : ClassId) (v0 : Value) (v1 : Value) (h0 : Heap) (N : Pins Z d0 kd e0 mo ma) (Xa : Exa Z h0 a "java/util/ArrayList") (F1 : Fld Z h0 a "java/util/ArrayList" "elementData" "[Ljava/lang/Object;" (.ref b)) (F2 : Fld Z h0 a "java/util/ArrayList" "size" "I" (.int 2)) (Ab : Arv Z h0 b kb (.object "java/lang/Object") 10 [v0, v1, .null, .null, .null, .null, .null, .null, .null, .null] .null) (Xb : Exa Z h0 b "[Ljava/lang/Object;") (i0 : IoN Z h0 v0) (i1 : IoN Z h0 v1) :
    Ct l Z EL1 [] [] (⟨"com/example/reify/reify/EdnList", "of", "(Ljava/util/List;)Lcom/example/reify/reify/EdnList;"⟩ : MethodName) prog_14_method_2_code 1 (some (.object "com/example/reify/reify/EdnList")) ({ frames := 5, cells := 5, slots := 43, locals := 75 } : Room) #[(.ref a)] h0 (fun v h => ∃ (e y : Addr) (r : Addr) (kr : ClassId), v = some (.ref e) ∧ Ext h0 h ∧ h0.size ≤ e ∧ h0.size ≤ y ∧ h0.size ≤ r ∧ Exa Z h e "com/example/reify/reify/EdnList" ∧ Fld Z h e "com/example/reify/reify/EdnList" "elements" "Ljava/util/List;" (.ref y) ∧ Exa Z h y "java/util/ArrayList" ∧ Fld Z h y "java/util/ArrayList" "elementData" "[Ljava/lang/Object;" (.ref r) ∧ Fld Z h y "java/util/ArrayList" "size" "I" (.int 2) ∧ Arv Z h r kr (.object "java/lang/Object") 2 [v0, v1] .null) := by
  refine Ct.of_seg (a0 := a0) (plainFor_of_name pn_com_example_reify_reify_EdnList) G.2.1 (ef_ct_of_2 d0 kd e0 mo ma a b kb v0 v1) ?_
  refine Seg.newO (wd G 38 rfl) (wd G 39 rfl) (wd G 36 rfl) d6_0 (pc' := 3) rfl (k' := 1) (n' := 2) rfl rfl (by decide) (by decide) ?_
  intro b_1 h_3 E_2 e_b_1 l_b_1 A_b_1 D_b_1
  have F_modCount_b_1 : Fld Z h_3 b_1 "java/util/AbstractList" "modCount" "I" (.int (0 : Int32)) := D_b_1 (Or.inl (wd G 98 rfl)) (ty := .int) (by decide)
  have F_elements_b_1 : Fld Z h_3 b_1 "com/example/reify/reify/EdnList" "elements" "Ljava/util/List;" Value.null := D_b_1 (Or.inr (wd G 100 rfl)) (ty := (.object "java/util/List")) (by decide)
  refine Seg.dup d6_3 rfl (pc' := 4) rfl ?_
  refine Seg.newO (wd G 40 rfl) (wd G 9 rfl) (wd G 10 rfl) d6_4 (pc' := 7) rfl (k' := 2) (n' := 5) rfl rfl (by decide) (by decide) ?_
  intro b_4 h_6 E_5 e_b_4 l_b_4 A_b_4 D_b_4
  have F_modCount_b_4 : Fld Z h_6 b_4 "java/util/AbstractList" "modCount" "I" (.int (0 : Int32)) := D_b_4 (Or.inl (wd G 30 rfl)) (ty := .int) (by decide)
  have F_elementData_b_4 : Fld Z h_6 b_4 "java/util/ArrayList" "elementData" "[Ljava/lang/Object;" Value.null := D_b_4 (Or.inl (wd G 33 rfl)) (ty := (.array (.object "java/lang/Object"))) (by decide)
  have F_size_b_4 : Fld Z h_6 b_4 "java/util/ArrayList" "size" "I" (.int (0 : Int32)) := D_b_4 (Or.inl (wd G 67 rfl)) (ty := .int) (by decide)
  refine Seg.dup d6_7 rfl (pc' := 8) rfl ?_
  refine Seg.aloadN d6_8 rfl rfl (pc' := 9) rfl ?_
  refine Seg.ldcO (text := "elements") (nn := 32) (wd G 41 rfl) (wS G) d6_9 (pc' := 11) rfl (by decide) (by decide) (k' := 4) (n' := 41) rfl rfl (by decide) (by decide) ?_
  intro a_7 h_9 E_8
  refine Seg.callS (y' := (⟨"java/util/Objects", "requireNonNull", "(Ljava/lang/Object;Ljava/lang/String;)Ljava/lang/Object;"⟩ : MethodName)) (wd G 49 rfl) (wd G 50 rfl) (wd G 51 rfl) (wd G 52 rfl) ⟨by decide, by decide⟩ (Pays.of_ct (W := 4) (ct_req G a a_7 h_9) all0 (wd G 52 rfl) (wd G 51 rfl) (by decide) (by decide) rfl rfl) (argsL := [(.ref a), (.ref a_7)]) (rest := [(.ref b_4), (.ref b_4), (.ref b_1), (.ref b_1)]) rfl (lenOf pd_8 rfl) rfl (Nat.le_of_eq rfl) rfl d6_11 (pc' := 14) rfl (k' := 4) (n' := 41) rfl rfl (by decide) (by decide) ?_
  intro v_10 h_13 sz_11 q_12
  obtain ⟨rfl, rfl⟩ := q_12
  have E_14 : Ext h0 h_6 := ext_tr E_2 E_5
  have E_15 : Ext h0 h_9 := ext_tr E_14 E_8
  have F_16 := Xa.ext E_15
  refine Seg.castY (wd G 53 rfl) (Ins.of_exa F_16 (wd G 54 rfl)) d6_14 (pc' := 17) rfl ?_
  have F_17 := A_b_4.ext E_8
  have F_18 := F_modCount_b_4.ext E_8
  have F_19 := F_elementData_b_4.ext E_8
  have F_20 := F_size_b_4.ext E_8
  have F_21 := F1.ext E_15
  have F_22 := F2.ext E_15
  have F_23 := Ab.ext E_15
  have F_24 := Xb.ext E_15
  have F_25 := i0.ext E_15
  have F_26 := i1.ext E_15
  refine Seg.callN (y' := (⟨"java/util/ArrayList", "<init>", "(Ljava/util/Collection;)V"⟩ : MethodName)) (a := b_4) rfl (wd G 55 rfl) (wd G 56 rfl) (wd G 57 rfl) ⟨by decide, by decide⟩ (Pays.of_ct (W := 3) (ct_ic_2 G d0 kd e0 mo ma b_4 a (.int 0) .null (.int 0) b kb v0 v1 h_9 N F_17 F_18 F_19 F_20 F_16 F_21 F_22 F_23 F_24 F_25 F_26 (Nat.ne_of_lt (Nat.lt_of_lt_of_le Xa.lt (Nat.le_trans E_2.1 (Nat.le_of_eq e_b_4)))) (Nat.ne_of_lt (Nat.lt_of_lt_of_le Xb.lt (Nat.le_trans E_2.1 (Nat.le_of_eq e_b_4))))) (allS (List.mem_of_getElem? (i := 0) rfl) all0) (wd G 57 rfl) (wd G 10 rfl) (by decide) (by decide) rfl rfl) (argsL := [(.ref a)]) (rest := [(.ref b_4), (.ref b_1), (.ref b_1)]) rfl (lenOf pd_9 rfl) rfl (Nat.le_of_eq rfl) rfl d6_17 (pc' := 20) rfl (k' := 5) (n' := 43) rfl rfl (by decide) (by decide) ?_
  intro v_27 h_30 sz_28 q_29
  obtain ⟨rfl, r, kr, g1, K1, J1, J2, J3⟩ := q_29
  have E_31 : Ext h_3 h_9 := ext_tr E_5 E_8
  have E_32 : Ext h_3 h_30 := ext_kp E_31 K1 (allS (Nat.le_trans (ext_rfl _).1 (Nat.le_of_eq e_b_4)) all0)
  have F_33 := A_b_1.ext E_32
  have F_34 := F_modCount_b_1.ext E_32
  have F_35 := F_elements_b_1.ext E_32
  refine Seg.callN (y' := (⟨"com/example/reify/reify/EdnList", "<init>", "(Ljava/util/List;)V"⟩ : MethodName)) (a := b_1) rfl (wd G 93 rfl) (wd G 94 rfl) (wd G 95 rfl) ⟨by decide, by decide⟩ (Pays.of_ct (W := 1) (ct_ei G b_1 b_4 (.int 0) .null h_30 F_33 F_34 F_35) (allS (List.mem_of_getElem? (i := 1) rfl) all0) (wd G 95 rfl) (wd G 36 rfl) (by decide) (by decide) rfl rfl) (argsL := [(.ref b_4)]) (rest := [(.ref b_1)]) rfl (lenOf pd_10 rfl) rfl (Nat.le_of_eq rfl) rfl d6_20 (pc' := 23) rfl (k' := 5) (n' := 43) rfl rfl (by decide) (by decide) ?_
  intro v_36 h_39 sz_37 q_38
  obtain ⟨rfl, K2, L1⟩ := q_38
  have E_40 : Ext h0 h_30 := ext_kp E_15 K1 (allS (Nat.le_trans E_2.1 (Nat.le_of_eq e_b_4)) all0)
  have E_41 : Ext h0 h_39 := ext_kp E_40 K2 (allS (Nat.le_trans (ext_rfl _).1 (Nat.le_of_eq e_b_1)) all0)
  have F_42 := (F_33.keep K2)
  have F_43 := ((F_17.keep K1).keep K2)
  have F_44 := (J1.keep K2 (ninS (Nat.ne_of_gt (Nat.lt_of_lt_of_le l_b_1 (Nat.le_trans (Nat.le_refl _) (Nat.le_of_eq e_b_4)))) nin0))
  have F_45 := (J2.keep K2 (ninS (Nat.ne_of_gt (Nat.lt_of_lt_of_le l_b_1 (Nat.le_trans (Nat.le_refl _) (Nat.le_of_eq e_b_4)))) nin0))
  have F_46 := (J3.keep K2 (ninS (Nat.ne_of_gt (Nat.lt_of_lt_of_le l_b_1 (Nat.le_trans (Nat.le_trans E_5.1 E_8.1) g1))) nin0))
  exact Seg.retA rfl rfl rfl d6_23 (by decide) (by decide) ⟨b_1, b_4, r, kr, rfl, E_41, (Nat.le_trans (ext_rfl _).1 (Nat.le_of_eq e_b_1)), (Nat.le_trans E_2.1 (Nat.le_of_eq e_b_4)), (Nat.le_trans E_15.1 g1), F_42, L1, F_43, F_44, F_45, F_46⟩
theorem ef_ct_cpo3_3 (d0 : Addr) (kd : ClassId) (e0 : Addr) (mo : Addr) (ma : Addr) (b : Addr) (kb : ClassId) (v0 : Value) (v1 : Value) (v2 : Value) (m : MethodId) : entryFrame m #[(.ref b), (.int (3 : Int32)), (.ref mo)] 4 = mkF m 0 #[.val (.ref b), .val (.int (3 : Int32)), .val (.ref mo), .unset] [] := by first | (simp [entryFrame, mkF, argsToLocals, Value.category]; done) | rfl
set_option maxRecDepth 65536 in
set_option maxHeartbeats 4000000 in
theorem ct_cpo3_3 {l : Launch} {Z : State} {a0 : Array Value} (G : Env1 Z a0) (d0 : Addr) (kd : ClassId) (e0 : Addr) (mo : Addr) (ma : Addr) (b : Addr) (kb : ClassId) (v0 : Value) (v1 : Value) (v2 : Value) (h0 : Heap) (N : Pins Z d0 kd e0 mo ma) (Ab : Arv Z h0 b kb (.object "java/lang/Object") 10 [v0, v1, v2, .null, .null, .null, .null, .null, .null, .null] .null) (i0 : IoN Z h0 v0) (i1 : IoN Z h0 v1) (i2 : IoN Z h0 v2) :
    Ct l Z EL1 [] [] (⟨"java/util/Arrays", "copyOf", "([Ljava/lang/Object;ILjava/lang/Class;)[Ljava/lang/Object;"⟩ : MethodName) jdk_65_method_120_code 4 (some (.array (.object "java/lang/Object"))) ({ frames := 1, cells := 1, slots := 3, locals := 18 } : Room) #[(.ref b), (.int (3 : Int32)), (.ref mo)] h0 (fun v h => ∃ (r : Addr) (kr : ClassId), v = some (.ref r) ∧ Ext h0 h ∧ h0.size ≤ r ∧ Arv Z h r kr (.object "java/lang/Object") 3 [v0, v1, v2] .null) := by
  refine Ct.of_seg (a0 := a0) (plainFor_of_name pn_java_util_Arrays) G.2.1 (ef_ct_cpo3_3 d0 kd e0 mo ma b kb v0 v1 v2) ?_
  refine Seg.aloadN d11_0 rfl rfl (pc' := 1) rfl ?_
  refine Seg.ldcM (wd G 81 rfl) N.2.2.2.2.1 d11_1 (pc' := 3) rfl ?_
  refine Seg.acN d11_3 rfl rfl (XT.aa_ne_f rfl) (pc' := 6) rfl ?_
  refine Seg.iloadN d11_6 rfl (pc' := 7) rfl ?_
  refine Seg.newR (ad := "[Ljava/lang/Object;") (wd G 82 rfl) (wd G 83 rfl) (by decide) d11_7 (pc' := 10) rfl (by decide) (cap := 3) (by decide) (by decide) (k' := 1) (n' := 3) rfl rfl (by decide) (by decide) ?_
  intro b_1 h_3 k_b_1 E_2 e_b_1 l_b_1 A_b_1 X_b_1 O_b_1
  replace A_b_1 : Arv Z h_3 b_1 k_b_1 (.object "java/lang/Object") (3 : Int32) [Value.null, Value.null, Value.null] .null := A_b_1.pad (pad_rep [] .null 3)
  refine Seg.goto (pc' := 24) d11_10 (by decide) (by decide) ?_
  refine Seg.astoreN (L' := #[.val (.ref b), .val (.int (3 : Int32)), .val (.ref mo), .val (.ref b_1)]) d11_24 rfl rfl (pc' := 25) rfl ?_
  refine Seg.aloadN d11_25 rfl rfl (pc' := 26) rfl ?_
  refine Seg.iconst (v := 0) d11_26 (by decide) (pc' := 27) rfl ?_
  refine Seg.aloadN d11_27 rfl rfl (pc' := 28) rfl ?_
  refine Seg.iconst (v := 0) d11_28 (by decide) (pc' := 29) rfl ?_
  refine Seg.aloadN d11_29 rfl rfl (pc' := 30) rfl ?_
  have F_4 := Ab.ext E_2
  refine Seg.alen F_4 d11_30 (pc' := 31) rfl ?_
  refine Seg.iloadN d11_31 rfl (pc' := 32) rfl ?_
  refine Seg.callS (y' := (⟨"java/lang/Math", "min", "(II)I"⟩ : MethodName)) (wd G 84 rfl) (wd G 85 rfl) (wd G 86 rfl) (wd G 87 rfl) ⟨by decide, by decide⟩ (Pays.of_ct (W := 4) (ct_min3 G  h_3) all0 (wd G 87 rfl) (wd G 86 rfl) (by decide) (by decide) rfl rfl) (argsL := [(.int (10 : Int32)), (.int (3 : Int32))]) (rest := [(.int (0 : Int32)), (.ref b_1), (.int (0 : Int32)), (.ref b)]) rfl (lenOf pd_2 rfl) rfl (Nat.le_of_eq rfl) rfl d11_32 (pc' := 35) rfl (k' := 1) (n' := 3) rfl rfl (by decide) (by decide) ?_
  intro v_5 h_8 sz_6 q_7
  obtain ⟨rfl, rfl⟩ := q_7
  have F_9 := i0.ext E_2
  have F_10 := i1.ext E_2
  have F_11 := i2.ext E_2
  refine Seg.cpA (us := [v0, v1, v2]) (vr := [v0, v1, v2]) (wd G 88 rfl) (wd G 91 rfl) (wd G 89 rfl) (wd G 90 rfl) F_4 A_b_1 (Or.inr ⟨rfl, rfl, ⟨(F_9.sto A_b_1 O_b_1 (wd G 127 rfl)), (F_10.sto A_b_1 O_b_1 (wd G 127 rfl)), (F_11.sto A_b_1 O_b_1 (wd G 127 rfl)), trivial⟩⟩) (by decide) (by decide) (by decide) (by decide) (by decide) rfl (by decide) rfl (List.mem_of_getElem? (i := 0) rfl) rfl d11_35 (pc' := 38) rfl (by decide) (W := 0) (Nat.le_of_eq rfl) (by decide) ?_
  intro h_14 K_12 A_13
  refine Seg.aloadN d11_38 rfl rfl (pc' := 39) rfl ?_
  have E_15 : Ext h0 h_14 := ext_kp E_2 K_12 (allS (Nat.le_trans (ext_rfl _).1 (Nat.le_of_eq e_b_1)) all0)
  exact Seg.retA rfl rfl rfl d11_39 (by decide) (by decide) ⟨b_1, k_b_1, rfl, E_15, (Nat.le_trans (ext_rfl _).1 (Nat.le_of_eq e_b_1)), A_13⟩
theorem ef_ct_cpo2_3 (d0 : Addr) (kd : ClassId) (e0 : Addr) (mo : Addr) (ma : Addr) (b : Addr) (kb : ClassId) (v0 : Value) (v1 : Value) (v2 : Value) (m : MethodId) : entryFrame m #[(.ref b), (.int (3 : Int32))] 2 = mkF m 0 #[.val (.ref b), .val (.int (3 : Int32))] [] := by first | (simp [entryFrame, mkF, argsToLocals, Value.category]; done) | rfl
set_option maxRecDepth 65536 in
set_option maxHeartbeats 4000000 in
theorem ct_cpo2_3 {l : Launch} {Z : State} {a0 : Array Value} (G : Env1 Z a0) (d0 : Addr) (kd : ClassId) (e0 : Addr) (mo : Addr) (ma : Addr) (b : Addr) (kb : ClassId) (v0 : Value) (v1 : Value) (v2 : Value) (h0 : Heap) (N : Pins Z d0 kd e0 mo ma) (Ab : Arv Z h0 b kb (.object "java/lang/Object") 10 [v0, v1, v2, .null, .null, .null, .null, .null, .null, .null] .null) (Xb : Exa Z h0 b "[Ljava/lang/Object;") (i0 : IoN Z h0 v0) (i1 : IoN Z h0 v1) (i2 : IoN Z h0 v2) :
    Ct l Z EL1 [] [] (⟨"java/util/Arrays", "copyOf", "([Ljava/lang/Object;I)[Ljava/lang/Object;"⟩ : MethodName) jdk_65_method_119_code 2 (some (.array (.object "java/lang/Object"))) ({ frames := 2, cells := 1, slots := 3, locals := 33 } : Room) #[(.ref b), (.int (3 : Int32))] h0 (fun v h => ∃ (r : Addr) (kr : ClassId), v = some (.ref r) ∧ Ext h0 h ∧ h0.size ≤ r ∧ Arv Z h r kr (.object "java/lang/Object") 3 [v0, v1, v2] .null) := by
  refine Ct.of_seg (a0 := a0) (plainFor_of_name pn_java_util_Arrays) G.2.1 (ef_ct_cpo2_3 d0 kd e0 mo ma b kb v0 v1 v2) ?_
  refine Seg.aloadN d10_0 rfl rfl (pc' := 1) rfl ?_
  refine Seg.iloadN d10_1 rfl (pc' := 2) rfl ?_
  refine Seg.aloadN d10_2 rfl rfl (pc' := 3) rfl ?_
  refine Seg.getC (wd G 72 rfl) (wd G 73 rfl) (nf_sel (wd G 75 rfl)) (wd G 75 rfl) (wd G 74 rfl) (wd G 76 rfl) Xb N.2.2.2.2.1 rfl d10_3 (pc' := 6) rfl (by decide) (W := 2) (Nat.le_of_eq rfl) (by decide) ?_
  refine Seg.callS (y' := (⟨"java/util/Arrays", "copyOf", "([Ljava/lang/Object;ILjava/lang/Class;)[Ljava/lang/Object;"⟩ : MethodName)) (wd G 78 rfl) (wd G 79 rfl) (wd G 70 rfl) (wd G 80 rfl) ⟨by decide, by decide⟩ (Pays.of_ct (W := 0) (ct_cpo3_3 G d0 kd e0 mo ma b kb v0 v1 v2 h0 N Ab i0 i1 i2) all0 (wd G 80 rfl) (wd G 70 rfl) (by decide) (by decide) rfl rfl) (argsL := [(.ref b), (.int (3 : Int32)), (.ref mo)]) (rest := []) rfl (lenOf pd_6 rfl) rfl (Nat.le_of_eq rfl) rfl d10_6 (pc' := 9) rfl (k' := 1) (n' := 3) rfl rfl (by decide) (by decide) ?_
  intro v_1 h_4 sz_2 q_3
  obtain ⟨r, kr, rfl, E1, g1, A1⟩ := q_3
  exact Seg.retA rfl rfl rfl d10_9 (by decide) (by decide) ⟨r, kr, rfl, E1, g1, A1⟩
theorem ef_ct_ta_3 (d0 : Addr) (kd : ClassId) (e0 : Addr) (mo : Addr) (ma : Addr) (a : Addr) (b : Addr) (kb : ClassId) (v0 : Value) (v1 : Value) (v2 : Value) (m : MethodId) : entryFrame m #[(.ref a)] 1 = mkF m 0 #[.val (.ref a)] [] := by first | (simp [entryFrame, mkF, argsToLocals, Value.category]; done) | rfl
set_option maxRecDepth 65536 in
set_option maxHeartbeats 4000000 in
theorem ct_ta_3 {l : Launch} {Z : State} {a0 : Array Value} (G : Env1 Z a0) (d0 : Addr) (kd : ClassId) (e0 : Addr) (mo : Addr) (ma : Addr) (a : Addr) (b : Addr) (kb : ClassId) (v0 : Value) (v1 : Value) (v2 : Value) (h0 : Heap) (N : Pins Z d0 kd e0 mo ma) (F1 : Fld Z h0 a "java/util/ArrayList" "elementData" "[Ljava/lang/Object;" (.ref b)) (F2 : Fld Z h0 a "java/util/ArrayList" "size" "I" (.int 3)) (Ab : Arv Z h0 b kb (.object "java/lang/Object") 10 [v0, v1, v2, .null, .null, .null, .null, .null, .null, .null] .null) (Xb : Exa Z h0 b "[Ljava/lang/Object;") (i0 : IoN Z h0 v0) (i1 : IoN Z h0 v1) (i2 : IoN Z h0 v2) :
    Ct l Z EL1 [] [] (⟨"java/util/ArrayList", "toArray", "()[Ljava/lang/Object;"⟩ : MethodName) jdk_38_method_16_code 1 (some (.array (.object "java/lang/Object"))) ({ frames := 3, cells := 1, slots := 3, locals := 46 } : Room) #[(.ref a)] h0 (fun v h => ∃ (r : Addr) (kr : ClassId), v = some (.ref r) ∧ Ext h0 h ∧ h0.size ≤ r ∧ Arv Z h r kr (.object "java/lang/Object") 3 [v0, v1, v2] .null) := by
  refine Ct.of_seg (a0 := a0) (plainFor_of_name pn_java_util_ArrayList) G.2.1 (ef_ct_ta_3 d0 kd e0 mo ma a b kb v0 v1 v2) ?_
  refine Seg.aloadN d9_0 rfl rfl (pc' := 1) rfl ?_
  refine Seg.getF (host := "") (Or.inl (wd G 32 rfl)) Via.refl F1 d9_1 (pc' := 4) rfl ?_
  refine Seg.aloadN d9_4 rfl rfl (pc' := 5) rfl ?_
  refine Seg.getF (host := "") (Or.inl (wd G 66 rfl)) Via.refl F2 d9_5 (pc' := 8) rfl ?_
  refine Seg.callS (y' := (⟨"java/util/Arrays", "copyOf", "([Ljava/lang/Object;I)[Ljava/lang/Object;"⟩ : MethodName)) (wd G 68 rfl) (wd G 69 rfl) (wd G 70 rfl) (wd G 71 rfl) ⟨by decide, by decide⟩ (Pays.of_ct (W := 0) (ct_cpo2_3 G d0 kd e0 mo ma b kb v0 v1 v2 h0 N Ab Xb i0 i1 i2) all0 (wd G 71 rfl) (wd G 70 rfl) (by decide) (by decide) rfl rfl) (argsL := [(.ref b), (.int (3 : Int32))]) (rest := []) rfl (lenOf pd_7 rfl) rfl (Nat.le_of_eq rfl) rfl d9_8 (pc' := 11) rfl (k' := 1) (n' := 3) rfl rfl (by decide) (by decide) ?_
  intro v_1 h_4 sz_2 q_3
  obtain ⟨r, kr, rfl, E1, g1, A1⟩ := q_3
  exact Seg.retA rfl rfl rfl d9_11 (by decide) (by decide) ⟨r, kr, rfl, E1, g1, A1⟩
theorem ef_ct_ic_3 (d0 : Addr) (kd : ClassId) (e0 : Addr) (mo : Addr) (ma : Addr) (x : Addr) (a : Addr) (o0 : Value) (o1 : Value) (o2 : Value) (b : Addr) (kb : ClassId) (v0 : Value) (v1 : Value) (v2 : Value) (m : MethodId) : entryFrame m #[(.ref x), (.ref a)] 3 = mkF m 0 #[.val (.ref x), .val (.ref a), .unset] [] := by first | (simp [entryFrame, mkF, argsToLocals, Value.category]; done) | rfl
set_option maxRecDepth 65536 in
set_option maxHeartbeats 4000000 in
theorem ct_ic_3 {l : Launch} {Z : State} {a0 : Array Value} (G : Env1 Z a0) (d0 : Addr) (kd : ClassId) (e0 : Addr) (mo : Addr) (ma : Addr) (x : Addr) (a : Addr) (o0 : Value) (o1 : Value) (o2 : Value) (b : Addr) (kb : ClassId) (v0 : Value) (v1 : Value) (v2 : Value) (h0 : Heap) (N : Pins Z d0 kd e0 mo ma) (A : Exa Z h0 x "java/util/ArrayList") (H0 : Fld Z h0 x "java/util/AbstractList" "modCount" "I" o0) (H1 : Fld Z h0 x "java/util/ArrayList" "elementData" "[Ljava/lang/Object;" o1) (H2 : Fld Z h0 x "java/util/ArrayList" "size" "I" o2) (Xa : Exa Z h0 a "java/util/ArrayList") (F1 : Fld Z h0 a "java/util/ArrayList" "elementData" "[Ljava/lang/Object;" (.ref b)) (F2 : Fld Z h0 a "java/util/ArrayList" "size" "I" (.int 3)) (Ab : Arv Z h0 b kb (.object "java/lang/Object") 10 [v0, v1, v2, .null, .null, .null, .null, .null, .null, .null] .null) (Xb : Exa Z h0 b "[Ljava/lang/Object;") (i0 : IoN Z h0 v0) (i1 : IoN Z h0 v1) (i2 : IoN Z h0 v2) (nax : a ≠ x) (nbx : b ≠ x) :
    Ct l Z EL1 [x] [] (⟨"java/util/ArrayList", "<init>", "(Ljava/util/Collection;)V"⟩ : MethodName) jdk_38_method_3_code 3 none ({ frames := 4, cells := 1, slots := 3, locals := 58 } : Room) #[(.ref x), (.ref a)] h0 (fun v h => v = none ∧ ∃ (r : Addr) (kr : ClassId), h0.size ≤ r ∧ Keep h0 h [x] ∧ Fld Z h x "java/util/ArrayList" "elementData" "[Ljava/lang/Object;" (.ref r) ∧ Fld Z h x "java/util/ArrayList" "size" "I" (.int 3) ∧ Arv Z h r kr (.object "java/lang/Object") 3 [v0, v1, v2] .null) := by
  refine Ct.of_seg (a0 := a0) (plainFor_of_name pn_java_util_ArrayList) G.2.1 (ef_ct_ic_3 d0 kd e0 mo ma x a o0 o1 o2 b kb v0 v1 v2) ?_
  refine Seg.aloadN d8_0 rfl rfl (pc' := 1) rfl ?_
  refine Seg.callN (y' := (⟨"java/util/AbstractList", "<init>", "()V"⟩ : MethodName)) (a := x) rfl (wd G 14 rfl) (wd G 15 rfl) (wd G 19 rfl) ⟨by decide, by decide⟩ (Pays.of_ct (W := 0) (ct_abA G x o0 o1 o2 h0 A H0 H1 H2) (allS (List.mem_of_getElem? (i := 0) rfl) all0) (wd G 19 rfl) (wd G 18 rfl) (by decide) (by decide) rfl rfl) (argsL := []) (rest := []) rfl (lenOf pd_0 rfl) rfl (Nat.le_of_eq rfl) rfl d8_1 (pc' := 4) rfl (k' := 0) (n' := 0) rfl rfl (by decide) (by decide) ?_
  intro v_1 h_4 sz_2 q_3
  obtain ⟨rfl, K1, G0, G1, G2⟩ := q_3
  refine Seg.aloadN d8_4 rfl rfl (pc' := 5) rfl ?_
  have F_5 := (F1.keep K1 (ninS nax nin0))
  have F_6 := (F2.keep K1 (ninS nax nin0))
  have F_7 := (Ab.keep K1 (ninS nbx nin0))
  have F_8 := (Xb.keep K1)
  have F_9 := (i0.keep K1)
  have F_10 := (i1.keep K1)
  have F_11 := (i2.keep K1)
  have F_12 := (Xa.keep K1)
  refine Seg.callI (y' := (⟨"java/util/Collection", "toArray", "()[Ljava/lang/Object;"⟩ : MethodName)) (z := (⟨"java/util/ArrayList", "toArray", "()[Ljava/lang/Object;"⟩ : MethodName)) (a := a) (wd G 58 rfl) (wd G 59 rfl) (wd G 60 rfl) rfl (wd G 61 rfl) (wd G 62 rfl) (wd G 63 rfl) (wd G 64 rfl) (wd G 54 rfl) ⟨by decide, by decide⟩ F_12 (Pays.of_ct (W := 0) (ct_ta_3 G d0 kd e0 mo ma a b kb v0 v1 v2 h_4 N F_5 F_6 F_7 F_8 F_9 F_10 F_11) all0 (wd G 65 rfl) (wd G 10 rfl) (by decide) (by decide) rfl rfl) (argsL := []) (rest := []) rfl (lenOf pd_4 rfl) rfl (Nat.le_of_eq rfl) rfl d8_5 (pc' := 10) rfl (k' := 1) (n' := 3) rfl rfl (by decide) (by decide) ?_
  intro v_13 h_16 sz_14 q_15
  obtain ⟨r, kr, rfl, E1, g1, A1⟩ := q_15
  have nrx : r ≠ x := Nat.ne_of_gt (Nat.lt_of_lt_of_le A.lt (Nat.le_trans K1.1 g1))
  refine Seg.astoreN (L' := #[.val (.ref x), .val (.ref a), .val (.ref r)]) d8_10 rfl rfl (pc' := 11) rfl ?_
  refine Seg.aloadN d8_11 rfl rfl (pc' := 12) rfl ?_
  refine Seg.aloadN d8_12 rfl rfl (pc' := 13) rfl ?_
  refine Seg.alen A1 d8_13 (pc' := 14) rfl ?_
  refine Seg.dupX1 d8_14 rfl rfl (pc' := 15) rfl ?_
  have F_17 := G2.ext E1
  have F_18 := ((A.keep K1).ext E1)
  refine Seg.putF (host := "") (ty := .int) (v' := (.int (3 : Int32))) (wd G 66 rfl) Via.refl F_17 F_18 (Or.inl (wd G 67 rfl)) (wd G 9 rfl) (by decide) rfl rfl (List.mem_of_getElem? (i := 0) rfl) d8_15 (pc' := 18) rfl ?_
  intro h_21 W_19 F_20
  refine Seg.ifN d8_18 (by decide) (pc' := 21) rfl ?_
  refine Seg.aloadN d8_21 rfl rfl (pc' := 22) rfl ?_
  have F_22 := ((F_12.ext E1).wr W_19)
  refine Seg.getCI (xi := (⟨"java/util/Collection", "getClass", "()Ljava/lang/Class;"⟩ : MethodName)) (wd G 142 rfl) (wd G 73 rfl) (wd G 143 rfl) (wd G 144 rfl) (wd G 74 rfl) (wd G 145 rfl) (wd G 146 rfl) (wd G 54 rfl) (wd G 76 rfl) ⟨by decide, by decide⟩ (by decide) rfl rfl F_22 N.2.2.2.2.2 rfl d8_22 (pc' := 27) rfl (by decide) (W := 0) (Nat.le_of_eq rfl) (by decide) ?_
  refine Seg.ldcM (wd G 148 rfl) N.2.2.2.2.2 d8_27 (pc' := 29) rfl ?_
  refine Seg.acN d8_29 rfl rfl (XT.aa_ne_f rfl) (pc' := 32) rfl ?_
  refine Seg.aloadN d8_32 rfl rfl (pc' := 33) rfl ?_
  refine Seg.aloadN d8_33 rfl rfl (pc' := 34) rfl ?_
  have F_23 := ((G1.ext E1).other W_19 (Or.inr (slot_ne (Or.inl (wd G 33 rfl)) (Or.inl (wd G 67 rfl)) (by decide) (t := (.array (.object "java/lang/Object"))) (t' := .int) (by decide) (by decide))))
  have F_24 := (F_18.wr W_19)
  refine Seg.putF (host := "") (ty := (.array (.object "java/lang/Object"))) (v' := (.ref r)) (wd G 32 rfl) Via.refl F_23 F_24 (Or.inl (wd G 33 rfl)) (wd G 9 rfl) (by decide) rfl rfl (List.mem_of_getElem? (i := 0) rfl) d8_34 (pc' := 37) rfl ?_
  intro h_27 W_25 F_26
  refine Seg.goto (pc' := 64) d8_37 (by decide) (by decide) ?_
  have F_28 := (F_20.other W_25 (Or.inr (slot_ne (Or.inl (wd G 67 rfl)) (Or.inl (wd G 33 rfl)) (by decide) (t := .int) (t' := (.array (.object "java/lang/Object"))) (by decide) (by decide))))
  have F_29 := ((A1.keep (Keep.of_wr W_19) (ninS nrx nin0)).keep (Keep.of_wr W_25) (ninS nrx nin0))
  exact Seg.ret0 rfl d8_64 (by decide) (by decide) ⟨rfl, r, kr, (Nat.le_trans K1.1 g1), (((((Keep.refl h0 [x]).trans K1 (allS (Or.inl (List.mem_of_getElem? (i := 0) rfl)) all0)).ext E1).wr W_19 (Or.inl (List.mem_of_getElem? (i := 0) rfl))).wr W_25 (Or.inl (List.mem_of_getElem? (i := 0) rfl))), F_26, F_28, F_29⟩
theorem ef_ct_of_3 (d0 : Addr) (kd : ClassId) (e0 : Addr) (mo : Addr) (ma : Addr) (a : Addr) (b : Addr) (kb : ClassId) (v0 : Value) (v1 : Value) (v2 : Value) (m : MethodId) : entryFrame m #[(.ref a)] 1 = mkF m 0 #[.val (.ref a)] [] := by first | (simp [entryFrame, mkF, argsToLocals, Value.category]; done) | rfl
set_option maxRecDepth 65536 in
set_option maxHeartbeats 4000000 in
theorem ct_of_3 {l : Launch} {Z : State} {a0 : Array Value} (G : Env1 Z a0) (d0 : Addr) (kd : ClassId) (e0 : Addr) (mo : Addr) (ma : Addr) (a : Addr) (b : Addr) (kb : ClassId) (v0 : Value) (v1 : Value) (v2 : Value) (h0 : Heap) (N : Pins Z d0 kd e0 mo ma) (Xa : Exa Z h0 a "java/util/ArrayList") (F1 : Fld Z h0 a "java/util/ArrayList" "elementData" "[Ljava/lang/Object;" (.ref b)) (F2 : Fld Z h0 a "java/util/ArrayList" "size" "I" (.int 3)) (Ab : Arv Z h0 b kb (.object "java/lang/Object") 10 [v0, v1, v2, .null, .null, .null, .null, .null, .null, .null] .null) (Xb : Exa Z h0 b "[Ljava/lang/Object;") (i0 : IoN Z h0 v0) (i1 : IoN Z h0 v1) (i2 : IoN Z h0 v2) :
    Ct l Z EL1 [] [] (⟨"com/example/reify/reify/EdnList", "of", "(Ljava/util/List;)Lcom/example/reify/reify/EdnList;"⟩ : MethodName) prog_14_method_2_code 1 (some (.object "com/example/reify/reify/EdnList")) ({ frames := 5, cells := 5, slots := 44, locals := 75 } : Room) #[(.ref a)] h0 (fun v h => ∃ (e y : Addr) (r : Addr) (kr : ClassId), v = some (.ref e) ∧ Ext h0 h ∧ h0.size ≤ e ∧ h0.size ≤ y ∧ h0.size ≤ r ∧ Exa Z h e "com/example/reify/reify/EdnList" ∧ Fld Z h e "com/example/reify/reify/EdnList" "elements" "Ljava/util/List;" (.ref y) ∧ Exa Z h y "java/util/ArrayList" ∧ Fld Z h y "java/util/ArrayList" "elementData" "[Ljava/lang/Object;" (.ref r) ∧ Fld Z h y "java/util/ArrayList" "size" "I" (.int 3) ∧ Arv Z h r kr (.object "java/lang/Object") 3 [v0, v1, v2] .null) := by
  refine Ct.of_seg (a0 := a0) (plainFor_of_name pn_com_example_reify_reify_EdnList) G.2.1 (ef_ct_of_3 d0 kd e0 mo ma a b kb v0 v1 v2) ?_
  refine Seg.newO (wd G 38 rfl) (wd G 39 rfl) (wd G 36 rfl) d6_0 (pc' := 3) rfl (k' := 1) (n' := 2) rfl rfl (by decide) (by decide) ?_
  intro b_1 h_3 E_2 e_b_1 l_b_1 A_b_1 D_b_1
  have F_modCount_b_1 : Fld Z h_3 b_1 "java/util/AbstractList" "modCount" "I" (.int (0 : Int32)) := D_b_1 (Or.inl (wd G 98 rfl)) (ty := .int) (by decide)
  have F_elements_b_1 : Fld Z h_3 b_1 "com/example/reify/reify/EdnList" "elements" "Ljava/util/List;" Value.null := D_b_1 (Or.inr (wd G 100 rfl)) (ty := (.object "java/util/List")) (by decide)
  refine Seg.dup d6_3 rfl (pc' := 4) rfl ?_
  refine Seg.newO (wd G 40 rfl) (wd G 9 rfl) (wd G 10 rfl) d6_4 (pc' := 7) rfl (k' := 2) (n' := 5) rfl rfl (by decide) (by decide) ?_
  intro b_4 h_6 E_5 e_b_4 l_b_4 A_b_4 D_b_4
  have F_modCount_b_4 : Fld Z h_6 b_4 "java/util/AbstractList" "modCount" "I" (.int (0 : Int32)) := D_b_4 (Or.inl (wd G 30 rfl)) (ty := .int) (by decide)
  have F_elementData_b_4 : Fld Z h_6 b_4 "java/util/ArrayList" "elementData" "[Ljava/lang/Object;" Value.null := D_b_4 (Or.inl (wd G 33 rfl)) (ty := (.array (.object "java/lang/Object"))) (by decide)
  have F_size_b_4 : Fld Z h_6 b_4 "java/util/ArrayList" "size" "I" (.int (0 : Int32)) := D_b_4 (Or.inl (wd G 67 rfl)) (ty := .int) (by decide)
  refine Seg.dup d6_7 rfl (pc' := 8) rfl ?_
  refine Seg.aloadN d6_8 rfl rfl (pc' := 9) rfl ?_
  refine Seg.ldcO (text := "elements") (nn := 32) (wd G 41 rfl) (wS G) d6_9 (pc' := 11) rfl (by decide) (by decide) (k' := 4) (n' := 41) rfl rfl (by decide) (by decide) ?_
  intro a_7 h_9 E_8
  refine Seg.callS (y' := (⟨"java/util/Objects", "requireNonNull", "(Ljava/lang/Object;Ljava/lang/String;)Ljava/lang/Object;"⟩ : MethodName)) (wd G 49 rfl) (wd G 50 rfl) (wd G 51 rfl) (wd G 52 rfl) ⟨by decide, by decide⟩ (Pays.of_ct (W := 4) (ct_req G a a_7 h_9) all0 (wd G 52 rfl) (wd G 51 rfl) (by decide) (by decide) rfl rfl) (argsL := [(.ref a), (.ref a_7)]) (rest := [(.ref b_4), (.ref b_4), (.ref b_1), (.ref b_1)]) rfl (lenOf pd_8 rfl) rfl (Nat.le_of_eq rfl) rfl d6_11 (pc' := 14) rfl (k' := 4) (n' := 41) rfl rfl (by decide) (by decide) ?_
  intro v_10 h_13 sz_11 q_12
  obtain ⟨rfl, rfl⟩ := q_12
  have E_14 : Ext h0 h_6 := ext_tr E_2 E_5
  have E_15 : Ext h0 h_9 := ext_tr E_14 E_8
  have F_16 := Xa.ext E_15
  refine Seg.castY (wd G 53 rfl) (Ins.of_exa F_16 (wd G 54 rfl)) d6_14 (pc' := 17) rfl ?_
  have F_17 := A_b_4.ext E_8
  have F_18 := F_modCount_b_4.ext E_8
  have F_19 := F_elementData_b_4.ext E_8
  have F_20 := F_size_b_4.ext E_8
  have F_21 := F1.ext E_15
  have F_22 := F2.ext E_15
  have F_23 := Ab.ext E_15
  have F_24 := Xb.ext E_15
  have F_25 := i0.ext E_15
  have F_26 := i1.ext E_15
  have F_27 := i2.ext E_15
  refine Seg.callN (y' := (⟨"java/util/ArrayList", "<init>", "(Ljava/util/Collection;)V"⟩ : MethodName)) (a := b_4) rfl (wd G 55 rfl) (wd G 56 rfl) (wd G 57 rfl) ⟨by decide, by decide⟩ (Pays.of_ct (W := 3) (ct_ic_3 G d0 kd e0 mo ma b_4 a (.int 0) .null (.int 0) b kb v0 v1 v2 h_9 N F_17 F_18 F_19 F_20 F_16 F_21 F_22 F_23 F_24 F_25 F_26 F_27 (Nat.ne_of_lt (Nat.lt_of_lt_of_le Xa.lt (Nat.le_trans E_2.1 (Nat.le_of_eq e_b_4)))) (Nat.ne_of_lt (Nat.lt_of_lt_of_le Xb.lt (Nat.le_trans E_2.1 (Nat.le_of_eq e_b_4))))) (allS (List.mem_of_getElem? (i := 0) rfl) all0) (wd G 57 rfl) (wd G 10 rfl) (by decide) (by decide) rfl rfl) (argsL := [(.ref a)]) (rest := [(.ref b_4), (.ref b_1), (.ref b_1)]) rfl (lenOf pd_9 rfl) rfl (Nat.le_of_eq rfl) rfl d6_17 (pc' := 20) rfl (k' := 5) (n' := 44) rfl rfl (by decide) (by decide) ?_
  intro v_28 h_31 sz_29 q_30
  obtain ⟨rfl, r, kr, g1, K1, J1, J2, J3⟩ := q_30
  have E_32 : Ext h_3 h_9 := ext_tr E_5 E_8
  have E_33 : Ext h_3 h_31 := ext_kp E_32 K1 (allS (Nat.le_trans (ext_rfl _).1 (Nat.le_of_eq e_b_4)) all0)
  have F_34 := A_b_1.ext E_33
  have F_35 := F_modCount_b_1.ext E_33
  have F_36 := F_elements_b_1.ext E_33
  refine Seg.callN (y' := (⟨"com/example/reify/reify/EdnList", "<init>", "(Ljava/util/List;)V"⟩ : MethodName)) (a := b_1) rfl (wd G 93 rfl) (wd G 94 rfl) (wd G 95 rfl) ⟨by decide, by decide⟩ (Pays.of_ct (W := 1) (ct_ei G b_1 b_4 (.int 0) .null h_31 F_34 F_35 F_36) (allS (List.mem_of_getElem? (i := 1) rfl) all0) (wd G 95 rfl) (wd G 36 rfl) (by decide) (by decide) rfl rfl) (argsL := [(.ref b_4)]) (rest := [(.ref b_1)]) rfl (lenOf pd_10 rfl) rfl (Nat.le_of_eq rfl) rfl d6_20 (pc' := 23) rfl (k' := 5) (n' := 44) rfl rfl (by decide) (by decide) ?_
  intro v_37 h_40 sz_38 q_39
  obtain ⟨rfl, K2, L1⟩ := q_39
  have E_41 : Ext h0 h_31 := ext_kp E_15 K1 (allS (Nat.le_trans E_2.1 (Nat.le_of_eq e_b_4)) all0)
  have E_42 : Ext h0 h_40 := ext_kp E_41 K2 (allS (Nat.le_trans (ext_rfl _).1 (Nat.le_of_eq e_b_1)) all0)
  have F_43 := (F_34.keep K2)
  have F_44 := ((F_17.keep K1).keep K2)
  have F_45 := (J1.keep K2 (ninS (Nat.ne_of_gt (Nat.lt_of_lt_of_le l_b_1 (Nat.le_trans (Nat.le_refl _) (Nat.le_of_eq e_b_4)))) nin0))
  have F_46 := (J2.keep K2 (ninS (Nat.ne_of_gt (Nat.lt_of_lt_of_le l_b_1 (Nat.le_trans (Nat.le_refl _) (Nat.le_of_eq e_b_4)))) nin0))
  have F_47 := (J3.keep K2 (ninS (Nat.ne_of_gt (Nat.lt_of_lt_of_le l_b_1 (Nat.le_trans (Nat.le_trans E_5.1 E_8.1) g1))) nin0))
  exact Seg.retA rfl rfl rfl d6_23 (by decide) (by decide) ⟨b_1, b_4, r, kr, rfl, E_42, (Nat.le_trans (ext_rfl _).1 (Nat.le_of_eq e_b_1)), (Nat.le_trans E_2.1 (Nat.le_of_eq e_b_4)), (Nat.le_trans E_15.1 g1), F_43, L1, F_44, F_45, F_46, F_47⟩
theorem d20_0 : decode jdk_38_method_8_code 0 = .ok (.aload_n 0, 1) := by decide +kernel
theorem d20_1 : decode jdk_38_method_8_code 1 = .ok (.getfield 48, 3) := by decide +kernel
theorem d20_4 : decode jdk_38_method_8_code 4 = .ok (.ireturn, 1) := by decide +kernel
theorem ef_ct_sz (a : Addr) (u : Int32) (m : MethodId) : entryFrame m #[(.ref a)] 1 = mkF m 0 #[.val (.ref a)] [] := by first | (simp [entryFrame, mkF, argsToLocals, Value.category]; done) | rfl
set_option maxRecDepth 65536 in
set_option maxHeartbeats 4000000 in
theorem ct_sz {l : Launch} {Z : State} {a0 : Array Value} (G : Env1 Z a0) (a : Addr) (u : Int32) (h0 : Heap) (F2 : Fld Z h0 a "java/util/ArrayList" "size" "I" (.int u)) :
    Ct l Z EL1 [] [] (⟨"java/util/ArrayList", "size", "()I"⟩ : MethodName) jdk_38_method_8_code 1 (some .int) ({ frames := 0, cells := 0, slots := 0, locals := 0 } : Room) #[(.ref a)] h0 (fun v h => v = some (.int u) ∧ h0 = h) := by
  refine Ct.of_seg (a0 := a0) (plainFor_of_name pn_java_util_ArrayList) G.2.1 (ef_ct_sz a u) ?_
  refine Seg.aloadN d20_0 rfl rfl (pc' := 1) rfl ?_
  refine Seg.getF (host := "") (Or.inl (wd G 66 rfl)) Via.refl F2 d20_1 (pc' := 4) rfl ?_
  exact Seg.retI rfl d20_4 (by decide) (by decide) ⟨rfl, rfl⟩
theorem d19_0 : decode prog_14_method_4_code 0 = .ok (.aload_n 0, 1) := by decide +kernel
theorem d19_1 : decode prog_14_method_4_code 1 = .ok (.getfield 7, 3) := by decide +kernel
theorem d19_4 : decode prog_14_method_4_code 4 = .ok (.invokeinterface 36 1, 5) := by decide +kernel
theorem pd_11 : parseMethodDescriptor "()I" = some ⟨[], some .int⟩ := by decide +kernel
theorem d19_9 : decode prog_14_method_4_code 9 = .ok (.ireturn, 1) := by decide +kernel
theorem ef_ct_es (e : Addr) (a : Addr) (u : Int32) (m : MethodId) : entryFrame m #[(.ref e)] 1 = mkF m 0 #[.val (.ref e)] [] := by first | (simp [entryFrame, mkF, argsToLocals, Value.category]; done) | rfl
set_option maxRecDepth 65536 in
set_option maxHeartbeats 4000000 in
theorem ct_es {l : Launch} {Z : State} {a0 : Array Value} (G : Env1 Z a0) (e : Addr) (a : Addr) (u : Int32) (h0 : Heap) (F0 : Fld Z h0 e "com/example/reify/reify/EdnList" "elements" "Ljava/util/List;" (.ref a)) (Xa : Exa Z h0 a "java/util/ArrayList") (F2 : Fld Z h0 a "java/util/ArrayList" "size" "I" (.int u)) :
    Ct l Z EL1 [] [] (⟨"com/example/reify/reify/EdnList", "size", "()I"⟩ : MethodName) prog_14_method_4_code 1 (some .int) ({ frames := 1, cells := 0, slots := 0, locals := 12 } : Room) #[(.ref e)] h0 (fun v h => v = some (.int u) ∧ h0 = h) := by
  refine Ct.of_seg (a0 := a0) (plainFor_of_name pn_com_example_reify_reify_EdnList) G.2.1 (ef_ct_es e a u) ?_
  refine Seg.aloadN d19_0 rfl rfl (pc' := 1) rfl ?_
  refine Seg.getF (host := "") (Or.inl (wd G 99 rfl)) Via.refl F0 d19_1 (pc' := 4) rfl ?_
  refine Seg.callI (y' := (⟨"java/util/List", "size", "()I"⟩ : MethodName)) (z := (⟨"java/util/ArrayList", "size", "()I"⟩ : MethodName)) (a := a) (wd G 133 rfl) (wd G 134 rfl) (wd G 135 rfl) rfl (wd G 136 rfl) (wd G 137 rfl) (wd G 138 rfl) (wd G 139 rfl) (wd G 140 rfl) ⟨by decide, by decide⟩ Xa (Pays.of_ct (W := 0) (ct_sz G a u h0 F2) all0 (wd G 141 rfl) (wd G 10 rfl) (by decide) (by decide) rfl rfl) (argsL := []) (rest := []) rfl (lenOf pd_11 rfl) rfl (Nat.le_of_eq rfl) rfl d19_4 (pc' := 9) rfl (k' := 0) (n' := 0) rfl rfl (by decide) (by decide) ?_
  intro v_1 h_4 sz_2 q_3
  obtain ⟨rfl, rfl⟩ := q_3
  exact Seg.retI rfl d19_9 (by decide) (by decide) ⟨rfl, rfl⟩
theorem d24_0 : decode jdk_41_method_11_code 0 = .ok (.iload_n 0, 1) := by decide +kernel
theorem d24_1 : decode jdk_41_method_11_code 1 = .ok (.ifCond .lt 8, 3) := by decide +kernel
theorem d24_4 : decode jdk_41_method_11_code 4 = .ok (.iload_n 0, 1) := by decide +kernel
theorem d24_5 : decode jdk_41_method_11_code 5 = .ok (.iload_n 1, 1) := by decide +kernel
theorem d24_6 : decode jdk_41_method_11_code 6 = .ok (.if_icmp .lt 10, 3) := by decide +kernel
theorem d24_16 : decode jdk_41_method_11_code 16 = .ok (.iload_n 0, 1) := by decide +kernel
theorem d24_17 : decode jdk_41_method_11_code 17 = .ok (.ireturn, 1) := by decide +kernel
theorem pn_jdk_internal_util_Preconditions : plainName "jdk/internal/util/Preconditions" = true := by first | (simp [plainName, overriddenIn]; done) | decide +kernel
theorem ef_ct_pci (i : Nat) (n : Nat) (m : MethodId) : entryFrame m #[(.int (Int32.ofNat i)), (.int (Int32.ofNat n)), Value.null] 3 = mkF m 0 #[.val (.int (Int32.ofNat i)), .val (.int (Int32.ofNat n)), .val Value.null] [] := by first | (simp [entryFrame, mkF, argsToLocals, Value.category]; done) | rfl
set_option maxRecDepth 65536 in
set_option maxHeartbeats 4000000 in
theorem ct_pci {l : Launch} {Z : State} {a0 : Array Value} (G : Env1 Z a0) (i : Nat) (n : Nat) (h0 : Heap) (hi : i < n) (hn : n ≤ 10) :
    Ct l Z EL1 [] [] (⟨"jdk/internal/util/Preconditions", "checkIndex", "(IILjava/util/function/BiFunction;)I"⟩ : MethodName) jdk_41_method_11_code 3 (some .int) ({ frames := 0, cells := 0, slots := 0, locals := 0 } : Room) #[(.int (Int32.ofNat i)), (.int (Int32.ofNat n)), Value.null] h0 (fun v h => v = some (.int (Int32.ofNat i)) ∧ h0 = h) := by
  refine Ct.of_seg (a0 := a0) (plainFor_of_name pn_jdk_internal_util_Preconditions) G.2.1 (ef_ct_pci i n) ?_
  refine Seg.iloadN d24_0 rfl (pc' := 1) rfl ?_
  refine Seg.ifN d24_1 (XT.i0_lt_f (n32nn (by omega))) (pc' := 4) rfl ?_
  refine Seg.iloadN d24_4 rfl (pc' := 5) rfl ?_
  refine Seg.iloadN d24_5 rfl (pc' := 6) rfl ?_
  refine Seg.icY (pc' := 16) d24_6 (XT.ii_lt_t (n32lt hi (by omega))) (by decide) (by decide) ?_
  refine Seg.iloadN d24_16 rfl (pc' := 17) rfl ?_
  exact Seg.retI rfl d24_17 (by decide) (by decide) ⟨rfl, rfl⟩
theorem d23_0 : decode jdk_31_method_17_code 0 = .ok (.iload_n 0, 1) := by decide +kernel
theorem d23_1 : decode jdk_31_method_17_code 1 = .ok (.iload_n 1, 1) := by decide +kernel
theorem d23_2 : decode jdk_31_method_17_code 2 = .ok (.aconst_null, 1) := by decide +kernel
theorem d23_3 : decode jdk_31_method_17_code 3 = .ok (.invokestatic 105, 3) := by decide +kernel
theorem pd_12 : parseMethodDescriptor "(IILjava/util/function/BiFunction;)I" = some ⟨[.int, .int, (.object "java/util/function/BiFunction")], some .int⟩ := by decide +kernel
theorem d23_6 : decode jdk_31_method_17_code 6 = .ok (.ireturn, 1) := by decide +kernel
theorem ef_ct_oci (i : Nat) (n : Nat) (m : MethodId) : entryFrame m #[(.int (Int32.ofNat i)), (.int (Int32.ofNat n))] 2 = mkF m 0 #[.val (.int (Int32.ofNat i)), .val (.int (Int32.ofNat n))] [] := by first | (simp [entryFrame, mkF, argsToLocals, Value.category]; done) | rfl
set_option maxRecDepth 65536 in
set_option maxHeartbeats 4000000 in
theorem ct_oci {l : Launch} {Z : State} {a0 : Array Value} (G : Env1 Z a0) (i : Nat) (n : Nat) (h0 : Heap) (hi : i < n) (hn : n ≤ 10) :
    Ct l Z EL1 [] [] (⟨"java/util/Objects", "checkIndex", "(II)I"⟩ : MethodName) jdk_31_method_17_code 2 (some .int) ({ frames := 1, cells := 0, slots := 0, locals := 14 } : Room) #[(.int (Int32.ofNat i)), (.int (Int32.ofNat n))] h0 (fun v h => v = some (.int (Int32.ofNat i)) ∧ h0 = h) := by
  refine Ct.of_seg (a0 := a0) (plainFor_of_name pn_java_util_Objects) G.2.1 (ef_ct_oci i n) ?_
  refine Seg.iloadN d23_0 rfl (pc' := 1) rfl ?_
  refine Seg.iloadN d23_1 rfl (pc' := 2) rfl ?_
  refine Seg.anull d23_2 (pc' := 3) rfl ?_
  refine Seg.callS (y' := (⟨"jdk/internal/util/Preconditions", "checkIndex", "(IILjava/util/function/BiFunction;)I"⟩ : MethodName)) (wd G 165 rfl) (wd G 166 rfl) (wd G 167 rfl) (wd G 168 rfl) ⟨by decide, by decide⟩ (Pays.of_ct (W := 0) (ct_pci G i n h0 hi hn) all0 (wd G 168 rfl) (wd G 167 rfl) (by decide) (by decide) rfl rfl) (argsL := [(.int (Int32.ofNat i)), (.int (Int32.ofNat n)), Value.null]) (rest := []) rfl (lenOf pd_12 rfl) rfl (Nat.le_of_eq rfl) rfl d23_3 (pc' := 6) rfl (k' := 0) (n' := 0) rfl rfl (by decide) (by decide) ?_
  intro v_1 h_4 sz_2 q_3
  obtain ⟨rfl, rfl⟩ := q_3
  exact Seg.retI rfl d23_6 (by decide) (by decide) ⟨rfl, rfl⟩
theorem d25_0 : decode jdk_38_method_18_code 0 = .ok (.aload_n 0, 1) := by decide +kernel
theorem d25_1 : decode jdk_38_method_18_code 1 = .ok (.getfield 9, 3) := by decide +kernel
theorem d25_4 : decode jdk_38_method_18_code 4 = .ok (.iload_n 1, 1) := by decide +kernel
theorem d25_5 : decode jdk_38_method_18_code 5 = .ok (.aaload, 1) := by decide +kernel
theorem d25_6 : decode jdk_38_method_18_code 6 = .ok (.areturn, 1) := by decide +kernel
theorem ef_ct_ed (a : Addr) (r : Addr) (kr : ClassId) (vs : List Value) (vv : Value) (i : Nat) (n : Nat) (m : MethodId) : entryFrame m #[(.ref a), (.int (Int32.ofNat i))] 2 = mkF m 0 #[.val (.ref a), .val (.int (Int32.ofNat i))] [] := by first | (simp [entryFrame, mkF, argsToLocals, Value.category]; done) | rfl
set_option maxRecDepth 65536 in
set_option maxHeartbeats 4000000 in
theorem ct_ed {l : Launch} {Z : State} {a0 : Array Value} (G : Env1 Z a0) (a : Addr) (r : Addr) (kr : ClassId) (vs : List Value) (vv : Value) (i : Nat) (n : Nat) (h0 : Heap) (F1 : Fld Z h0 a "java/util/ArrayList" "elementData" "[Ljava/lang/Object;" (.ref r)) (Ar : Arv Z h0 r kr (.object "java/lang/Object") (Int32.ofNat n) vs .null) (hi : i < n) (hn : n ≤ 10) (hve : vs.getD i .null = vv) (hvr : vv.isRef = true) :
    Ct l Z EL1 [] [] (⟨"java/util/ArrayList", "elementData", "(I)Ljava/lang/Object;"⟩ : MethodName) jdk_38_method_18_code 2 (some (.object "java/lang/Object")) ({ frames := 0, cells := 0, slots := 0, locals := 0 } : Room) #[(.ref a), (.int (Int32.ofNat i))] h0 (fun v h => v = some vv ∧ h0 = h) := by
  refine Ct.of_seg (a0 := a0) (plainFor_of_name pn_java_util_ArrayList) G.2.1 (ef_ct_ed a r kr vs vv i n) ?_
  refine Seg.aloadN d25_0 rfl rfl (pc' := 1) rfl ?_
  refine Seg.getF (host := "") (Or.inl (wd G 32 rfl)) Via.refl F1 d25_1 (pc' := 4) rfl ?_
  refine Seg.iloadN d25_4 rfl (pc' := 5) rfl ?_
  refine Seg.aaload (v := vv) rfl Ar (n32in hi (by omega)) (by rw [n32c (by omega)]; exact hve) d25_5 (pc' := 6) rfl ?_
  exact Seg.retA rfl rfl hvr d25_6 (by decide) (by decide) ⟨rfl, rfl⟩
theorem d22_0 : decode jdk_38_method_20_code 0 = .ok (.iload_n 1, 1) := by decide +kernel
theorem d22_1 : decode jdk_38_method_20_code 1 = .ok (.aload_n 0, 1) := by decide +kernel
theorem d22_2 : decode jdk_38_method_20_code 2 = .ok (.getfield 48, 3) := by decide +kernel
theorem d22_5 : decode jdk_38_method_20_code 5 = .ok (.invokestatic 118, 3) := by decide +kernel
theorem d22_8 : decode jdk_38_method_20_code 8 = .ok (.pop, 1) := by decide +kernel
theorem d22_9 : decode jdk_38_method_20_code 9 = .ok (.aload_n 0, 1) := by decide +kernel
theorem d22_10 : decode jdk_38_method_20_code 10 = .ok (.iload_n 1, 1) := by decide +kernel
theorem d22_11 : decode jdk_38_method_20_code 11 = .ok (.invokevirtual 123, 3) := by decide +kernel
theorem pd_13 : parseMethodDescriptor "(I)Ljava/lang/Object;" = some ⟨[.int], some (.object "java/lang/Object")⟩ := by decide +kernel
theorem d22_14 : decode jdk_38_method_20_code 14 = .ok (.areturn, 1) := by decide +kernel
theorem ef_ct_get (a : Addr) (r : Addr) (kr : ClassId) (vs : List Value) (vv : Value) (i : Nat) (n : Nat) (m : MethodId) : entryFrame m #[(.ref a), (.int (Int32.ofNat i))] 2 = mkF m 0 #[.val (.ref a), .val (.int (Int32.ofNat i))] [] := by first | (simp [entryFrame, mkF, argsToLocals, Value.category]; done) | rfl
set_option maxRecDepth 65536 in
set_option maxHeartbeats 4000000 in
theorem ct_get {l : Launch} {Z : State} {a0 : Array Value} (G : Env1 Z a0) (a : Addr) (r : Addr) (kr : ClassId) (vs : List Value) (vv : Value) (i : Nat) (n : Nat) (h0 : Heap) (Xa : Exa Z h0 a "java/util/ArrayList") (F2 : Fld Z h0 a "java/util/ArrayList" "size" "I" (.int (Int32.ofNat n))) (F1 : Fld Z h0 a "java/util/ArrayList" "elementData" "[Ljava/lang/Object;" (.ref r)) (Ar : Arv Z h0 r kr (.object "java/lang/Object") (Int32.ofNat n) vs .null) (hi : i < n) (hn : n ≤ 10) (hve : vs.getD i .null = vv) (hvr : vv.isRef = true) :
    Ct l Z EL1 [] [] (⟨"java/util/ArrayList", "get", "(I)Ljava/lang/Object;"⟩ : MethodName) jdk_38_method_20_code 2 (some (.object "java/lang/Object")) ({ frames := 2, cells := 0, slots := 0, locals := 27 } : Room) #[(.ref a), (.int (Int32.ofNat i))] h0 (fun v h => v = some vv ∧ h0 = h) := by
  refine Ct.of_seg (a0 := a0) (plainFor_of_name pn_java_util_ArrayList) G.2.1 (ef_ct_get a r kr vs vv i n) ?_
  refine Seg.iloadN d22_0 rfl (pc' := 1) rfl ?_
  refine Seg.aloadN d22_1 rfl rfl (pc' := 2) rfl ?_
  refine Seg.getF (host := "") (Or.inl (wd G 66 rfl)) Via.refl F2 d22_2 (pc' := 5) rfl ?_
  refine Seg.callS (y' := (⟨"java/util/Objects", "checkIndex", "(II)I"⟩ : MethodName)) (wd G 162 rfl) (wd G 163 rfl) (wd G 51 rfl) (wd G 164 rfl) ⟨by decide, by decide⟩ (Pays.of_ct (W := 0) (ct_oci G i n h0 hi hn) all0 (wd G 164 rfl) (wd G 51 rfl) (by decide) (by decide) rfl rfl) (argsL := [(.int (Int32.ofNat i)), (.int (Int32.ofNat n))]) (rest := []) rfl (lenOf pd_2 rfl) rfl (Nat.le_of_eq rfl) rfl d22_5 (pc' := 8) rfl (k' := 0) (n' := 0) rfl rfl (by decide) (by decide) ?_
  intro v_1 h_4 sz_2 q_3
  obtain ⟨rfl, rfl⟩ := q_3
  refine Seg.pop d22_8 rfl (pc' := 9) rfl ?_
  refine Seg.aloadN d22_9 rfl rfl (pc' := 10) rfl ?_
  refine Seg.iloadN d22_10 rfl (pc' := 11) rfl ?_
  refine Seg.callV (y' := (⟨"java/util/ArrayList", "elementData", "(I)Ljava/lang/Object;"⟩ : MethodName)) (z := (⟨"java/util/ArrayList", "elementData", "(I)Ljava/lang/Object;"⟩ : MethodName)) (a := a) (wd G 169 rfl) (wd G 170 rfl) (nf_sel (wd G 172 rfl)) (wd G 172 rfl) (wd G 171 rfl) ⟨by decide, by decide⟩ Xa (Pays.of_ct (W := 0) (ct_ed G a r kr vs vv i n h0 F1 Ar hi hn hve hvr) all0 (wd G 173 rfl) (wd G 10 rfl) (by decide) (by decide) rfl rfl) (argsL := [(.int (Int32.ofNat i))]) (rest := []) rfl (lenOf pd_13 rfl) rfl (Nat.le_of_eq rfl) rfl d22_11 (pc' := 14) rfl (k' := 0) (n' := 0) rfl rfl (by decide) (by decide) ?_
  intro v_5 h_8 sz_6 q_7
  obtain ⟨rfl, rfl⟩ := q_7
  exact Seg.retA rfl rfl hvr d22_14 (by decide) (by decide) ⟨rfl, rfl⟩
theorem d21_0 : decode prog_14_method_3_code 0 = .ok (.aload_n 0, 1) := by decide +kernel
theorem d21_1 : decode prog_14_method_3_code 1 = .ok (.getfield 7, 3) := by decide +kernel
theorem d21_4 : decode prog_14_method_3_code 4 = .ok (.iload_n 1, 1) := by decide +kernel
theorem d21_5 : decode prog_14_method_3_code 5 = .ok (.invokeinterface 30 2, 5) := by decide +kernel
theorem d21_10 : decode prog_14_method_3_code 10 = .ok (.areturn, 1) := by decide +kernel
theorem ef_ct_eg (e : Addr) (a : Addr) (r : Addr) (kr : ClassId) (vs : List Value) (vv : Value) (i : Nat) (n : Nat) (m : MethodId) : entryFrame m #[(.ref e), (.int (Int32.ofNat i))] 2 = mkF m 0 #[.val (.ref e), .val (.int (Int32.ofNat i))] [] := by first | (simp [entryFrame, mkF, argsToLocals, Value.category]; done) | rfl
set_option maxRecDepth 65536 in
set_option maxHeartbeats 4000000 in
theorem ct_eg {l : Launch} {Z : State} {a0 : Array Value} (G : Env1 Z a0) (e : Addr) (a : Addr) (r : Addr) (kr : ClassId) (vs : List Value) (vv : Value) (i : Nat) (n : Nat) (h0 : Heap) (F0 : Fld Z h0 e "com/example/reify/reify/EdnList" "elements" "Ljava/util/List;" (.ref a)) (Xa : Exa Z h0 a "java/util/ArrayList") (F2 : Fld Z h0 a "java/util/ArrayList" "size" "I" (.int (Int32.ofNat n))) (F1 : Fld Z h0 a "java/util/ArrayList" "elementData" "[Ljava/lang/Object;" (.ref r)) (Ar : Arv Z h0 r kr (.object "java/lang/Object") (Int32.ofNat n) vs .null) (hi : i < n) (hn : n ≤ 10) (hve : vs.getD i .null = vv) (hvr : vv.isRef = true) :
    Ct l Z EL1 [] [] (⟨"com/example/reify/reify/EdnList", "get", "(I)Ljava/lang/Object;"⟩ : MethodName) prog_14_method_3_code 2 (some (.object "java/lang/Object")) ({ frames := 3, cells := 0, slots := 0, locals := 40 } : Room) #[(.ref e), (.int (Int32.ofNat i))] h0 (fun v h => v = some vv ∧ h0 = h) := by
  refine Ct.of_seg (a0 := a0) (plainFor_of_name pn_com_example_reify_reify_EdnList) G.2.1 (ef_ct_eg e a r kr vs vv i n) ?_
  refine Seg.aloadN d21_0 rfl rfl (pc' := 1) rfl ?_
  refine Seg.getF (host := "") (Or.inl (wd G 99 rfl)) Via.refl F0 d21_1 (pc' := 4) rfl ?_
  refine Seg.iloadN d21_4 rfl (pc' := 5) rfl ?_
  refine Seg.callI (y' := (⟨"java/util/List", "get", "(I)Ljava/lang/Object;"⟩ : MethodName)) (z := (⟨"java/util/ArrayList", "get", "(I)Ljava/lang/Object;"⟩ : MethodName)) (a := a) (wd G 154 rfl) (wd G 155 rfl) (wd G 156 rfl) rfl (wd G 157 rfl) (wd G 158 rfl) (wd G 159 rfl) (wd G 160 rfl) (wd G 140 rfl) ⟨by decide, by decide⟩ Xa (Pays.of_ct (W := 0) (ct_get G a r kr vs vv i n h0 Xa F2 F1 Ar hi hn hve hvr) all0 (wd G 161 rfl) (wd G 10 rfl) (by decide) (by decide) rfl rfl) (argsL := [(.int (Int32.ofNat i))]) (rest := []) rfl (lenOf pd_13 rfl) rfl (Nat.le_of_eq rfl) rfl d21_5 (pc' := 10) rfl (k' := 0) (n' := 0) rfl rfl (by decide) (by decide) ?_
  intro v_1 h_4 sz_2 q_3
  obtain ⟨rfl, rfl⟩ := q_3
  exact Seg.retA rfl rfl hvr d21_10 (by decide) (by decide) ⟨rfl, rfl⟩
theorem pd_14 : parseMethodDescriptor "(Ljava/util/List;)Lcom/example/reify/reify/EdnList;" = some ⟨[(.object "java/util/List")], some (.object "com/example/reify/reify/EdnList")⟩ := by decide +kernel
theorem pd_15 : parseMethodDescriptor "(Ljava/lang/Object;)Z" = some ⟨[(.object "java/lang/Object")], some .boolean⟩ := by decide +kernel
set_option maxRecDepth 65536 in
set_option maxHeartbeats 4000000 in
theorem sg76 {l : Launch} {Z : State} {a0 : Array Value} (G : Env1 Z a0) (p1 : Int32) (p2 : Int32) (p3 : Int32) (p4 : Int32) (p5 : Int32) (p6 : Int32) (n : Nat) (x0 : Value) (x1 : Value) (x2 : Value) (x3 : Value) (h : Heap) (hn : n < 4) (i0 : IoN Z h x0) (i1 : IoN Z h x1) (i2 : IoN Z h x2) (i3 : IoN Z h x3) :
    Seg l Z a0 EL1 x code maxLocals ret room_1 (fun v h => v = some (.int 1)) h 4 4 [] 76 #[.val (.int p1), .val (.int p2), .val (.int p3), .val (.int p4), .val (.int p5), .val (.int p6), .val (.int (Int32.ofNat n)), .val x0, .val x1, .val x2, .unset, .unset, .unset, .unset] [x3] := by
  obtain ⟨d0, kd, e0, mo, ma, N⟩ := G.2.2.2
  refine Seg.start fun hZ0 => ?_
  refine Seg.astore (L' := #[.val (.int p1), .val (.int p2), .val (.int p3), .val (.int p4), .val (.int p5), .val (.int p6), .val (.int (Int32.ofNat n)), .val x0, .val x1, .val x2, .val x3, .unset, .unset, .unset]) at_76 i3.isRef (by rcases ref_cases i3.isRef with rfl | ⟨_, rfl⟩ <;> rfl) (pc' := 78) rfl ?_
  refine Seg.newO (wd G 8 rfl) (wd G 9 rfl) (wd G 10 rfl) at_78 (pc' := 81) rfl (k' := 5) (n' := 7) rfl rfl (by decide) (by decide) ?_
  intro b_1 h_3 E_2 e_b_1 l_b_1 A_b_1 D_b_1
  have F_modCount_b_1 : Fld Z h_3 b_1 "java/util/AbstractList" "modCount" "I" (.int (0 : Int32)) := D_b_1 (Or.inl (wd G 30 rfl)) (ty := .int) (by decide)
  have F_elementData_b_1 : Fld Z h_3 b_1 "java/util/ArrayList" "elementData" "[Ljava/lang/Object;" Value.null := D_b_1 (Or.inl (wd G 33 rfl)) (ty := (.array (.object "java/lang/Object"))) (by decide)
  have F_size_b_1 : Fld Z h_3 b_1 "java/util/ArrayList" "size" "I" (.int (0 : Int32)) := D_b_1 (Or.inl (wd G 67 rfl)) (ty := .int) (by decide)
  refine Seg.dup at_81 rfl (pc' := 82) rfl ?_
  refine Seg.callN (y' := (⟨"java/util/ArrayList", "<init>", "()V"⟩ : MethodName)) (a := b_1) rfl (wd G 11 rfl) (wd G 12 rfl) (wd G 13 rfl) ⟨by decide, by decide⟩ (Pays.of_ct (W := 1) (ct_al G d0 kd e0 mo ma b_1 (.int 0) .null (.int 0) h_3 N A_b_1 F_modCount_b_1 F_elementData_b_1 F_size_b_1) (allS (List.mem_of_getElem? (i := 0) rfl) all0) (wd G 13 rfl) (wd G 10 rfl) (by decide) (by decide) rfl rfl) (argsL := []) (rest := [(.ref b_1)]) rfl (lenOf pd_0 rfl) rfl (Nat.le_of_eq rfl) rfl at_82 (pc' := 85) rfl (k' := 5) (n' := 7) rfl rfl (by decide) (by decide) ?_
  intro v_4 h_7 sz_5 q_6
  obtain ⟨rfl, K1, G0, G1, G2⟩ := q_6
  refine Seg.astore (L' := #[.val (.int p1), .val (.int p2), .val (.int p3), .val (.int p4), .val (.int p5), .val (.int p6), .val (.int (Int32.ofNat n)), .val x0, .val x1, .val x2, .val x3, .val (.ref b_1), .unset, .unset]) at_85 rfl rfl (pc' := 87) rfl ?_
  match n, hn with
  | 0, _ =>
    show Seg l Z a0 EL1 x code maxLocals ret room_1 (fun v h => v = some (.int 1)) h_7 5 7 [b_1] 87 #[.val (.int p1), .val (.int p2), .val (.int p3), .val (.int p4), .val (.int p5), .val (.int p6), .val (.int (0 : Int32)), .val x0, .val x1, .val x2, .val x3, .val (.ref b_1), .unset, .unset] []
    refine Seg.iload at_87 rfl (pc' := 89) rfl ?_
    refine Seg.ifY (pc' := 100) at_89 (by decide) (by decide) (by decide) ?_
    refine Seg.iload at_100 rfl (pc' := 102) rfl ?_
    refine Seg.iconst (v := 1) at_102 (by decide) (pc' := 103) rfl ?_
    refine Seg.icY (pc' := 114) at_103 (by decide) (by decide) (by decide) ?_
    refine Seg.iload at_114 rfl (pc' := 116) rfl ?_
    refine Seg.iconst (v := 2) at_116 (by decide) (pc' := 117) rfl ?_
    refine Seg.icY (pc' := 128) at_117 (by decide) (by decide) (by decide) ?_
    refine Seg.aload at_128 rfl rfl (pc' := 130) rfl ?_
    have E_8 : Ext h h_7 := ext_kp E_2 K1 (allS (Nat.le_trans (ext_rfl _).1 (Nat.le_of_eq e_b_1)) all0)
    have F_9 := (A_b_1.keep K1)
    refine Seg.callS (y' := (⟨"com/example/reify/reify/EdnList", "of", "(Ljava/util/List;)Lcom/example/reify/reify/EdnList;"⟩ : MethodName)) (wd G 34 rfl) (wd G 35 rfl) (wd G 36 rfl) (wd G 37 rfl) ⟨by decide, by decide⟩ (Pays.of_ct (W := 0) (ct_of_0 G d0 kd e0 mo ma b_1 d0 kd h_7 N F_9 G1 G2 (N.2.1.ext (ext_tr hZ0 E_8)) (N.2.2.1.ext (ext_tr hZ0 E_8))) all0 (wd G 37 rfl) (wd G 36 rfl) (by decide) (by decide) rfl rfl) (argsL := [(.ref b_1)]) (rest := []) rfl (lenOf pd_14 rfl) rfl (Nat.le_of_eq rfl) rfl at_130 (pc' := 133) rfl (k' := 10) (n' := 48) rfl rfl (by decide) (by decide) ?_
    intro v_10 h_13 sz_11 q_12
    obtain ⟨e, y, rfl, E7, ge7, gy7, Xe, Le, Xy, M1, M2⟩ := q_12
    refine Seg.astore (L' := #[.val (.int p1), .val (.int p2), .val (.int p3), .val (.int p4), .val (.int p5), .val (.int p6), .val (.int (0 : Int32)), .val x0, .val x1, .val x2, .val x3, .val (.ref b_1), .val (.ref e), .unset]) at_133 rfl rfl (pc' := 135) rfl ?_
    refine Seg.aload at_135 rfl rfl (pc' := 137) rfl ?_
    refine Seg.aload at_137 rfl i3.isRef (pc' := 139) rfl ?_
    have E_14 : Ext h h_13 := ext_tr E_8 E7
    have F_15 := i3.ext E_14
    have F_16 := F_9.ext E7
    have F_17 := G0.ext E7
    have F_18 := G1.ext E7
    have F_19 := G2.ext E7
    refine Seg.callV (y' := (⟨"java/util/ArrayList", "add", "(Ljava/lang/Object;)Z"⟩ : MethodName)) (z := (⟨"java/util/ArrayList", "add", "(Ljava/lang/Object;)Z"⟩ : MethodName)) (a := b_1) (wd G 101 rfl) (wd G 102 rfl) (nf_sel (wd G 104 rfl)) (wd G 104 rfl) (wd G 103 rfl) ⟨by decide, by decide⟩ F_16 (Pays.of_ct (W := 0) (ct_addG G d0 kd e0 mo ma b_1 (0 : Int32) x3 h_13 N F_16 F_17 F_18 F_19 F_15 F_15.isRef) (allS (List.mem_of_getElem? (i := 0) rfl) all0) (wd G 105 rfl) (wd G 10 rfl) (by decide) (by decide) rfl rfl) (argsL := [x3]) (rest := []) rfl (lenOf pd_15 rfl) rfl (Nat.le_of_eq rfl) rfl at_139 (pc' := 142) rfl (k' := 11) (n' := 58) rfl rfl (by decide) (by decide) ?_
    intro v_20 h_23 sz_21 q_22
    obtain ⟨rfl, r, kr, K5, g5, A5, X5, O5, G0, G1, G2⟩ := q_22
    have l_r := A5.lt
    refine Seg.adopt A5 (fun _ => Nat.le_trans (Nat.le_trans hZ0.1 (Nat.le_trans (Nat.le_trans E_2.1 K1.1) E7.1)) g5) (fun p hp => (noEL p hp).elim) ?_
    refine Seg.pop at_142 rfl (pc' := 143) rfl ?_
    refine Seg.aload at_143 rfl rfl (pc' := 145) rfl ?_
    have F_24 := (Le.keep K5 (ninS (Nat.ne_of_gt (Nat.lt_of_lt_of_le l_b_1 (Nat.le_trans K1.1 ge7))) nin0))
    have F_25 := (Xy.keep K5)
    have F_26 := (M2.keep K5 (ninS (Nat.ne_of_gt (Nat.lt_of_lt_of_le l_b_1 (Nat.le_trans K1.1 gy7))) nin0))
    have F_27 := (Xe.keep K5)
    refine Seg.callV (y' := (⟨"com/example/reify/reify/EdnList", "size", "()I"⟩ : MethodName)) (z := (⟨"com/example/reify/reify/EdnList", "size", "()I"⟩ : MethodName)) (a := e) (wd G 128 rfl) (wd G 129 rfl) (nf_sel (wd G 131 rfl)) (wd G 131 rfl) (wd G 130 rfl) ⟨by decide, by decide⟩ F_27 (Pays.of_ct (W := 0) (ct_es G e y 0 h_23 F_24 F_25 F_26) all0 (wd G 132 rfl) (wd G 36 rfl) (by decide) (by decide) rfl rfl) (argsL := []) (rest := []) rfl (lenOf pd_11 rfl) rfl (Nat.le_of_eq rfl) rfl at_145 (pc' := 148) rfl (k' := 11) (n' := 58) rfl rfl (by decide) (by decide) ?_
    intro v_28 h_31 sz_29 q_30
    obtain ⟨rfl, rfl⟩ := q_30
    refine Seg.iload at_148 rfl (pc' := 150) rfl ?_
    refine Seg.icN at_150 (by decide) (pc' := 153) rfl ?_
    refine Seg.iconst (v := 1) at_153 (by decide) (pc' := 154) rfl ?_
    refine Seg.goto (pc' := 158) at_154 (by decide) (by decide) ?_
    refine Seg.istore (L' := #[.val (.int p1), .val (.int p2), .val (.int p3), .val (.int p4), .val (.int p5), .val (.int p6), .val (.int (0 : Int32)), .val x0, .val x1, .val x2, .val x3, .val (.ref b_1), .val (.ref e), .val (.int (1 : Int32))]) at_158 rfl (pc' := 160) rfl ?_
    refine Seg.iload at_160 rfl (pc' := 162) rfl ?_
    refine Seg.ifN at_162 (by decide) (pc' := 165) rfl ?_
    refine Seg.iload at_165 rfl (pc' := 167) rfl ?_
    refine Seg.ifY (pc' := 188) at_167 (by decide) (by decide) (by decide) ?_
    refine Seg.iload at_188 rfl (pc' := 190) rfl ?_
    refine Seg.ifN at_190 (by decide) (pc' := 193) rfl ?_
    refine Seg.iload at_193 rfl (pc' := 195) rfl ?_
    refine Seg.iconst (v := 1) at_195 (by decide) (pc' := 196) rfl ?_
    refine Seg.icY (pc' := 217) at_196 (by decide) (by decide) (by decide) ?_
    refine Seg.iload at_217 rfl (pc' := 219) rfl ?_
    refine Seg.ifN at_219 (by decide) (pc' := 222) rfl ?_
    refine Seg.iload at_222 rfl (pc' := 224) rfl ?_
    refine Seg.iconst (v := 2) at_224 (by decide) (pc' := 225) rfl ?_
    refine Seg.icY (pc' := 246) at_225 (by decide) (by decide) (by decide) ?_
    refine Seg.iload at_246 rfl (pc' := 248) rfl ?_
    exact Seg.retN (t := .boolean) (w := (1 : Int32)) rfl (by decide) (by decide) at_248 (by decide) (by decide) rfl
  | 1, _ =>
    show Seg l Z a0 EL1 x code maxLocals ret room_1 (fun v h => v = some (.int 1)) h_7 5 7 [b_1] 87 #[.val (.int p1), .val (.int p2), .val (.int p3), .val (.int p4), .val (.int p5), .val (.int p6), .val (.int (1 : Int32)), .val x0, .val x1, .val x2, .val x3, .val (.ref b_1), .unset, .unset] []
    refine Seg.iload at_87 rfl (pc' := 89) rfl ?_
    refine Seg.ifN at_89 (by decide) (pc' := 92) rfl ?_
    refine Seg.aload at_92 rfl rfl (pc' := 94) rfl ?_
    refine Seg.aload at_94 rfl i0.isRef (pc' := 96) rfl ?_
    have E_32 : Ext h h_7 := ext_kp E_2 K1 (allS (Nat.le_trans (ext_rfl _).1 (Nat.le_of_eq e_b_1)) all0)
    have F_33 := i0.ext E_32
    have F_34 := (A_b_1.keep K1)
    refine Seg.callV (y' := (⟨"java/util/ArrayList", "add", "(Ljava/lang/Object;)Z"⟩ : MethodName)) (z := (⟨"java/util/ArrayList", "add", "(Ljava/lang/Object;)Z"⟩ : MethodName)) (a := b_1) (wd G 101 rfl) (wd G 102 rfl) (nf_sel (wd G 104 rfl)) (wd G 104 rfl) (wd G 103 rfl) ⟨by decide, by decide⟩ F_34 (Pays.of_ct (W := 0) (ct_addG G d0 kd e0 mo ma b_1 (0 : Int32) x0 h_7 N F_34 G0 G1 G2 F_33 F_33.isRef) (allS (List.mem_of_getElem? (i := 0) rfl) all0) (wd G 105 rfl) (wd G 10 rfl) (by decide) (by decide) rfl rfl) (argsL := [x0]) (rest := []) rfl (lenOf pd_15 rfl) rfl (Nat.le_of_eq rfl) rfl at_96 (pc' := 99) rfl (k' := 6) (n' := 17) rfl rfl (by decide) (by decide) ?_
    intro v_35 h_38 sz_36 q_37
    obtain ⟨rfl, r, kr, K5, g5, A5, X5, O5, G0, G1, G2⟩ := q_37
    have l_r := A5.lt
    refine Seg.adopt A5 (fun _ => Nat.le_trans (Nat.le_trans hZ0.1 (Nat.le_trans E_2.1 K1.1)) g5) (fun p hp => (noEL p hp).elim) ?_
    refine Seg.pop at_99 rfl (pc' := 100) rfl ?_
    refine Seg.iload at_100 rfl (pc' := 102) rfl ?_
    refine Seg.iconst (v := 1) at_102 (by decide) (pc' := 103) rfl ?_
    refine Seg.icY (pc' := 114) at_103 (by decide) (by decide) (by decide) ?_
    refine Seg.iload at_114 rfl (pc' := 116) rfl ?_
    refine Seg.iconst (v := 2) at_116 (by decide) (pc' := 117) rfl ?_
    refine Seg.icY (pc' := 128) at_117 (by decide) (by decide) (by decide) ?_
    refine Seg.aload at_128 rfl rfl (pc' := 130) rfl ?_
    have F_39 := (F_34.keep K5)
    have E_40 : Ext h h_38 := ext_kp E_32 K5 (allS (Nat.le_trans (ext_rfl _).1 (Nat.le_of_eq e_b_1)) all0)
    have F_41 := i0.ext E_40
    refine Seg.callS (y' := (⟨"com/example/reify/reify/EdnList", "of", "(Ljava/util/List;)Lcom/example/reify/reify/EdnList;"⟩ : MethodName)) (wd G 34 rfl) (wd G 35 rfl) (wd G 36 rfl) (wd G 37 rfl) ⟨by decide, by decide⟩ (Pays.of_ct (W := 0) (ct_of_1 G d0 kd e0 mo ma b_1 r kr x0 h_38 N F_39 G1 G2 A5 X5 F_41) all0 (wd G 37 rfl) (wd G 36 rfl) (by decide) (by decide) rfl rfl) (argsL := [(.ref b_1)]) (rest := []) rfl (lenOf pd_14 rfl) rfl (Nat.le_of_eq rfl) rfl at_130 (pc' := 133) rfl (k' := 11) (n' := 59) rfl rfl (by decide) (by decide) ?_
    intro v_42 h_45 sz_43 q_44
    obtain ⟨e, y, q, kq, rfl, E7, ge7, gy7, gq7, Xe, Le, Xy, M1, M2, M3⟩ := q_44
    refine Seg.astore (L' := #[.val (.int p1), .val (.int p2), .val (.int p3), .val (.int p4), .val (.int p5), .val (.int p6), .val (.int (1 : Int32)), .val x0, .val x1, .val x2, .val x3, .val (.ref b_1), .val (.ref e), .unset]) at_133 rfl rfl (pc' := 135) rfl ?_
    refine Seg.aload at_135 rfl rfl (pc' := 137) rfl ?_
    refine Seg.aload at_137 rfl i3.isRef (pc' := 139) rfl ?_
    have E_46 : Ext h h_45 := ext_tr E_40 E7
    have F_47 := i3.ext E_46
    have F_48 := F_39.ext E7
    have F_49 := G0.ext E7
    have F_50 := G1.ext E7
    have F_51 := G2.ext E7
    have F_52 := A5.ext E7
    refine Seg.callV (y' := (⟨"java/util/ArrayList", "add", "(Ljava/lang/Object;)Z"⟩ : MethodName)) (z := (⟨"java/util/ArrayList", "add", "(Ljava/lang/Object;)Z"⟩ : MethodName)) (a := b_1) (wd G 101 rfl) (wd G 102 rfl) (nf_sel (wd G 104 rfl)) (wd G 104 rfl) (wd G 103 rfl) ⟨by decide, by decide⟩ F_48 (Pays.of_ct (W := 0) (ct_addN G b_1 ((0 : Int32) + (1 : Int32)) r kr [x0, .null, .null, .null, .null, .null, .null, .null, .null, .null] 1 x3 h_45 F_48 F_49 F_50 F_51 F_52 rfl (by decide) O5 (Nat.ne_of_gt (Nat.lt_of_lt_of_le l_b_1 (Nat.le_trans K1.1 g5))) F_47 F_47.isRef) (allS (List.mem_of_getElem? (i := 1) rfl) (allS (List.mem_of_getElem? (i := 0) rfl) all0)) (wd G 105 rfl) (wd G 10 rfl) (by decide) (by decide) rfl rfl) (argsL := [x3]) (rest := []) rfl (lenOf pd_15 rfl) rfl (Nat.le_of_eq rfl) rfl at_139 (pc' := 142) rfl (k' := 11) (n' := 59) rfl rfl (by decide) (by decide) ?_
    intro v_53 h_56 sz_54 q_55
    obtain ⟨rfl, K61, A61, P01, P11, P21⟩ := q_55
    replace A61 : Arv Z h_56 r kr (.object "java/lang/Object") 10 [x0, x3, .null, .null, .null, .null, .null, .null, .null, .null] .null := A61
    refine Seg.pop at_142 rfl (pc' := 143) rfl ?_
    refine Seg.aload at_143 rfl rfl (pc' := 145) rfl ?_
    have F_57 := (Le.keep K61 (ninS (Nat.ne_of_gt (Nat.lt_of_lt_of_le l_b_1 (Nat.le_trans (Nat.le_trans K1.1 K5.1) ge7))) (ninS (Nat.ne_of_gt (Nat.lt_of_lt_of_le l_r (Nat.le_trans (Nat.le_refl _) ge7))) nin0)))
    have F_58 := (Xy.keep K61)
    have F_59 := (M2.keep K61 (ninS (Nat.ne_of_gt (Nat.lt_of_lt_of_le l_b_1 (Nat.le_trans (Nat.le_trans K1.1 K5.1) gy7))) (ninS (Nat.ne_of_gt (Nat.lt_of_lt_of_le l_r (Nat.le_trans (Nat.le_refl _) gy7))) nin0)))
    have F_60 := (Xe.keep K61)
    refine Seg.callV (y' := (⟨"com/example/reify/reify/EdnList", "size", "()I"⟩ : MethodName)) (z := (⟨"com/example/reify/reify/EdnList", "size", "()I"⟩ : MethodName)) (a := e) (wd G 128 rfl) (wd G 129 rfl) (nf_sel (wd G 131 rfl)) (wd G 131 rfl) (wd G 130 rfl) ⟨by decide, by decide⟩ F_60 (Pays.of_ct (W := 0) (ct_es G e y 1 h_56 F_57 F_58 F_59) all0 (wd G 132 rfl) (wd G 36 rfl) (by decide) (by decide) rfl rfl) (argsL := []) (rest := []) rfl (lenOf pd_11 rfl) rfl (Nat.le_of_eq rfl) rfl at_145 (pc' := 148) rfl (k' := 11) (n' := 59) rfl rfl (by decide) (by decide) ?_
    intro v_61 h_64 sz_62 q_63
    obtain ⟨rfl, rfl⟩ := q_63
    refine Seg.iload at_148 rfl (pc' := 150) rfl ?_
    refine Seg.icN at_150 (by decide) (pc' := 153) rfl ?_
    refine Seg.iconst (v := 1) at_153 (by decide) (pc' := 154) rfl ?_
    refine Seg.goto (pc' := 158) at_154 (by decide) (by decide) ?_
    refine Seg.istore (L' := #[.val (.int p1), .val (.int p2), .val (.int p3), .val (.int p4), .val (.int p5), .val (.int p6), .val (.int (1 : Int32)), .val x0, .val x1, .val x2, .val x3, .val (.ref b_1), .val (.ref e), .val (.int (1 : Int32))]) at_158 rfl (pc' := 160) rfl ?_
    refine Seg.iload at_160 rfl (pc' := 162) rfl ?_
    refine Seg.ifN at_162 (by decide) (pc' := 165) rfl ?_
    refine Seg.iload at_165 rfl (pc' := 167) rfl ?_
    refine Seg.ifN at_167 (by decide) (pc' := 170) rfl ?_
    refine Seg.aload at_170 rfl rfl (pc' := 172) rfl ?_
    refine Seg.iconst (v := 0) at_172 (by decide) (pc' := 173) rfl ?_
    have F_65 := (M1.keep K61 (ninS (Nat.ne_of_gt (Nat.lt_of_lt_of_le l_b_1 (Nat.le_trans (Nat.le_trans K1.1 K5.1) gy7))) (ninS (Nat.ne_of_gt (Nat.lt_of_lt_of_le l_r (Nat.le_trans (Nat.le_refl _) gy7))) nin0)))
    have F_66 := (M3.keep K61 (ninS (Nat.ne_of_gt (Nat.lt_of_lt_of_le l_b_1 (Nat.le_trans (Nat.le_trans K1.1 K5.1) gq7))) (ninS (Nat.ne_of_gt (Nat.lt_of_lt_of_le l_r (Nat.le_trans (Nat.le_refl _) gq7))) nin0)))
    refine Seg.callV (y' := (⟨"com/example/reify/reify/EdnList", "get", "(I)Ljava/lang/Object;"⟩ : MethodName)) (z := (⟨"com/example/reify/reify/EdnList", "get", "(I)Ljava/lang/Object;"⟩ : MethodName)) (a := e) (wd G 149 rfl) (wd G 150 rfl) (nf_sel (wd G 152 rfl)) (wd G 152 rfl) (wd G 151 rfl) ⟨by decide, by decide⟩ F_60 (Pays.of_ct (W := 0) (ct_eg G e y q kq [x0] x0 0 1 h_56 F_57 F_58 F_59 F_65 F_66 (by decide) (by decide) rfl i0.isRef) all0 (wd G 153 rfl) (wd G 36 rfl) (by decide) (by decide) rfl rfl) (argsL := [(.int (0 : Int32))]) (rest := []) rfl (lenOf pd_13 rfl) rfl (Nat.le_of_eq rfl) rfl at_173 (pc' := 176) rfl (k' := 11) (n' := 59) rfl rfl (by decide) (by decide) ?_
    intro v_67 h_70 sz_68 q_69
    obtain ⟨rfl, rfl⟩ := q_69
    refine Seg.aload at_176 rfl i0.isRef (pc' := 178) rfl ?_
    refine Seg.acN at_178 i0.isRef i0.isRef (XT.aa_ne_f rfl) (pc' := 181) rfl ?_
    refine Seg.iconst (v := 1) at_181 (by decide) (pc' := 182) rfl ?_
    refine Seg.goto (pc' := 186) at_182 (by decide) (by decide) ?_
    refine Seg.istore (L' := #[.val (.int p1), .val (.int p2), .val (.int p3), .val (.int p4), .val (.int p5), .val (.int p6), .val (.int (1 : Int32)), .val x0, .val x1, .val x2, .val x3, .val (.ref b_1), .val (.ref e), .val (.int (1 : Int32))]) at_186 rfl (pc' := 188) rfl ?_
    refine Seg.iload at_188 rfl (pc' := 190) rfl ?_
    refine Seg.ifN at_190 (by decide) (pc' := 193) rfl ?_
    refine Seg.iload at_193 rfl (pc' := 195) rfl ?_
    refine Seg.iconst (v := 1) at_195 (by decide) (pc' := 196) rfl ?_
    refine Seg.icY (pc' := 217) at_196 (by decide) (by decide) (by decide) ?_
    refine Seg.iload at_217 rfl (pc' := 219) rfl ?_
    refine Seg.ifN at_219 (by decide) (pc' := 222) rfl ?_
    refine Seg.iload at_222 rfl (pc' := 224) rfl ?_
    refine Seg.iconst (v := 2) at_224 (by decide) (pc' := 225) rfl ?_
    refine Seg.icY (pc' := 246) at_225 (by decide) (by decide) (by decide) ?_
    refine Seg.iload at_246 rfl (pc' := 248) rfl ?_
    exact Seg.retN (t := .boolean) (w := (1 : Int32)) rfl (by decide) (by decide) at_248 (by decide) (by decide) rfl
  | 2, _ =>
    show Seg l Z a0 EL1 x code maxLocals ret room_1 (fun v h => v = some (.int 1)) h_7 5 7 [b_1] 87 #[.val (.int p1), .val (.int p2), .val (.int p3), .val (.int p4), .val (.int p5), .val (.int p6), .val (.int (2 : Int32)), .val x0, .val x1, .val x2, .val x3, .val (.ref b_1), .unset, .unset] []
    refine Seg.iload at_87 rfl (pc' := 89) rfl ?_
    refine Seg.ifN at_89 (by decide) (pc' := 92) rfl ?_
    refine Seg.aload at_92 rfl rfl (pc' := 94) rfl ?_
    refine Seg.aload at_94 rfl i0.isRef (pc' := 96) rfl ?_
    have E_71 : Ext h h_7 := ext_kp E_2 K1 (allS (Nat.le_trans (ext_rfl _).1 (Nat.le_of_eq e_b_1)) all0)
    have F_72 := i0.ext E_71
    have F_73 := (A_b_1.keep K1)
    refine Seg.callV (y' := (⟨"java/util/ArrayList", "add", "(Ljava/lang/Object;)Z"⟩ : MethodName)) (z := (⟨"java/util/ArrayList", "add", "(Ljava/lang/Object;)Z"⟩ : MethodName)) (a := b_1) (wd G 101 rfl) (wd G 102 rfl) (nf_sel (wd G 104 rfl)) (wd G 104 rfl) (wd G 103 rfl) ⟨by decide, by decide⟩ F_73 (Pays.of_ct (W := 0) (ct_addG G d0 kd e0 mo ma b_1 (0 : Int32) x0 h_7 N F_73 G0 G1 G2 F_72 F_72.isRef) (allS (List.mem_of_getElem? (i := 0) rfl) all0) (wd G 105 rfl) (wd G 10 rfl) (by decide) (by decide) rfl rfl) (argsL := [x0]) (rest := []) rfl (lenOf pd_15 rfl) rfl (Nat.le_of_eq rfl) rfl at_96 (pc' := 99) rfl (k' := 6) (n' := 17) rfl rfl (by decide) (by decide) ?_
    intro v_74 h_77 sz_75 q_76
    obtain ⟨rfl, r, kr, K5, g5, A5, X5, O5, G0, G1, G2⟩ := q_76
    have l_r := A5.lt
    refine Seg.adopt A5 (fun _ => Nat.le_trans (Nat.le_trans hZ0.1 (Nat.le_trans E_2.1 K1.1)) g5) (fun p hp => (noEL p hp).elim) ?_
    refine Seg.pop at_99 rfl (pc' := 100) rfl ?_
    refine Seg.iload at_100 rfl (pc' := 102) rfl ?_
    refine Seg.iconst (v := 1) at_102 (by decide) (pc' := 103) rfl ?_
    refine Seg.icN at_103 (by decide) (pc' := 106) rfl ?_
    refine Seg.aload at_106 rfl rfl (pc' := 108) rfl ?_
    refine Seg.aload at_108 rfl i1.isRef (pc' := 110) rfl ?_
    have E_78 : Ext h h_77 := ext_kp E_71 K5 (allS (Nat.le_trans (ext_rfl _).1 (Nat.le_of_eq e_b_1)) all0)
    have F_79 := i1.ext E_78
    have F_80 := (F_73.keep K5)
    refine Seg.callV (y' := (⟨"java/util/ArrayList", "add", "(Ljava/lang/Object;)Z"⟩ : MethodName)) (z := (⟨"java/util/ArrayList", "add", "(Ljava/lang/Object;)Z"⟩ : MethodName)) (a := b_1) (wd G 101 rfl) (wd G 102 rfl) (nf_sel (wd G 104 rfl)) (wd G 104 rfl) (wd G 103 rfl) ⟨by decide, by decide⟩ F_80 (Pays.of_ct (W := 0) (ct_addN G b_1 ((0 : Int32) + (1 : Int32)) r kr [x0, .null, .null, .null, .null, .null, .null, .null, .null, .null] 1 x1 h_77 F_80 G0 G1 G2 A5 rfl (by decide) O5 (Nat.ne_of_gt (Nat.lt_of_lt_of_le l_b_1 (Nat.le_trans K1.1 g5))) F_79 F_79.isRef) (allS (List.mem_of_getElem? (i := 1) rfl) (allS (List.mem_of_getElem? (i := 0) rfl) all0)) (wd G 105 rfl) (wd G 10 rfl) (by decide) (by decide) rfl rfl) (argsL := [x1]) (rest := []) rfl (lenOf pd_15 rfl) rfl (Nat.le_of_eq rfl) rfl at_110 (pc' := 113) rfl (k' := 6) (n' := 17) rfl rfl (by decide) (by decide) ?_
    intro v_81 h_84 sz_82 q_83
    obtain ⟨rfl, K61, A61, P01, P11, P21⟩ := q_83
    replace A61 : Arv Z h_84 r kr (.object "java/lang/Object") 10 [x0, x1, .null, .null, .null, .null, .null, .null, .null, .null] .null := A61
    refine Seg.pop at_113 rfl (pc' := 114) rfl ?_
    refine Seg.iload at_114 rfl (pc' := 116) rfl ?_
    refine Seg.iconst (v := 2) at_116 (by decide) (pc' := 117) rfl ?_
    refine Seg.icY (pc' := 128) at_117 (by decide) (by decide) (by decide) ?_
    refine Seg.aload at_128 rfl rfl (pc' := 130) rfl ?_
    have F_85 := (X5.keep K61)
    have F_86 := (F_80.keep K61)
    have E_87 : Ext h h_84 := ext_kp E_78 K61 (allS (Nat.le_trans (ext_rfl _).1 (Nat.le_of_eq e_b_1)) (allS (Nat.le_trans E_71.1 g5) all0))
    have F_88 := i0.ext E_87
    have F_89 := i1.ext E_87
    refine Seg.callS (y' := (⟨"com/example/reify/reify/EdnList", "of", "(Ljava/util/List;)Lcom/example/reify/reify/EdnList;"⟩ : MethodName)) (wd G 34 rfl) (wd G 35 rfl) (wd G 36 rfl) (wd G 37 rfl) ⟨by decide, by decide⟩ (Pays.of_ct (W := 0) (ct_of_2 G d0 kd e0 mo ma b_1 r kr x0 x1 h_84 N F_86 P11 P21 A61 F_85 F_88 F_89) all0 (wd G 37 rfl) (wd G 36 rfl) (by decide) (by decide) rfl rfl) (argsL := [(.ref b_1)]) (rest := []) rfl (lenOf pd_14 rfl) rfl (Nat.le_of_eq rfl) rfl at_130 (pc' := 133) rfl (k' := 11) (n' := 60) rfl rfl (by decide) (by decide) ?_
    intro v_90 h_93 sz_91 q_92
    obtain ⟨e, y, q, kq, rfl, E7, ge7, gy7, gq7, Xe, Le, Xy, M1, M2, M3⟩ := q_92
    refine Seg.astore (L' := #[.val (.int p1), .val (.int p2), .val (.int p3), .val (.int p4), .val (.int p5), .val (.int p6), .val (.int (2 : Int32)), .val x0, .val x1, .val x2, .val x3, .val (.ref b_1), .val (.ref e), .unset]) at_133 rfl rfl (pc' := 135) rfl ?_
    refine Seg.aload at_135 rfl rfl (pc' := 137) rfl ?_
    refine Seg.aload at_137 rfl i3.isRef (pc' := 139) rfl ?_
    have E_94 : Ext h h_93 := ext_tr E_87 E7
    have F_95 := i3.ext E_94
    have F_96 := F_86.ext E7
    have F_97 := P01.ext E7
    have F_98 := P11.ext E7
    have F_99 := P21.ext E7
    have F_100 := A61.ext E7
    refine Seg.callV (y' := (⟨"java/util/ArrayList", "add", "(Ljava/lang/Object;)Z"⟩ : MethodName)) (z := (⟨"java/util/ArrayList", "add", "(Ljava/lang/Object;)Z"⟩ : MethodName)) (a := b_1) (wd G 101 rfl) (wd G 102 rfl) (nf_sel (wd G 104 rfl)) (wd G 104 rfl) (wd G 103 rfl) ⟨by decide, by decide⟩ F_96 (Pays.of_ct (W := 0) (ct_addN G b_1 (((0 : Int32) + (1 : Int32)) + (1 : Int32)) r kr [x0, x1, .null, .null, .null, .null, .null, .null, .null, .null] 2 x3 h_93 F_96 F_97 F_98 F_99 F_100 rfl (by decide) O5 (Nat.ne_of_gt (Nat.lt_of_lt_of_le l_b_1 (Nat.le_trans K1.1 g5))) F_95 F_95.isRef) (allS (List.mem_of_getElem? (i := 1) rfl) (allS (List.mem_of_getElem? (i := 0) rfl) all0)) (wd G 105 rfl) (wd G 10 rfl) (by decide) (by decide) rfl rfl) (argsL := [x3]) (rest := []) rfl (lenOf pd_15 rfl) rfl (Nat.le_of_eq rfl) rfl at_139 (pc' := 142) rfl (k' := 11) (n' := 60) rfl rfl (by decide) (by decide) ?_
    intro v_101 h_104 sz_102 q_103
    obtain ⟨rfl, K62, A62, P02, P12, P22⟩ := q_103
    replace A62 : Arv Z h_104 r kr (.object "java/lang/Object") 10 [x0, x1, x3, .null, .null, .null, .null, .null, .null, .null] .null := A62
    refine Seg.pop at_142 rfl (pc' := 143) rfl ?_
    refine Seg.aload at_143 rfl rfl (pc' := 145) rfl ?_
    have F_105 := (Le.keep K62 (ninS (Nat.ne_of_gt (Nat.lt_of_lt_of_le l_b_1 (Nat.le_trans (Nat.le_trans (Nat.le_trans K1.1 K5.1) K61.1) ge7))) (ninS (Nat.ne_of_gt (Nat.lt_of_lt_of_le l_r (Nat.le_trans K61.1 ge7))) nin0)))
    have F_106 := (Xy.keep K62)
    have F_107 := (M2.keep K62 (ninS (Nat.ne_of_gt (Nat.lt_of_lt_of_le l_b_1 (Nat.le_trans (Nat.le_trans (Nat.le_trans K1.1 K5.1) K61.1) gy7))) (ninS (Nat.ne_of_gt (Nat.lt_of_lt_of_le l_r (Nat.le_trans K61.1 gy7))) nin0)))
    have F_108 := (Xe.keep K62)
    refine Seg.callV (y' := (⟨"com/example/reify/reify/EdnList", "size", "()I"⟩ : MethodName)) (z := (⟨"com/example/reify/reify/EdnList", "size", "()I"⟩ : MethodName)) (a := e) (wd G 128 rfl) (wd G 129 rfl) (nf_sel (wd G 131 rfl)) (wd G 131 rfl) (wd G 130 rfl) ⟨by decide, by decide⟩ F_108 (Pays.of_ct (W := 0) (ct_es G e y 2 h_104 F_105 F_106 F_107) all0 (wd G 132 rfl) (wd G 36 rfl) (by decide) (by decide) rfl rfl) (argsL := []) (rest := []) rfl (lenOf pd_11 rfl) rfl (Nat.le_of_eq rfl) rfl at_145 (pc' := 148) rfl (k' := 11) (n' := 60) rfl rfl (by decide) (by decide) ?_
    intro v_109 h_112 sz_110 q_111
    obtain ⟨rfl, rfl⟩ := q_111
    refine Seg.iload at_148 rfl (pc' := 150) rfl ?_
    refine Seg.icN at_150 (by decide) (pc' := 153) rfl ?_
    refine Seg.iconst (v := 1) at_153 (by decide) (pc' := 154) rfl ?_
    refine Seg.goto (pc' := 158) at_154 (by decide) (by decide) ?_
    refine Seg.istore (L' := #[.val (.int p1), .val (.int p2), .val (.int p3), .val (.int p4), .val (.int p5), .val (.int p6), .val (.int (2 : Int32)), .val x0, .val x1, .val x2, .val x3, .val (.ref b_1), .val (.ref e), .val (.int (1 : Int32))]) at_158 rfl (pc' := 160) rfl ?_
    refine Seg.iload at_160 rfl (pc' := 162) rfl ?_
    refine Seg.ifN at_162 (by decide) (pc' := 165) rfl ?_
    refine Seg.iload at_165 rfl (pc' := 167) rfl ?_
    refine Seg.ifN at_167 (by decide) (pc' := 170) rfl ?_
    refine Seg.aload at_170 rfl rfl (pc' := 172) rfl ?_
    refine Seg.iconst (v := 0) at_172 (by decide) (pc' := 173) rfl ?_
    have F_113 := (M1.keep K62 (ninS (Nat.ne_of_gt (Nat.lt_of_lt_of_le l_b_1 (Nat.le_trans (Nat.le_trans (Nat.le_trans K1.1 K5.1) K61.1) gy7))) (ninS (Nat.ne_of_gt (Nat.lt_of_lt_of_le l_r (Nat.le_trans K61.1 gy7))) nin0)))
    have F_114 := (M3.keep K62 (ninS (Nat.ne_of_gt (Nat.lt_of_lt_of_le l_b_1 (Nat.le_trans (Nat.le_trans (Nat.le_trans K1.1 K5.1) K61.1) gq7))) (ninS (Nat.ne_of_gt (Nat.lt_of_lt_of_le l_r (Nat.le_trans K61.1 gq7))) nin0)))
    refine Seg.callV (y' := (⟨"com/example/reify/reify/EdnList", "get", "(I)Ljava/lang/Object;"⟩ : MethodName)) (z := (⟨"com/example/reify/reify/EdnList", "get", "(I)Ljava/lang/Object;"⟩ : MethodName)) (a := e) (wd G 149 rfl) (wd G 150 rfl) (nf_sel (wd G 152 rfl)) (wd G 152 rfl) (wd G 151 rfl) ⟨by decide, by decide⟩ F_108 (Pays.of_ct (W := 0) (ct_eg G e y q kq [x0, x1] x0 0 2 h_104 F_105 F_106 F_107 F_113 F_114 (by decide) (by decide) rfl i0.isRef) all0 (wd G 153 rfl) (wd G 36 rfl) (by decide) (by decide) rfl rfl) (argsL := [(.int (0 : Int32))]) (rest := []) rfl (lenOf pd_13 rfl) rfl (Nat.le_of_eq rfl) rfl at_173 (pc' := 176) rfl (k' := 11) (n' := 60) rfl rfl (by decide) (by decide) ?_
    intro v_115 h_118 sz_116 q_117
    obtain ⟨rfl, rfl⟩ := q_117
    refine Seg.aload at_176 rfl i0.isRef (pc' := 178) rfl ?_
    refine Seg.acN at_178 i0.isRef i0.isRef (XT.aa_ne_f rfl) (pc' := 181) rfl ?_
    refine Seg.iconst (v := 1) at_181 (by decide) (pc' := 182) rfl ?_
    refine Seg.goto (pc' := 186) at_182 (by decide) (by decide) ?_
    refine Seg.istore (L' := #[.val (.int p1), .val (.int p2), .val (.int p3), .val (.int p4), .val (.int p5), .val (.int p6), .val (.int (2 : Int32)), .val x0, .val x1, .val x2, .val x3, .val (.ref b_1), .val (.ref e), .val (.int (1 : Int32))]) at_186 rfl (pc' := 188) rfl ?_
    refine Seg.iload at_188 rfl (pc' := 190) rfl ?_
    refine Seg.ifN at_190 (by decide) (pc' := 193) rfl ?_
    refine Seg.iload at_193 rfl (pc' := 195) rfl ?_
    refine Seg.iconst (v := 1) at_195 (by decide) (pc' := 196) rfl ?_
    refine Seg.icN at_196 (by decide) (pc' := 199) rfl ?_
    refine Seg.aload at_199 rfl rfl (pc' := 201) rfl ?_
    refine Seg.iconst (v := 1) at_201 (by decide) (pc' := 202) rfl ?_
    refine Seg.callV (y' := (⟨"com/example/reify/reify/EdnList", "get", "(I)Ljava/lang/Object;"⟩ : MethodName)) (z := (⟨"com/example/reify/reify/EdnList", "get", "(I)Ljava/lang/Object;"⟩ : MethodName)) (a := e) (wd G 149 rfl) (wd G 150 rfl) (nf_sel (wd G 152 rfl)) (wd G 152 rfl) (wd G 151 rfl) ⟨by decide, by decide⟩ F_108 (Pays.of_ct (W := 0) (ct_eg G e y q kq [x0, x1] x1 1 2 h_104 F_105 F_106 F_107 F_113 F_114 (by decide) (by decide) rfl i1.isRef) all0 (wd G 153 rfl) (wd G 36 rfl) (by decide) (by decide) rfl rfl) (argsL := [(.int (1 : Int32))]) (rest := []) rfl (lenOf pd_13 rfl) rfl (Nat.le_of_eq rfl) rfl at_202 (pc' := 205) rfl (k' := 11) (n' := 60) rfl rfl (by decide) (by decide) ?_
    intro v_119 h_122 sz_120 q_121
    obtain ⟨rfl, rfl⟩ := q_121
    refine Seg.aload at_205 rfl i1.isRef (pc' := 207) rfl ?_
    refine Seg.acN at_207 i1.isRef i1.isRef (XT.aa_ne_f rfl) (pc' := 210) rfl ?_
    refine Seg.iconst (v := 1) at_210 (by decide) (pc' := 211) rfl ?_
    refine Seg.goto (pc' := 215) at_211 (by decide) (by decide) ?_
    refine Seg.istore (L' := #[.val (.int p1), .val (.int p2), .val (.int p3), .val (.int p4), .val (.int p5), .val (.int p6), .val (.int (2 : Int32)), .val x0, .val x1, .val x2, .val x3, .val (.ref b_1), .val (.ref e), .val (.int (1 : Int32))]) at_215 rfl (pc' := 217) rfl ?_
    refine Seg.iload at_217 rfl (pc' := 219) rfl ?_
    refine Seg.ifN at_219 (by decide) (pc' := 222) rfl ?_
    refine Seg.iload at_222 rfl (pc' := 224) rfl ?_
    refine Seg.iconst (v := 2) at_224 (by decide) (pc' := 225) rfl ?_
    refine Seg.icY (pc' := 246) at_225 (by decide) (by decide) (by decide) ?_
    refine Seg.iload at_246 rfl (pc' := 248) rfl ?_
    exact Seg.retN (t := .boolean) (w := (1 : Int32)) rfl (by decide) (by decide) at_248 (by decide) (by decide) rfl
  | 3, _ =>
    show Seg l Z a0 EL1 x code maxLocals ret room_1 (fun v h => v = some (.int 1)) h_7 5 7 [b_1] 87 #[.val (.int p1), .val (.int p2), .val (.int p3), .val (.int p4), .val (.int p5), .val (.int p6), .val (.int (3 : Int32)), .val x0, .val x1, .val x2, .val x3, .val (.ref b_1), .unset, .unset] []
    refine Seg.iload at_87 rfl (pc' := 89) rfl ?_
    refine Seg.ifN at_89 (by decide) (pc' := 92) rfl ?_
    refine Seg.aload at_92 rfl rfl (pc' := 94) rfl ?_
    refine Seg.aload at_94 rfl i0.isRef (pc' := 96) rfl ?_
    have E_123 : Ext h h_7 := ext_kp E_2 K1 (allS (Nat.le_trans (ext_rfl _).1 (Nat.le_of_eq e_b_1)) all0)
    have F_124 := i0.ext E_123
    have F_125 := (A_b_1.keep K1)
    refine Seg.callV (y' := (⟨"java/util/ArrayList", "add", "(Ljava/lang/Object;)Z"⟩ : MethodName)) (z := (⟨"java/util/ArrayList", "add", "(Ljava/lang/Object;)Z"⟩ : MethodName)) (a := b_1) (wd G 101 rfl) (wd G 102 rfl) (nf_sel (wd G 104 rfl)) (wd G 104 rfl) (wd G 103 rfl) ⟨by decide, by decide⟩ F_125 (Pays.of_ct (W := 0) (ct_addG G d0 kd e0 mo ma b_1 (0 : Int32) x0 h_7 N F_125 G0 G1 G2 F_124 F_124.isRef) (allS (List.mem_of_getElem? (i := 0) rfl) all0) (wd G 105 rfl) (wd G 10 rfl) (by decide) (by decide) rfl rfl) (argsL := [x0]) (rest := []) rfl (lenOf pd_15 rfl) rfl (Nat.le_of_eq rfl) rfl at_96 (pc' := 99) rfl (k' := 6) (n' := 17) rfl rfl (by decide) (by decide) ?_
    intro v_126 h_129 sz_127 q_128
    obtain ⟨rfl, r, kr, K5, g5, A5, X5, O5, G0, G1, G2⟩ := q_128
    have l_r := A5.lt
    refine Seg.adopt A5 (fun _ => Nat.le_trans (Nat.le_trans hZ0.1 (Nat.le_trans E_2.1 K1.1)) g5) (fun p hp => (noEL p hp).elim) ?_
    refine Seg.pop at_99 rfl (pc' := 100) rfl ?_
    refine Seg.iload at_100 rfl (pc' := 102) rfl ?_
    refine Seg.iconst (v := 1) at_102 (by decide) (pc' := 103) rfl ?_
    refine Seg.icN at_103 (by decide) (pc' := 106) rfl ?_
    refine Seg.aload at_106 rfl rfl (pc' := 108) rfl ?_
    refine Seg.aload at_108 rfl i1.isRef (pc' := 110) rfl ?_
    have E_130 : Ext h h_129 := ext_kp E_123 K5 (allS (Nat.le_trans (ext_rfl _).1 (Nat.le_of_eq e_b_1)) all0)
    have F_131 := i1.ext E_130
    have F_132 := (F_125.keep K5)
    refine Seg.callV (y' := (⟨"java/util/ArrayList", "add", "(Ljava/lang/Object;)Z"⟩ : MethodName)) (z := (⟨"java/util/ArrayList", "add", "(Ljava/lang/Object;)Z"⟩ : MethodName)) (a := b_1) (wd G 101 rfl) (wd G 102 rfl) (nf_sel (wd G 104 rfl)) (wd G 104 rfl) (wd G 103 rfl) ⟨by decide, by decide⟩ F_132 (Pays.of_ct (W := 0) (ct_addN G b_1 ((0 : Int32) + (1 : Int32)) r kr [x0, .null, .null, .null, .null, .null, .null, .null, .null, .null] 1 x1 h_129 F_132 G0 G1 G2 A5 rfl (by decide) O5 (Nat.ne_of_gt (Nat.lt_of_lt_of_le l_b_1 (Nat.le_trans K1.1 g5))) F_131 F_131.isRef) (allS (List.mem_of_getElem? (i := 1) rfl) (allS (List.mem_of_getElem? (i := 0) rfl) all0)) (wd G 105 rfl) (wd G 10 rfl) (by decide) (by decide) rfl rfl) (argsL := [x1]) (rest := []) rfl (lenOf pd_15 rfl) rfl (Nat.le_of_eq rfl) rfl at_110 (pc' := 113) rfl (k' := 6) (n' := 17) rfl rfl (by decide) (by decide) ?_
    intro v_133 h_136 sz_134 q_135
    obtain ⟨rfl, K61, A61, P01, P11, P21⟩ := q_135
    replace A61 : Arv Z h_136 r kr (.object "java/lang/Object") 10 [x0, x1, .null, .null, .null, .null, .null, .null, .null, .null] .null := A61
    refine Seg.pop at_113 rfl (pc' := 114) rfl ?_
    refine Seg.iload at_114 rfl (pc' := 116) rfl ?_
    refine Seg.iconst (v := 2) at_116 (by decide) (pc' := 117) rfl ?_
    refine Seg.icN at_117 (by decide) (pc' := 120) rfl ?_
    refine Seg.aload at_120 rfl rfl (pc' := 122) rfl ?_
    refine Seg.aload at_122 rfl i2.isRef (pc' := 124) rfl ?_
    have E_137 : Ext h h_136 := ext_kp E_130 K61 (allS (Nat.le_trans (ext_rfl _).1 (Nat.le_of_eq e_b_1)) (allS (Nat.le_trans E_123.1 g5) all0))
    have F_138 := i2.ext E_137
    have F_139 := (F_132.keep K61)
    refine Seg.callV (y' := (⟨"java/util/ArrayList", "add", "(Ljava/lang/Object;)Z"⟩ : MethodName)) (z := (⟨"java/util/ArrayList", "add", "(Ljava/lang/Object;)Z"⟩ : MethodName)) (a := b_1) (wd G 101 rfl) (wd G 102 rfl) (nf_sel (wd G 104 rfl)) (wd G 104 rfl) (wd G 103 rfl) ⟨by decide, by decide⟩ F_139 (Pays.of_ct (W := 0) (ct_addN G b_1 (((0 : Int32) + (1 : Int32)) + (1 : Int32)) r kr [x0, x1, .null, .null, .null, .null, .null, .null, .null, .null] 2 x2 h_136 F_139 P01 P11 P21 A61 rfl (by decide) O5 (Nat.ne_of_gt (Nat.lt_of_lt_of_le l_b_1 (Nat.le_trans K1.1 g5))) F_138 F_138.isRef) (allS (List.mem_of_getElem? (i := 1) rfl) (allS (List.mem_of_getElem? (i := 0) rfl) all0)) (wd G 105 rfl) (wd G 10 rfl) (by decide) (by decide) rfl rfl) (argsL := [x2]) (rest := []) rfl (lenOf pd_15 rfl) rfl (Nat.le_of_eq rfl) rfl at_124 (pc' := 127) rfl (k' := 6) (n' := 17) rfl rfl (by decide) (by decide) ?_
    intro v_140 h_143 sz_141 q_142
    obtain ⟨rfl, K62, A62, P02, P12, P22⟩ := q_142
    replace A62 : Arv Z h_143 r kr (.object "java/lang/Object") 10 [x0, x1, x2, .null, .null, .null, .null, .null, .null, .null] .null := A62
    refine Seg.pop at_127 rfl (pc' := 128) rfl ?_
    refine Seg.aload at_128 rfl rfl (pc' := 130) rfl ?_
    have F_144 := ((X5.keep K61).keep K62)
    have F_145 := (F_139.keep K62)
    have E_146 : Ext h h_143 := ext_kp E_137 K62 (allS (Nat.le_trans (ext_rfl _).1 (Nat.le_of_eq e_b_1)) (allS (Nat.le_trans E_123.1 g5) all0))
    have F_147 := i0.ext E_146
    have F_148 := i1.ext E_146
    have F_149 := i2.ext E_146
    refine Seg.callS (y' := (⟨"com/example/reify/reify/EdnList", "of", "(Ljava/util/List;)Lcom/example/reify/reify/EdnList;"⟩ : MethodName)) (wd G 34 rfl) (wd G 35 rfl) (wd G 36 rfl) (wd G 37 rfl) ⟨by decide, by decide⟩ (Pays.of_ct (W := 0) (ct_of_3 G d0 kd e0 mo ma b_1 r kr x0 x1 x2 h_143 N F_145 P12 P22 A62 F_144 F_147 F_148 F_149) all0 (wd G 37 rfl) (wd G 36 rfl) (by decide) (by decide) rfl rfl) (argsL := [(.ref b_1)]) (rest := []) rfl (lenOf pd_14 rfl) rfl (Nat.le_of_eq rfl) rfl at_130 (pc' := 133) rfl (k' := 11) (n' := 61) rfl rfl (by decide) (by decide) ?_
    intro v_150 h_153 sz_151 q_152
    obtain ⟨e, y, q, kq, rfl, E7, ge7, gy7, gq7, Xe, Le, Xy, M1, M2, M3⟩ := q_152
    refine Seg.astore (L' := #[.val (.int p1), .val (.int p2), .val (.int p3), .val (.int p4), .val (.int p5), .val (.int p6), .val (.int (3 : Int32)), .val x0, .val x1, .val x2, .val x3, .val (.ref b_1), .val (.ref e), .unset]) at_133 rfl rfl (pc' := 135) rfl ?_
    refine Seg.aload at_135 rfl rfl (pc' := 137) rfl ?_
    refine Seg.aload at_137 rfl i3.isRef (pc' := 139) rfl ?_
    have E_154 : Ext h h_153 := ext_tr E_146 E7
    have F_155 := i3.ext E_154
    have F_156 := F_145.ext E7
    have F_157 := P02.ext E7
    have F_158 := P12.ext E7
    have F_159 := P22.ext E7
    have F_160 := A62.ext E7
    refine Seg.callV (y' := (⟨"java/util/ArrayList", "add", "(Ljava/lang/Object;)Z"⟩ : MethodName)) (z := (⟨"java/util/ArrayList", "add", "(Ljava/lang/Object;)Z"⟩ : MethodName)) (a := b_1) (wd G 101 rfl) (wd G 102 rfl) (nf_sel (wd G 104 rfl)) (wd G 104 rfl) (wd G 103 rfl) ⟨by decide, by decide⟩ F_156 (Pays.of_ct (W := 0) (ct_addN G b_1 ((((0 : Int32) + (1 : Int32)) + (1 : Int32)) + (1 : Int32)) r kr [x0, x1, x2, .null, .null, .null, .null, .null, .null, .null] 3 x3 h_153 F_156 F_157 F_158 F_159 F_160 rfl (by decide) O5 (Nat.ne_of_gt (Nat.lt_of_lt_of_le l_b_1 (Nat.le_trans K1.1 g5))) F_155 F_155.isRef) (allS (List.mem_of_getElem? (i := 1) rfl) (allS (List.mem_of_getElem? (i := 0) rfl) all0)) (wd G 105 rfl) (wd G 10 rfl) (by decide) (by decide) rfl rfl) (argsL := [x3]) (rest := []) rfl (lenOf pd_15 rfl) rfl (Nat.le_of_eq rfl) rfl at_139 (pc' := 142) rfl (k' := 11) (n' := 61) rfl rfl (by decide) (by decide) ?_
    intro v_161 h_164 sz_162 q_163
    obtain ⟨rfl, K63, A63, P03, P13, P23⟩ := q_163
    replace A63 : Arv Z h_164 r kr (.object "java/lang/Object") 10 [x0, x1, x2, x3, .null, .null, .null, .null, .null, .null] .null := A63
    refine Seg.pop at_142 rfl (pc' := 143) rfl ?_
    refine Seg.aload at_143 rfl rfl (pc' := 145) rfl ?_
    have F_165 := (Le.keep K63 (ninS (Nat.ne_of_gt (Nat.lt_of_lt_of_le l_b_1 (Nat.le_trans (Nat.le_trans (Nat.le_trans (Nat.le_trans K1.1 K5.1) K61.1) K62.1) ge7))) (ninS (Nat.ne_of_gt (Nat.lt_of_lt_of_le l_r (Nat.le_trans (Nat.le_trans K61.1 K62.1) ge7))) nin0)))
    have F_166 := (Xy.keep K63)
    have F_167 := (M2.keep K63 (ninS (Nat.ne_of_gt (Nat.lt_of_lt_of_le l_b_1 (Nat.le_trans (Nat.le_trans (Nat.le_trans (Nat.le_trans K1.1 K5.1) K61.1) K62.1) gy7))) (ninS (Nat.ne_of_gt (Nat.lt_of_lt_of_le l_r (Nat.le_trans (Nat.le_trans K61.1 K62.1) gy7))) nin0)))
    have F_168 := (Xe.keep K63)
    refine Seg.callV (y' := (⟨"com/example/reify/reify/EdnList", "size", "()I"⟩ : MethodName)) (z := (⟨"com/example/reify/reify/EdnList", "size", "()I"⟩ : MethodName)) (a := e) (wd G 128 rfl) (wd G 129 rfl) (nf_sel (wd G 131 rfl)) (wd G 131 rfl) (wd G 130 rfl) ⟨by decide, by decide⟩ F_168 (Pays.of_ct (W := 0) (ct_es G e y 3 h_164 F_165 F_166 F_167) all0 (wd G 132 rfl) (wd G 36 rfl) (by decide) (by decide) rfl rfl) (argsL := []) (rest := []) rfl (lenOf pd_11 rfl) rfl (Nat.le_of_eq rfl) rfl at_145 (pc' := 148) rfl (k' := 11) (n' := 61) rfl rfl (by decide) (by decide) ?_
    intro v_169 h_172 sz_170 q_171
    obtain ⟨rfl, rfl⟩ := q_171
    refine Seg.iload at_148 rfl (pc' := 150) rfl ?_
    refine Seg.icN at_150 (by decide) (pc' := 153) rfl ?_
    refine Seg.iconst (v := 1) at_153 (by decide) (pc' := 154) rfl ?_
    refine Seg.goto (pc' := 158) at_154 (by decide) (by decide) ?_
    refine Seg.istore (L' := #[.val (.int p1), .val (.int p2), .val (.int p3), .val (.int p4), .val (.int p5), .val (.int p6), .val (.int (3 : Int32)), .val x0, .val x1, .val x2, .val x3, .val (.ref b_1), .val (.ref e), .val (.int (1 : Int32))]) at_158 rfl (pc' := 160) rfl ?_
    refine Seg.iload at_160 rfl (pc' := 162) rfl ?_
    refine Seg.ifN at_162 (by decide) (pc' := 165) rfl ?_
    refine Seg.iload at_165 rfl (pc' := 167) rfl ?_
    refine Seg.ifN at_167 (by decide) (pc' := 170) rfl ?_
    refine Seg.aload at_170 rfl rfl (pc' := 172) rfl ?_
    refine Seg.iconst (v := 0) at_172 (by decide) (pc' := 173) rfl ?_
    have F_173 := (M1.keep K63 (ninS (Nat.ne_of_gt (Nat.lt_of_lt_of_le l_b_1 (Nat.le_trans (Nat.le_trans (Nat.le_trans (Nat.le_trans K1.1 K5.1) K61.1) K62.1) gy7))) (ninS (Nat.ne_of_gt (Nat.lt_of_lt_of_le l_r (Nat.le_trans (Nat.le_trans K61.1 K62.1) gy7))) nin0)))
    have F_174 := (M3.keep K63 (ninS (Nat.ne_of_gt (Nat.lt_of_lt_of_le l_b_1 (Nat.le_trans (Nat.le_trans (Nat.le_trans (Nat.le_trans K1.1 K5.1) K61.1) K62.1) gq7))) (ninS (Nat.ne_of_gt (Nat.lt_of_lt_of_le l_r (Nat.le_trans (Nat.le_trans K61.1 K62.1) gq7))) nin0)))
    refine Seg.callV (y' := (⟨"com/example/reify/reify/EdnList", "get", "(I)Ljava/lang/Object;"⟩ : MethodName)) (z := (⟨"com/example/reify/reify/EdnList", "get", "(I)Ljava/lang/Object;"⟩ : MethodName)) (a := e) (wd G 149 rfl) (wd G 150 rfl) (nf_sel (wd G 152 rfl)) (wd G 152 rfl) (wd G 151 rfl) ⟨by decide, by decide⟩ F_168 (Pays.of_ct (W := 0) (ct_eg G e y q kq [x0, x1, x2] x0 0 3 h_164 F_165 F_166 F_167 F_173 F_174 (by decide) (by decide) rfl i0.isRef) all0 (wd G 153 rfl) (wd G 36 rfl) (by decide) (by decide) rfl rfl) (argsL := [(.int (0 : Int32))]) (rest := []) rfl (lenOf pd_13 rfl) rfl (Nat.le_of_eq rfl) rfl at_173 (pc' := 176) rfl (k' := 11) (n' := 61) rfl rfl (by decide) (by decide) ?_
    intro v_175 h_178 sz_176 q_177
    obtain ⟨rfl, rfl⟩ := q_177
    refine Seg.aload at_176 rfl i0.isRef (pc' := 178) rfl ?_
    refine Seg.acN at_178 i0.isRef i0.isRef (XT.aa_ne_f rfl) (pc' := 181) rfl ?_
    refine Seg.iconst (v := 1) at_181 (by decide) (pc' := 182) rfl ?_
    refine Seg.goto (pc' := 186) at_182 (by decide) (by decide) ?_
    refine Seg.istore (L' := #[.val (.int p1), .val (.int p2), .val (.int p3), .val (.int p4), .val (.int p5), .val (.int p6), .val (.int (3 : Int32)), .val x0, .val x1, .val x2, .val x3, .val (.ref b_1), .val (.ref e), .val (.int (1 : Int32))]) at_186 rfl (pc' := 188) rfl ?_
    refine Seg.iload at_188 rfl (pc' := 190) rfl ?_
    refine Seg.ifN at_190 (by decide) (pc' := 193) rfl ?_
    refine Seg.iload at_193 rfl (pc' := 195) rfl ?_
    refine Seg.iconst (v := 1) at_195 (by decide) (pc' := 196) rfl ?_
    refine Seg.icN at_196 (by decide) (pc' := 199) rfl ?_
    refine Seg.aload at_199 rfl rfl (pc' := 201) rfl ?_
    refine Seg.iconst (v := 1) at_201 (by decide) (pc' := 202) rfl ?_
    refine Seg.callV (y' := (⟨"com/example/reify/reify/EdnList", "get", "(I)Ljava/lang/Object;"⟩ : MethodName)) (z := (⟨"com/example/reify/reify/EdnList", "get", "(I)Ljava/lang/Object;"⟩ : MethodName)) (a := e) (wd G 149 rfl) (wd G 150 rfl) (nf_sel (wd G 152 rfl)) (wd G 152 rfl) (wd G 151 rfl) ⟨by decide, by decide⟩ F_168 (Pays.of_ct (W := 0) (ct_eg G e y q kq [x0, x1, x2] x1 1 3 h_164 F_165 F_166 F_167 F_173 F_174 (by decide) (by decide) rfl i1.isRef) all0 (wd G 153 rfl) (wd G 36 rfl) (by decide) (by decide) rfl rfl) (argsL := [(.int (1 : Int32))]) (rest := []) rfl (lenOf pd_13 rfl) rfl (Nat.le_of_eq rfl) rfl at_202 (pc' := 205) rfl (k' := 11) (n' := 61) rfl rfl (by decide) (by decide) ?_
    intro v_179 h_182 sz_180 q_181
    obtain ⟨rfl, rfl⟩ := q_181
    refine Seg.aload at_205 rfl i1.isRef (pc' := 207) rfl ?_
    refine Seg.acN at_207 i1.isRef i1.isRef (XT.aa_ne_f rfl) (pc' := 210) rfl ?_
    refine Seg.iconst (v := 1) at_210 (by decide) (pc' := 211) rfl ?_
    refine Seg.goto (pc' := 215) at_211 (by decide) (by decide) ?_
    refine Seg.istore (L' := #[.val (.int p1), .val (.int p2), .val (.int p3), .val (.int p4), .val (.int p5), .val (.int p6), .val (.int (3 : Int32)), .val x0, .val x1, .val x2, .val x3, .val (.ref b_1), .val (.ref e), .val (.int (1 : Int32))]) at_215 rfl (pc' := 217) rfl ?_
    refine Seg.iload at_217 rfl (pc' := 219) rfl ?_
    refine Seg.ifN at_219 (by decide) (pc' := 222) rfl ?_
    refine Seg.iload at_222 rfl (pc' := 224) rfl ?_
    refine Seg.iconst (v := 2) at_224 (by decide) (pc' := 225) rfl ?_
    refine Seg.icN at_225 (by decide) (pc' := 228) rfl ?_
    refine Seg.aload at_228 rfl rfl (pc' := 230) rfl ?_
    refine Seg.iconst (v := 2) at_230 (by decide) (pc' := 231) rfl ?_
    refine Seg.callV (y' := (⟨"com/example/reify/reify/EdnList", "get", "(I)Ljava/lang/Object;"⟩ : MethodName)) (z := (⟨"com/example/reify/reify/EdnList", "get", "(I)Ljava/lang/Object;"⟩ : MethodName)) (a := e) (wd G 149 rfl) (wd G 150 rfl) (nf_sel (wd G 152 rfl)) (wd G 152 rfl) (wd G 151 rfl) ⟨by decide, by decide⟩ F_168 (Pays.of_ct (W := 0) (ct_eg G e y q kq [x0, x1, x2] x2 2 3 h_164 F_165 F_166 F_167 F_173 F_174 (by decide) (by decide) rfl i2.isRef) all0 (wd G 153 rfl) (wd G 36 rfl) (by decide) (by decide) rfl rfl) (argsL := [(.int (2 : Int32))]) (rest := []) rfl (lenOf pd_13 rfl) rfl (Nat.le_of_eq rfl) rfl at_231 (pc' := 234) rfl (k' := 11) (n' := 61) rfl rfl (by decide) (by decide) ?_
    intro v_183 h_186 sz_184 q_185
    obtain ⟨rfl, rfl⟩ := q_185
    refine Seg.aload at_234 rfl i2.isRef (pc' := 236) rfl ?_
    refine Seg.acN at_236 i2.isRef i2.isRef (XT.aa_ne_f rfl) (pc' := 239) rfl ?_
    refine Seg.iconst (v := 1) at_239 (by decide) (pc' := 240) rfl ?_
    refine Seg.goto (pc' := 244) at_240 (by decide) (by decide) ?_
    refine Seg.istore (L' := #[.val (.int p1), .val (.int p2), .val (.int p3), .val (.int p4), .val (.int p5), .val (.int p6), .val (.int (3 : Int32)), .val x0, .val x1, .val x2, .val x3, .val (.ref b_1), .val (.ref e), .val (.int (1 : Int32))]) at_244 rfl (pc' := 246) rfl ?_
    refine Seg.iload at_246 rfl (pc' := 248) rfl ?_
    exact Seg.retN (t := .boolean) (w := (1 : Int32)) rfl (by decide) (by decide) at_248 (by decide) (by decide) rfl
theorem pd_16 : parseMethodDescriptor "(I)Ljava/lang/Integer;" = some ⟨[.int], some (.object "java/lang/Integer")⟩ := by decide +kernel
set_option maxRecDepth 65536 in
set_option maxHeartbeats 4000000 in
theorem sg57 {l : Launch} {Z : State} {a0 : Array Value} (G : Env1 Z a0) (p1 : Int32) (p2 : Int32) (p3 : Int32) (p4 : Int32) (p5 : Int32) (p6 : Int32) (n : Nat) (x0 : Value) (x1 : Value) (x2 : Value) (h : Heap) (hn : n < 4) (i0 : IoN Z h x0) (i1 : IoN Z h x1) (i2 : IoN Z h x2) :
    Seg l Z a0 EL1 x code maxLocals ret room_1 (fun v h => v = some (.int 1)) h 3 3 [] 57 #[.val (.int p1), .val (.int p2), .val (.int p3), .val (.int p4), .val (.int p5), .val (.int p6), .val (.int (Int32.ofNat n)), .val x0, .val x1, .unset, .unset, .unset, .unset, .unset] [x2] := by
  refine Seg.astore (L' := #[.val (.int p1), .val (.int p2), .val (.int p3), .val (.int p4), .val (.int p5), .val (.int p6), .val (.int (Int32.ofNat n)), .val x0, .val x1, .val x2, .unset, .unset, .unset, .unset]) at_57 i2.isRef (by rcases ref_cases i2.isRef with rfl | ⟨_, rfl⟩ <;> rfl) (pc' := 59) rfl ?_
  refine Seg.iload at_59 rfl (pc' := 61) rfl ?_
  refine Seg.bipush (v := 8) at_61 (by decide) (pc' := 63) rfl ?_
  refine Seg.iand (v := (p5 &&& (8 : Int32))) at_63 rfl (pc' := 64) rfl ?_
  by_cases h1 : (p5 &&& (8 : Int32)) = 0
  · refine Seg.ifY (pc' := 71) at_64 (XT.i0_eq_t h1) (by decide) (by decide) ?_
    refine Seg.iload at_71 rfl (pc' := 73) rfl ?_
    refine Seg.callS (y' := (⟨"java/lang/Integer", "valueOf", "(I)Ljava/lang/Integer;"⟩ : MethodName)) (wd G 1 rfl) (wd G 2 rfl) (wd G 3 rfl) (wd G 4 rfl) ⟨by decide, by decide⟩ (Pays.of_ct (W := 0) (ct_vo G p6 h) all0 (wd G 4 rfl) (wd G 3 rfl) (by decide) (by decide) rfl rfl) (argsL := [(.int p6)]) (rest := []) rfl (lenOf pd_16 rfl) rfl (Nat.le_of_eq rfl) rfl at_73 (pc' := 76) rfl (k' := 4) (n' := 4) rfl rfl (by decide) (by decide) ?_
    intro v_1 h_4 sz_2 q_3
    obtain ⟨r, rfl, E1, X1⟩ := q_3
    exact (sg76 G p1 p2 p3 p4 p5 p6 n x0 x1 x2 (.ref r) h_4 hn (i0.ext E1) (i1.ext E1) (i2.ext E1) (Or.inr ⟨r, rfl, X1⟩)).mono (by decide) (by decide) all0
  · refine Seg.ifN at_64 (XT.i0_eq_f h1) (pc' := 67) rfl ?_
    refine Seg.anull at_67 (pc' := 68) rfl ?_
    refine Seg.goto (pc' := 76) at_68 (by decide) (by decide) ?_
    exact (sg76 G p1 p2 p3 p4 p5 p6 n x0 x1 x2 .null h hn i0 i1 i2 (Or.inl rfl)).mono (by decide) (by decide) all0
set_option maxRecDepth 65536 in
set_option maxHeartbeats 4000000 in
theorem sg40 {l : Launch} {Z : State} {a0 : Array Value} (G : Env1 Z a0) (p1 : Int32) (p2 : Int32) (p3 : Int32) (p4 : Int32) (p5 : Int32) (p6 : Int32) (n : Nat) (x0 : Value) (x1 : Value) (h : Heap) (hn : n < 4) (i0 : IoN Z h x0) (i1 : IoN Z h x1) :
    Seg l Z a0 EL1 x code maxLocals ret room_1 (fun v h => v = some (.int 1)) h 2 2 [] 40 #[.val (.int p1), .val (.int p2), .val (.int p3), .val (.int p4), .val (.int p5), .val (.int p6), .val (.int (Int32.ofNat n)), .val x0, .unset, .unset, .unset, .unset, .unset, .unset] [x1] := by
  refine Seg.astore (L' := #[.val (.int p1), .val (.int p2), .val (.int p3), .val (.int p4), .val (.int p5), .val (.int p6), .val (.int (Int32.ofNat n)), .val x0, .val x1, .unset, .unset, .unset, .unset, .unset]) at_40 i1.isRef (by rcases ref_cases i1.isRef with rfl | ⟨_, rfl⟩ <;> rfl) (pc' := 42) rfl ?_
  refine Seg.iload at_42 rfl (pc' := 44) rfl ?_
  refine Seg.iconst (v := 4) at_44 (by decide) (pc' := 45) rfl ?_
  refine Seg.iand (v := (p5 &&& (4 : Int32))) at_45 rfl (pc' := 46) rfl ?_
  by_cases h1 : (p5 &&& (4 : Int32)) = 0
  · refine Seg.ifY (pc' := 53) at_46 (XT.i0_eq_t h1) (by decide) (by decide) ?_
    refine Seg.iloadN at_53 rfl (pc' := 54) rfl ?_
    refine Seg.callS (y' := (⟨"java/lang/Integer", "valueOf", "(I)Ljava/lang/Integer;"⟩ : MethodName)) (wd G 1 rfl) (wd G 2 rfl) (wd G 3 rfl) (wd G 4 rfl) ⟨by decide, by decide⟩ (Pays.of_ct (W := 0) (ct_vo G p4 h) all0 (wd G 4 rfl) (wd G 3 rfl) (by decide) (by decide) rfl rfl) (argsL := [(.int p4)]) (rest := []) rfl (lenOf pd_16 rfl) rfl (Nat.le_of_eq rfl) rfl at_54 (pc' := 57) rfl (k' := 3) (n' := 3) rfl rfl (by decide) (by decide) ?_
    intro v_1 h_4 sz_2 q_3
    obtain ⟨r, rfl, E1, X1⟩ := q_3
    exact (sg57 G p1 p2 p3 p4 p5 p6 n x0 x1 (.ref r) h_4 hn (i0.ext E1) (i1.ext E1) (Or.inr ⟨r, rfl, X1⟩)).mono (by decide) (by decide) all0
  · refine Seg.ifN at_46 (XT.i0_eq_f h1) (pc' := 49) rfl ?_
    refine Seg.anull at_49 (pc' := 50) rfl ?_
    refine Seg.goto (pc' := 57) at_50 (by decide) (by decide) ?_
    exact (sg57 G p1 p2 p3 p4 p5 p6 n x0 x1 .null h hn i0 i1 (Or.inl rfl)).mono (by decide) (by decide) all0
set_option maxRecDepth 65536 in
set_option maxHeartbeats 4000000 in
theorem sg23 {l : Launch} {Z : State} {a0 : Array Value} (G : Env1 Z a0) (p1 : Int32) (p2 : Int32) (p3 : Int32) (p4 : Int32) (p5 : Int32) (p6 : Int32) (n : Nat) (x0 : Value) (h : Heap) (hn : n < 4) (i0 : IoN Z h x0) :
    Seg l Z a0 EL1 x code maxLocals ret room_1 (fun v h => v = some (.int 1)) h 1 1 [] 23 #[.val (.int p1), .val (.int p2), .val (.int p3), .val (.int p4), .val (.int p5), .val (.int p6), .val (.int (Int32.ofNat n)), .unset, .unset, .unset, .unset, .unset, .unset, .unset] [x0] := by
  refine Seg.astore (L' := #[.val (.int p1), .val (.int p2), .val (.int p3), .val (.int p4), .val (.int p5), .val (.int p6), .val (.int (Int32.ofNat n)), .val x0, .unset, .unset, .unset, .unset, .unset, .unset]) at_23 i0.isRef (by rcases ref_cases i0.isRef with rfl | ⟨_, rfl⟩ <;> rfl) (pc' := 25) rfl ?_
  refine Seg.iload at_25 rfl (pc' := 27) rfl ?_
  refine Seg.iconst (v := 2) at_27 (by decide) (pc' := 28) rfl ?_
  refine Seg.iand (v := (p5 &&& (2 : Int32))) at_28 rfl (pc' := 29) rfl ?_
  by_cases h1 : (p5 &&& (2 : Int32)) = 0
  · refine Seg.ifY (pc' := 36) at_29 (XT.i0_eq_t h1) (by decide) (by decide) ?_
    refine Seg.iloadN at_36 rfl (pc' := 37) rfl ?_
    refine Seg.callS (y' := (⟨"java/lang/Integer", "valueOf", "(I)Ljava/lang/Integer;"⟩ : MethodName)) (wd G 1 rfl) (wd G 2 rfl) (wd G 3 rfl) (wd G 4 rfl) ⟨by decide, by decide⟩ (Pays.of_ct (W := 0) (ct_vo G p3 h) all0 (wd G 4 rfl) (wd G 3 rfl) (by decide) (by decide) rfl rfl) (argsL := [(.int p3)]) (rest := []) rfl (lenOf pd_16 rfl) rfl (Nat.le_of_eq rfl) rfl at_37 (pc' := 40) rfl (k' := 2) (n' := 2) rfl rfl (by decide) (by decide) ?_
    intro v_1 h_4 sz_2 q_3
    obtain ⟨r, rfl, E1, X1⟩ := q_3
    exact (sg40 G p1 p2 p3 p4 p5 p6 n x0 (.ref r) h_4 hn (i0.ext E1) (Or.inr ⟨r, rfl, X1⟩)).mono (by decide) (by decide) all0
  · refine Seg.ifN at_29 (XT.i0_eq_f h1) (pc' := 32) rfl ?_
    refine Seg.anull at_32 (pc' := 33) rfl ?_
    refine Seg.goto (pc' := 40) at_33 (by decide) (by decide) ?_
    exact (sg40 G p1 p2 p3 p4 p5 p6 n x0 .null h hn i0 (Or.inl rfl)).mono (by decide) (by decide) all0
set_option maxRecDepth 65536 in
set_option maxHeartbeats 4000000 in
theorem sg8 {l : Launch} {Z : State} {a0 : Array Value} (G : Env1 Z a0) (p1 : Int32) (p2 : Int32) (p3 : Int32) (p4 : Int32) (p5 : Int32) (p6 : Int32) (n : Nat) (h : Heap) (hn : n < 4) :
    Seg l Z a0 EL1 x code maxLocals ret room_1 (fun v h => v = some (.int 1)) h 0 0 [] 8 #[.val (.int p1), .val (.int p2), .val (.int p3), .val (.int p4), .val (.int p5), .val (.int p6), .val (.int (Int32.ofNat n)), .unset, .unset, .unset, .unset, .unset, .unset, .unset] [] := by
  refine Seg.iload at_8 rfl (pc' := 10) rfl ?_
  refine Seg.iconst (v := 1) at_10 (by decide) (pc' := 11) rfl ?_
  refine Seg.iand (v := (p5 &&& (1 : Int32))) at_11 rfl (pc' := 12) rfl ?_
  by_cases h1 : (p5 &&& (1 : Int32)) = 0
  · refine Seg.ifY (pc' := 19) at_12 (XT.i0_eq_t h1) (by decide) (by decide) ?_
    refine Seg.iloadN at_19 rfl (pc' := 20) rfl ?_
    refine Seg.callS (y' := (⟨"java/lang/Integer", "valueOf", "(I)Ljava/lang/Integer;"⟩ : MethodName)) (wd G 1 rfl) (wd G 2 rfl) (wd G 3 rfl) (wd G 4 rfl) ⟨by decide, by decide⟩ (Pays.of_ct (W := 0) (ct_vo G p2 h) all0 (wd G 4 rfl) (wd G 3 rfl) (by decide) (by decide) rfl rfl) (argsL := [(.int p2)]) (rest := []) rfl (lenOf pd_16 rfl) rfl (Nat.le_of_eq rfl) rfl at_20 (pc' := 23) rfl (k' := 1) (n' := 1) rfl rfl (by decide) (by decide) ?_
    intro v_1 h_4 sz_2 q_3
    obtain ⟨r, rfl, E1, X1⟩ := q_3
    exact (sg23 G p1 p2 p3 p4 p5 p6 n (.ref r) h_4 hn (Or.inr ⟨r, rfl, X1⟩)).mono (by decide) (by decide) all0
  · refine Seg.ifN at_12 (XT.i0_eq_f h1) (pc' := 15) rfl ?_
    refine Seg.anull at_15 (pc' := 16) rfl ?_
    refine Seg.goto (pc' := 23) at_16 (by decide) (by decide) ?_
    exact (sg23 G p1 p2 p3 p4 p5 p6 n .null h hn (Or.inl rfl)).mono (by decide) (by decide) all0
set_option maxRecDepth 65536 in
set_option maxHeartbeats 4000000 in
theorem sg0 {l : Launch} {Z : State} {a0 : Array Value} (G : Env1 Z a0) (p1 : Int32) (p2 : Int32) (p3 : Int32) (p4 : Int32) (p5 : Int32) (p6 : Int32) (h0 : Heap) :
    Seg l Z a0 EL1 x code maxLocals ret room_1 (fun v h => v = some (.int 1)) h0 0 0 [] 0 #[.val (.int p1), .val (.int p2), .val (.int p3), .val (.int p4), .val (.int p5), .val (.int p6), .unset, .unset, .unset, .unset, .unset, .unset, .unset, .unset] [] := by
  refine Seg.iloadN at_0 rfl (pc' := 1) rfl ?_
  refine Seg.ldcI (wd G 0 rfl) at_1 (pc' := 3) rfl ?_
  refine Seg.iand (v := (p1 &&& (2147483647 : Int32))) at_3 rfl (pc' := 4) rfl ?_
  refine Seg.iconst (v := 4) at_4 (by decide) (pc' := 5) rfl ?_
  obtain ⟨n, hn, en⟩ := rem4 p1
  refine Seg.irem (v := (Int32.ofNat n)) at_5 (by decide) en (pc' := 6) rfl ?_
  refine Seg.istore (L' := #[.val (.int p1), .val (.int p2), .val (.int p3), .val (.int p4), .val (.int p5), .val (.int p6), .val (.int (Int32.ofNat n)), .unset, .unset, .unset, .unset, .unset, .unset, .unset]) at_6 rfl (pc' := 8) rfl ?_
  exact sg8 G p1 p2 p3 p4 p5 p6 n h0 hn
theorem eqint {args : Array Value} {first s : State} {o : Option Outcome} {idx : List Nat} {t : Term} {n : Int32} (h : (Jvm.Cond.eq t (.int n)).value args first o s idx = some true) : t.eval args first o idx s = some (.int n) := by
  obtain ⟨x, y, h1, h2, h3, -⟩ := cmp_v (Or.inl h)
  cases h2
  cases x <;> simp [Cond.value, h1, Term.eval] at h ⊢
  · exact h
theorem atL {cl : Cell} {i : Nat} {v : Value} (h : cl.slots[i]? = some v) (d : Value) : cl.slots.toList.getD i d = v := by
  rw [List.getD_eq_getElem?_getD, Array.getElem?_toList, h]; rfl
theorem ef_law (i1 : Int32) (i2 : Int32) (i3 : Int32) (i4 : Int32) (i5 : Int32) (i6 : Int32) (m : MethodId) : entryFrame m #[(.int i1), (.int i2), (.int i3), (.int i4), (.int i5), (.int i6)] maxLocals = mkF m 0 #[.val (.int i1), .val (.int i2), .val (.int i3), .val (.int i4), .val (.int i5), .val (.int i6), .unset, .unset, .unset, .unset, .unset, .unset, .unset, .unset] [] := by first | (simp [entryFrame, mkF, argsToLocals, Value.category, maxLocals]; done) | rfl
theorem pn_com_example_reify_reify_EdnListOfPinLaw : plainName "com/example/reify/reify/EdnListOfPinLaw" = true := by first | (simp [plainName, overriddenIn]; done) | decide +kernel
set_option maxRecDepth 65536 in
set_option maxHeartbeats 40000000 in
theorem comes_1 {Post : Tables → Env → Array Value → State → Outcome → State → Prop} (hpost : ∀ tb e args s v u, (limb_1_1.after args s (.returned v) u = true ∧ limb_1_2.after args s (.returned v) u = true ∧ True) → Jvm.Pilot.@@N@@.Jvm.D.FramedW s (.returned v) u (Jvm.fieldLocs frame_1_writes args s ++ Jvm.arrayLocs frame_1_arrays args s ++ Jvm.staticLocs frame_1_statics s) 32 1152 → Post tb e args s (.returned v) u) :
    Jvm.Pilot.@@N@@.Jvm.D.ArmFor flags0 classFile x code maxLocals ret World_1 tables_1 room_1 Calls_1 rest_1 Pre_1 Post := by
  intro l hfl _ _ p e ha hc hk s m args below hf hA hF happ hP
  obtain ⟨hcalls, hrest, hpre⟩ := hP
  obtain ⟨-, -, -, hnamed, -, -, -, hat⟩ := (Spec.applies_iff hf).mp happ
  obtain ⟨hg, hn⟩ := and_e (Cond.before_iff.mp (show (Jvm.Cond.and given_1 narrow_1).before args s = true from hpre))
  obtain ⟨hc0, g1⟩ := and_e hg
  obtain ⟨a1, g2⟩ := and_e g1
  obtain ⟨a2, g3⟩ := and_e g2
  obtain ⟨a3, g4⟩ := and_e g3
  obtain ⟨a4, g5⟩ := and_e g4
  obtain ⟨a5, g6⟩ := and_e g5
  obtain ⟨w0, w1, w2, w3, w4, w5, rfl⟩ : ∃ w0 w1 w2 w3 w4 w5 : Value, args = #[w0, w1, w2, w3, w4, w5] := by
    have hs : args.size = 6 := by simpa [Cond.value, given_1] using hc0
    obtain ⟨L⟩ := args
    match L, hs with
    | [w0, w1, w2, w3, w4, w5], _ => exact ⟨w0, w1, w2, w3, w4, w5, rfl⟩
  have hw := fun d (hd : d ∈ tables_1) => atoms_spec (ws := Jvm.Cond.code x code maxLocals ret :: tables_1) hat d (List.mem_cons_of_mem _ hd)
  obtain ⟨hsets, hown0⟩ := atoms_of _ (rest_1_c_eq ▸ (show rest_1_c.before _ s = true from hrest))
  have hfit : Fit s := fun {y c} hc i hi => by
    obtain ⟨ha, rfl⟩ := Array.getElem?_eq_some_iff.mp hc
    have q := List.all_eq_true.mp ((Array.all_eq_true_iff_forall_mem.mp hF) _ (Array.getElem_mem ha)) i (List.mem_range.mpr hi)
    simpa [Array.getElem?_eq_getElem hi] using q
  obtain ⟨i1, u0⟩ := is_v a1
  obtain rfl : w0 = (.int i1) := Option.some.inj u0
  obtain ⟨i2, u1⟩ := is_v a2
  obtain rfl : w1 = (.int i2) := Option.some.inj u1
  obtain ⟨i3, u2⟩ := is_v a3
  obtain rfl : w2 = (.int i3) := Option.some.inj u2
  obtain ⟨i4, u3⟩ := is_v a4
  obtain rfl : w3 = (.int i4) := Option.some.inj u3
  obtain ⟨i5, u4⟩ := is_v a5
  obtain rfl : w4 = (.int i5) := Option.some.inj u4
  obtain ⟨i6, u5⟩ := is_v g6
  obtain rfl : w5 = (.int i6) := Option.some.inj u5
  have hEW : EW s #[(.int i1), (.int i2), (.int i3), (.int i4), (.int i5), (.int i6)] EL1 := EW.nil
  have Shi : Sta s s.heap "java/lang/Integer$IntegerCache" "high" "I" (.int 127) := Sta.start (eqint (Cond.before_iff.mp (hsets _ (List.mem_of_getElem? (i := 3) rfl)))) (Or.inl (hsets _ (List.mem_of_getElem? (i := 1) rfl)))
  obtain ⟨ca, eca⟩ := arr_v (Cond.before_iff.mp (hsets _ (List.mem_of_getElem? (i := 4) rfl)))
  have Sca : Sta s s.heap "java/lang/Integer$IntegerCache" "cache" "[Ljava/lang/Integer;" (.ref ca) := Sta.start eca (Or.inr ⟨hw _ (List.mem_of_getElem? (i := 6) rfl), (hsets _ (List.mem_of_getElem? (i := 2) rfl))⟩)
  obtain ⟨kca, cla, ata, hca, sza, Vca⟩ := arv_startX .null hfit eca (Cond.before_iff.mp (hsets _ (List.mem_of_getElem? (i := 4) rfl))) (eqint (Cond.before_iff.mp (hsets _ (List.mem_of_getElem? (i := 6) rfl)))) (by decide)
  have sya : cla.slots.size = 256 := sza
  have Hca : ∀ i, i < 256 → ∃ r, cla.slots.toList.getD i .null = .ref r ∧ Exa s s.heap r "java/lang/Integer" := fun i hi => by
    obtain ⟨r, q1, q2⟩ := all_exa eca ata hca (Cond.before_iff.mp (hsets _ (List.mem_of_getElem? (i := 7) rfl))) (i := i) (by omega) (by omega)
    exact ⟨r, atL q1 _, q2⟩
  obtain ⟨d0, ed0⟩ := arr_v (Cond.before_iff.mp (hsets _ (List.mem_of_getElem? (i := 14) rfl)))
  have Sd0 : Sta s s.heap "java/util/ArrayList" "DEFAULTCAPACITY_EMPTY_ELEMENTDATA" "[Ljava/lang/Object;" (.ref d0) := Sta.start ed0 (Or.inr ⟨hw _ (List.mem_of_getElem? (i := 10) rfl), (hsets _ (List.mem_of_getElem? (i := 10) rfl))⟩)
  obtain ⟨e0, ee0⟩ := arr_v (Cond.before_iff.mp (hsets _ (List.mem_of_getElem? (i := 11) rfl)))
  have Se0 : Sta s s.heap "java/util/ArrayList" "EMPTY_ELEMENTDATA" "[Ljava/lang/Object;" (.ref e0) := Sta.start ee0 (Or.inr ⟨hw _ (List.mem_of_getElem? (i := 10) rfl), (hsets _ (List.mem_of_getElem? (i := 8) rfl))⟩)
  obtain ⟨kd, Vd0⟩ := arv_start (vs := []) .null hfit ed0 (Cond.before_iff.mp (hsets _ (List.mem_of_getElem? (i := 14) rfl))) (eqint (Cond.before_iff.mp (hsets _ (List.mem_of_getElem? (i := 16) rfl)))) (by decide) rfl (fun cl hc => trivial)
  have Xd0 : Exa s s.heap d0 "[Ljava/lang/Object;" := Exa.start ed0 (Cond.before_iff.mp (hsets _ (List.mem_of_getElem? (i := 15) rfl)))
  obtain ⟨c1, k1, mo, q1, q2, q3, -⟩ := hcalls.1
  obtain ⟨c2, k2, ma, t1, t2, t3, -⟩ := hcalls.2.1
  have G : Env1 s #[(.int i1), (.int i2), (.int i3), (.int i4), (.int i5), (.int i6)] := ⟨hw, hEW, ⟨Shi, ca, kca, _, Sca, Vca, Hca⟩, d0, kd, e0, mo, ma, Sd0, Vd0, Xd0, Se0, ⟨c1, k1, q1, q2, q3⟩, ⟨c2, k2, t1, t2, t3⟩⟩
  have hH : CHv s EL1 s.vm s.heap := fun p hp => absurd hp (by simp [EL1])
  have ct : Ct l s EL1 [] tables_1 x code maxLocals ret room_1 #[(.int i1), (.int i2), (.int i3), (.int i4), (.int i5), (.int i6)] s.heap (fun v h => v = some (.int 1)) := Ct.of_seg (a0 := #[(.int i1), (.int i2), (.int i3), (.int i4), (.int i5), (.int i6)]) (plainFor_of_name pn_com_example_reify_reify_EdnListOfPinLaw) G.2.1 (ef_law i1 i2 i3 i4 i5 i6) (sg0 G i1 i2 i3 i4 i5 i6 s.heap)
  obtain ⟨n, o, h1, h2, h3, v, L, rfl, ⟨N, -, rfl⟩, hC, hq⟩ := ct p e ha hc hk s m _ below hf ((Spec.applies_iff_loose hf).mp happ).1 ⟨rfl, State.Warmed39.refl s, rfl, hH, (fun x q => nomatch q), ext_rfl _⟩ trivial
  refine ⟨n, _, h1, h2, h3, hpost _ _ _ _ _ _ ⟨Cond.after_iff.mpr rfl, Cond.after_iff.mpr (eq_i res_at (Term.int_eval (1)) rfl), trivial⟩ ?_⟩
  exact ⟨hq.1, hq.2.1, hq.2.2.1, (hq.2.2.2.sift fun y hy => Or.inr (N y hy)).mono (by decide) (by decide)⟩
theorem main_1_1 : Claimed_1_1 := comes_1 fun _ _ _ _ _ _ h hF => ⟨h.1, hF⟩
theorem main_1_2 : Claimed_1_2 := comes_1 fun _ _ _ _ _ _ h hF => ⟨h.2.1, hF⟩
end Jvm.Pilot.@@N@@
namespace Jvm.Pilot.@@N@@
open Jvm Jvm.ClassFile Sem Op Lib Jvm.Free Jvm.Stand Jvm.Pilot.@@N@@.Jvm.D
set_option maxRecDepth 65536
set_option maxHeartbeats 4000000
/-! MADE BY PROGRAM (witnessworld.py) out of the Statement's table words and the real class files: 33 classes; the members and pool entries that the words name. The judged class is class 1, her method 1. -/
namespace start1
open Jvm.ClassFile
def u (s : String) : CpInfo := .utf8 (stringToUtf16 s)
/-- a pool by its gaps: so many unusable entries, then the entry; so many at the end -/
def gap : Nat → List CpInfo → List CpInfo
  | 0, r => r
  | n + 1, r => .unusable :: gap n r
def poolList (es : List (Nat × CpInfo)) (last : Nat) : List CpInfo := es.foldr (fun e r => gap e.1 (e.2 :: r)) (gap last [])
def pool (es : List (Nat × CpInfo)) (last : Nat) : Array CpInfo := ⟨poolList es last⟩
def fileOf (pool : Array CpInfo) (this : Nat) (attrs : Array Attribute := #[]) (ms : Array MethodInfo := #[]) (fl : Nat := 33) (sup : Nat := 0) (ifs : Array Nat := #[]) (fds : Array FieldInfo := #[]) : ClassFile where
  minorVersion := 0
  majorVersion := 65
  constantPool := pool
  accessFlags := fl
  thisClass := this
  superClass := sup
  interfaces := ifs
  fields := fds
  methods := ms
  attributes := attrs
def plain (name : String) (sup : Option ClassId) : Class where
  name := name
  kind := .ordinary
  loader := none
  accessFlags := 33
  super := sup
  interfaces := #[]
  cf := none
  fields := #[]
  methods := #[]
  instanceTypes := #[]
  staticTypes := #[]
  resolved := #[]
  callSites := []
  init := .initialized
  statics := none
  mirror := none

def pool0 : Array CpInfo := pool [(5, u "<init>"), (0, u "()V"), (1, .class_ 10), (1, u "java/lang/Object"), (0, u "getClass"), (0, u "()Ljava/lang/Class;")] 111

def k0c0 : Code := { maxStack := 0, maxLocals := 1, code := object_method_1_code, exceptionTable := #[], attributes := #[] }
def k0m0 : Method := { name := "<init>", desc := "()V", sig := { parameters := [], returnType := none }, accessFlags := 1, code := some k0c0 }
def k0m1 : Method := { name := "getClass", desc := "()Ljava/lang/Class;", sig := { parameters := [], returnType := some (.object "java/lang/Class") }, accessFlags := 273, code := none }
/-- java/lang/Object -/
def k0 : Class := { plain "java/lang/Object" none with
  accessFlags := 33
  interfaces := #[]
  cf := some (fileOf pool0 8 #[] #[{ accessFlags := 1, nameIndex := 5, descriptorIndex := 6, attributes := #[] }, { accessFlags := 273, nameIndex := 11, descriptorIndex := 12, attributes := #[] }] 33 0 #[] #[])
  fields := #[]
  methods := #[k0m0, k0m1]
  instanceTypes := #[]
  staticTypes := #[]
  resolved := Array.replicate 124 none
  statics := none }

def pool1 : Array CpInfo := pool [(2, .class_ 4), (0, .nameAndType 5 6), (0, u "java/lang/Object"), (0, u "<init>"), (0, u "()V"), (0, .integer 2147483647), (0, .methodref 9 10), (0, .class_ 11), (0, .nameAndType 12 13), (0, u "java/lang/Integer"), (0, u "valueOf"), (0, u "(I)Ljava/lang/Integer;"), (0, .class_ 15), (0, u "java/util/ArrayList"), (0, .methodref 14 3), (0, .methodref 14 18), (0, .nameAndType 19 20), (0, u "add"), (0, u "(Ljava/lang/Object;)Z"), (0, .methodref 22 23), (0, .class_ 24), (0, .nameAndType 25 26), (0, u "com/example/reify/reify/EdnList"), (0, u "of"), (0, u "(Ljava/util/List;)Lcom/example/reify/reify/EdnList;"), (0, .methodref 22 28), (0, .nameAndType 29 30), (0, u "size"), (0, u "()I"), (0, .methodref 22 32), (0, .nameAndType 33 34), (0, u "get"), (0, u "(I)Ljava/lang/Object;"), (0, .class_ 36), (0, u "com/example/reify/reify/EdnListOfPinLaw"), (2, u "law"), (0, u "(IIIIII)Z")] 3

def k1m0 : Method := { name := "<init>", desc := "()V", sig := { parameters := [], returnType := none }, accessFlags := 1, code := none }
def k1c1 : Code := { maxStack := 2, maxLocals := 14, code := code, exceptionTable := #[], attributes := #[] }
def k1m1 : Method := { name := "law", desc := "(IIIIII)Z", sig := { parameters := [.int, .int, .int, .int, .int, .int], returnType := some .boolean }, accessFlags := 9, code := some k1c1 }
/-- com/example/reify/reify/EdnListOfPinLaw -/
def k1 : Class := { plain "com/example/reify/reify/EdnListOfPinLaw" (some 0) with
  accessFlags := 49
  interfaces := #[]
  cf := some (fileOf pool1 35 #[] #[{ accessFlags := 1, nameIndex := 5, descriptorIndex := 6, attributes := #[] }, { accessFlags := 9, nameIndex := 39, descriptorIndex := 40, attributes := #[] }] 49 2 #[] #[])
  fields := #[]
  methods := #[k1m0, k1m1]
  instanceTypes := #[]
  staticTypes := #[]
  resolved := Array.replicate 44 none
  statics := none }

def pool2 : Array CpInfo := pool [(1, .class_ 2), (0, u "java/io/Serializable"), (0, .class_ 4), (0, u "java/lang/Object")] 2

/-- java/io/Serializable -/
def k2 : Class := { plain "java/io/Serializable" (some 0) with
  accessFlags := 1537
  interfaces := #[]
  cf := some (fileOf pool2 1 #[] #[] 1537 3 #[] #[])
  fields := #[]
  methods := #[]
  instanceTypes := #[]
  staticTypes := #[]
  resolved := Array.replicate 7 none
  statics := none }

def pool3 : Array CpInfo := pool [(1, .methodref 2 3), (0, .class_ 4), (0, .nameAndType 5 6), (0, u "java/lang/Object"), (0, u "<init>"), (0, u "()V"), (1, .class_ 10), (1, u "java/lang/Number"), (2, .class_ 14), (0, u "java/io/Serializable"), (0, u "serialVersionUID"), (0, u "J")] 20

def k3c0 : Code := { maxStack := 1, maxLocals := 1, code := jdk_18_method_1_code, exceptionTable := #[], attributes := #[] }
def k3m0 : Method := { name := "<init>", desc := "()V", sig := { parameters := [], returnType := none }, accessFlags := 1, code := some k3c0 }
/-- java/lang/Number -/
def k3 : Class := { plain "java/lang/Number" (some 0) with
  accessFlags := 1057
  interfaces := #[2]
  cf := some (fileOf pool3 8 #[] #[{ accessFlags := 1, nameIndex := 5, descriptorIndex := 6, attributes := #[] }] 1057 2 #[13] #[{ accessFlags := 26, nameIndex := 15, descriptorIndex := 16, attributes := #[] }])
  fields := #[{ name := "serialVersionUID", type := .long, accessFlags := 26, slot := 0, constantValue := 0 }]
  methods := #[k3m0]
  instanceTypes := #[]
  staticTypes := #[.long]
  resolved := Array.replicate 37 none
  statics := none }

def pool4 : Array CpInfo := pool [(1, .class_ 2), (0, u "java/lang/Comparable"), (0, .class_ 4), (0, u "java/lang/Object")] 7

/-- java/lang/Comparable -/
def k4 : Class := { plain "java/lang/Comparable" (some 0) with
  accessFlags := 1537
  interfaces := #[]
  cf := some (fileOf pool4 1 #[] #[] 1537 3 #[] #[])
  fields := #[]
  methods := #[]
  instanceTypes := #[]
  staticTypes := #[]
  resolved := Array.replicate 12 none
  statics := none }

def pool5 : Array CpInfo := pool [(1, .class_ 2), (0, u "java/lang/constant/Constable"), (0, .class_ 4), (0, u "java/lang/Object")] 6

/-- java/lang/constant/Constable -/
def k5 : Class := { plain "java/lang/constant/Constable" (some 0) with
  accessFlags := 1537
  interfaces := #[]
  cf := some (fileOf pool5 1 #[] #[] 1537 3 #[] #[])
  fields := #[]
  methods := #[]
  instanceTypes := #[]
  staticTypes := #[]
  resolved := Array.replicate 11 none
  statics := none }

def pool6 : Array CpInfo := pool [(1, .class_ 2), (0, u "java/lang/constant/ConstantDesc"), (0, .class_ 4), (0, u "java/lang/Object")] 32

/-- java/lang/constant/ConstantDesc -/
def k6 : Class := { plain "java/lang/constant/ConstantDesc" (some 0) with
  accessFlags := 1537
  interfaces := #[]
  cf := some (fileOf pool6 1 #[] #[] 1537 3 #[] #[])
  fields := #[]
  methods := #[]
  instanceTypes := #[]
  staticTypes := #[]
  resolved := Array.replicate 37 none
  statics := none }

def pool7 : Array CpInfo := pool [(1, .class_ 2), (0, u "java/lang/Integer"), (16, u "digits"), (0, u "[C"), (46, u "<init>"), (17, u "DigitOnes"), (0, u "[B"), (2, u "DigitTens"), (10, .nameAndType 67 101), (0, u "()V"), (85, u "valueOf"), (0, u "(I)Ljava/lang/Integer;"), (0, .class_ 190), (0, u "java/lang/Integer$IntegerCache"), (0, .fieldref 189 192), (0, .nameAndType 193 194), (0, u "high"), (0, u "I"), (0, .fieldref 189 196), (0, .nameAndType 197 198), (0, u "cache"), (0, u "[Ljava/lang/Integer;"), (0, .methodref 1 200), (0, .nameAndType 67 201), (0, u "(I)V"), (0, .methodref 203 100), (0, .class_ 204), (0, u "java/lang/Number"), (0, .fieldref 1 206), (0, .nameAndType 207 194), (0, u "value"), (94, u "TYPE"), (0, u "Ljava/lang/Class;"), (0, .class_ 305), (0, u "java/lang/Comparable"), (0, .class_ 307), (0, u "java/lang/constant/Constable"), (0, .class_ 309), (0, u "java/lang/constant/ConstantDesc"), (0, u "MIN_VALUE"), (1, u "MAX_VALUE"), (3, u "SIZE"), (1, u "BYTES"), (1, u "serialVersionUID"), (0, u "J")] 131

def k7c0 : Code := { maxStack := 3, maxLocals := 1, code := jdk_33_method_22_code, exceptionTable := #[], attributes := #[] }
def k7m0 : Method := { name := "valueOf", desc := "(I)Ljava/lang/Integer;", sig := { parameters := [.int], returnType := some (.object "java/lang/Integer") }, accessFlags := 9, code := some k7c0 }
def k7c1 : Code := { maxStack := 2, maxLocals := 2, code := jdk_33_method_23_code, exceptionTable := #[], attributes := #[] }
def k7m1 : Method := { name := "<init>", desc := "(I)V", sig := { parameters := [.int], returnType := none }, accessFlags := 1, code := some k7c1 }
/-- java/lang/Integer -/
def k7 : Class := { plain "java/lang/Integer" (some 3) with
  accessFlags := 49
  interfaces := #[4, 5, 6]
  cf := some (fileOf pool7 1 #[.nestMembers #[189]] #[{ accessFlags := 9, nameIndex := 187, descriptorIndex := 188, attributes := #[] }, { accessFlags := 1, nameIndex := 67, descriptorIndex := 201, attributes := #[] }] 49 203 #[304, 306, 308] #[{ accessFlags := 25, nameIndex := 310, descriptorIndex := 194, attributes := #[] }, { accessFlags := 25, nameIndex := 312, descriptorIndex := 194, attributes := #[] }, { accessFlags := 25, nameIndex := 302, descriptorIndex := 303, attributes := #[] }, { accessFlags := 24, nameIndex := 19, descriptorIndex := 20, attributes := #[] }, { accessFlags := 24, nameIndex := 89, descriptorIndex := 86, attributes := #[] }, { accessFlags := 24, nameIndex := 85, descriptorIndex := 86, attributes := #[] }, { accessFlags := 18, nameIndex := 207, descriptorIndex := 194, attributes := #[] }, { accessFlags := 25, nameIndex := 316, descriptorIndex := 194, attributes := #[] }, { accessFlags := 25, nameIndex := 318, descriptorIndex := 194, attributes := #[] }, { accessFlags := 26, nameIndex := 320, descriptorIndex := 321, attributes := #[] }])
  fields := #[{ name := "MIN_VALUE", type := .int, accessFlags := 25, slot := 0, constantValue := 0 }, { name := "MAX_VALUE", type := .int, accessFlags := 25, slot := 1, constantValue := 0 }, { name := "TYPE", type := (.object "java/lang/Class"), accessFlags := 25, slot := 2, constantValue := 0 }, { name := "digits", type := (.array .char), accessFlags := 24, slot := 3, constantValue := 0 }, { name := "DigitTens", type := (.array .byte), accessFlags := 24, slot := 4, constantValue := 0 }, { name := "DigitOnes", type := (.array .byte), accessFlags := 24, slot := 5, constantValue := 0 }, { name := "value", type := .int, accessFlags := 18, slot := 0, constantValue := 0 }, { name := "SIZE", type := .int, accessFlags := 25, slot := 6, constantValue := 0 }, { name := "BYTES", type := .int, accessFlags := 25, slot := 7, constantValue := 0 }, { name := "serialVersionUID", type := .long, accessFlags := 26, slot := 8, constantValue := 0 }]
  methods := #[k7m0, k7m1]
  instanceTypes := #[.int]
  staticTypes := #[.int, .int, (.object "java/lang/Class"), (.array .char), (.array .byte), (.array .byte), .int, .int, .long]
  resolved := Array.replicate 453 none
  statics := none }

def pool8 : Array CpInfo := pool [(2, .class_ 4), (1, u "java/lang/Object"), (0, u "<init>"), (0, u "()V"), (0, .class_ 8), (0, u "java/lang/Integer"), (7, .class_ 18), (1, u "java/lang/Integer$IntegerCache"), (0, u "$assertionsDisabled"), (0, u "Z"), (26, u "high"), (0, u "I"), (8, u "archivedCache"), (0, u "[Ljava/lang/Integer;"), (12, u "cache"), (0, u "low")] 27

def k8m0 : Method := { name := "<init>", desc := "()V", sig := { parameters := [], returnType := none }, accessFlags := 2, code := none }
/-- java/lang/Integer$IntegerCache -/
def k8 : Class := { plain "java/lang/Integer$IntegerCache" (some 0) with
  accessFlags := 48
  interfaces := #[]
  cf := some (fileOf pool8 16 #[.nestHost 7] #[{ accessFlags := 2, nameIndex := 5, descriptorIndex := 6, attributes := #[] }] 48 2 #[] #[{ accessFlags := 24, nameIndex := 72, descriptorIndex := 48, attributes := #[] }, { accessFlags := 24, nameIndex := 47, descriptorIndex := 48, attributes := #[] }, { accessFlags := 24, nameIndex := 71, descriptorIndex := 58, attributes := #[] }, { accessFlags := 8, nameIndex := 57, descriptorIndex := 58, attributes := #[] }, { accessFlags := 4120, nameIndex := 19, descriptorIndex := 20, attributes := #[] }])
  fields := #[{ name := "low", type := .int, accessFlags := 24, slot := 0, constantValue := 0 }, { name := "high", type := .int, accessFlags := 24, slot := 1, constantValue := 0 }, { name := "cache", type := (.array (.object "java/lang/Integer")), accessFlags := 24, slot := 2, constantValue := 0 }, { name := "archivedCache", type := (.array (.object "java/lang/Integer")), accessFlags := 8, slot := 3, constantValue := 0 }, { name := "$assertionsDisabled", type := .boolean, accessFlags := 4120, slot := 4, constantValue := 0 }]
  methods := #[k8m0]
  instanceTypes := #[]
  staticTypes := #[.int, .int, (.array (.object "java/lang/Integer")), (.array (.object "java/lang/Integer")), .boolean]
  resolved := Array.replicate 100 none
  statics := some 0 }

def pool9 : Array CpInfo := pool [(8, .class_ 10), (1, u "java/lang/Iterable"), (24, .class_ 36), (0, u "java/lang/Object")] 25

/-- java/lang/Iterable -/
def k9 : Class := { plain "java/lang/Iterable" (some 0) with
  accessFlags := 1537
  interfaces := #[]
  cf := some (fileOf pool9 8 #[] #[] 1537 35 #[] #[])
  fields := #[]
  methods := #[]
  instanceTypes := #[]
  staticTypes := #[]
  resolved := Array.replicate 62 none
  statics := none }

def pool10 : Array CpInfo := pool [(10, .class_ 12), (1, u "java/util/Collection"), (0, u "toArray"), (46, .class_ 61), (0, u "java/lang/Object"), (0, .class_ 63), (0, u "java/lang/Iterable"), (6, u "()[Ljava/lang/Object;")] 44

def k10m0 : Method := { name := "toArray", desc := "()[Ljava/lang/Object;", sig := { parameters := [], returnType := some (.array (.object "java/lang/Object")) }, accessFlags := 1025, code := none }
/-- java/util/Collection -/
def k10 : Class := { plain "java/util/Collection" (some 0) with
  accessFlags := 1537
  interfaces := #[9]
  cf := some (fileOf pool10 10 #[] #[{ accessFlags := 1025, nameIndex := 13, descriptorIndex := 70, attributes := #[] }] 1537 60 #[62] #[])
  fields := #[]
  methods := #[k10m0]
  instanceTypes := #[]
  staticTypes := #[]
  resolved := Array.replicate 115 none
  statics := none }

def pool11 : Array CpInfo := pool [(1, .methodref 2 3), (0, .class_ 4), (0, .nameAndType 5 6), (0, u "java/lang/Object"), (0, u "<init>"), (0, u "()V"), (1, .class_ 10), (1, u "java/util/AbstractCollection"), (66, .class_ 78), (0, u "java/util/Collection")] 81

def k11c0 : Code := { maxStack := 1, maxLocals := 1, code := jdk_22_method_1_code, exceptionTable := #[], attributes := #[] }
def k11m0 : Method := { name := "<init>", desc := "()V", sig := { parameters := [], returnType := none }, accessFlags := 4, code := some k11c0 }
/-- java/util/AbstractCollection -/
def k11 : Class := { plain "java/util/AbstractCollection" (some 0) with
  accessFlags := 1057
  interfaces := #[10]
  cf := some (fileOf pool11 8 #[] #[{ accessFlags := 4, nameIndex := 5, descriptorIndex := 6, attributes := #[] }] 1057 2 #[77] #[])
  fields := #[]
  methods := #[k11m0]
  instanceTypes := #[]
  staticTypes := #[]
  resolved := Array.replicate 160 none
  statics := none }

def pool12 : Array CpInfo := pool [(8, .class_ 10), (1, u "java/util/SequencedCollection"), (15, .class_ 27), (0, u "java/lang/Object"), (0, .class_ 29), (0, u "java/util/Collection")] 27

/-- java/util/SequencedCollection -/
def k12 : Class := { plain "java/util/SequencedCollection" (some 0) with
  accessFlags := 1537
  interfaces := #[10]
  cf := some (fileOf pool12 8 #[] #[] 1537 26 #[28] #[])
  fields := #[]
  methods := #[]
  instanceTypes := #[]
  staticTypes := #[]
  resolved := Array.replicate 57 none
  statics := none }

def pool13 : Array CpInfo := pool [(8, .class_ 10), (1, u "java/util/List"), (64, u "get"), (0, u "(I)Ljava/lang/Object;"), (2, u "size"), (0, u "()I"), (22, .class_ 104), (0, u "java/lang/Object"), (15, .class_ 121), (0, u "java/util/SequencedCollection")] 129

def k13m0 : Method := { name := "size", desc := "()I", sig := { parameters := [], returnType := some .int }, accessFlags := 1025, code := none }
def k13m1 : Method := { name := "get", desc := "(I)Ljava/lang/Object;", sig := { parameters := [.int], returnType := some (.object "java/lang/Object") }, accessFlags := 1025, code := none }
/-- java/util/List -/
def k13 : Class := { plain "java/util/List" (some 0) with
  accessFlags := 1537
  interfaces := #[12]
  cf := some (fileOf pool13 8 #[] #[{ accessFlags := 1025, nameIndex := 79, descriptorIndex := 80, attributes := #[] }, { accessFlags := 1025, nameIndex := 75, descriptorIndex := 76, attributes := #[] }] 1537 103 #[120] #[])
  fields := #[]
  methods := #[k13m0, k13m1]
  instanceTypes := #[]
  staticTypes := #[]
  resolved := Array.replicate 251 none
  statics := none }

def pool14 : Array CpInfo := pool [(1, .methodref 2 3), (0, .class_ 4), (0, .nameAndType 5 6), (0, u "java/util/AbstractCollection"), (0, u "<init>"), (0, u "()V"), (0, .fieldref 8 9), (0, .class_ 10), (0, .nameAndType 11 12), (0, u "java/util/AbstractList"), (0, u "modCount"), (0, u "I"), (64, .class_ 78), (0, u "java/util/AbstractList$Itr"), (3, .class_ 83), (0, u "java/util/AbstractList$ListItr"), (9, .class_ 94), (0, u "java/util/AbstractList$RandomAccessSubList"), (3, .class_ 99), (0, u "java/util/AbstractList$SubList"), (33, .class_ 134), (0, u "java/util/List"), (73, .class_ 209), (0, u "java/util/AbstractList$SubList$1"), (0, .class_ 211), (0, u "java/util/AbstractList$RandomAccessSpliterator")] 6

def k14c0 : Code := { maxStack := 2, maxLocals := 1, code := jdk_39_method_1_code, exceptionTable := #[], attributes := #[] }
def k14m0 : Method := { name := "<init>", desc := "()V", sig := { parameters := [], returnType := none }, accessFlags := 4, code := some k14c0 }
/-- java/util/AbstractList -/
def k14 : Class := { plain "java/util/AbstractList" (some 11) with
  accessFlags := 1057
  interfaces := #[13]
  cf := some (fileOf pool14 8 #[.nestMembers #[93, 98, 208, 210, 82, 77]] #[{ accessFlags := 4, nameIndex := 5, descriptorIndex := 6, attributes := #[] }] 1057 2 #[133] #[{ accessFlags := 132, nameIndex := 11, descriptorIndex := 12, attributes := #[] }])
  fields := #[{ name := "modCount", type := .int, accessFlags := 132, slot := 0, constantValue := 0 }]
  methods := #[k14m0]
  instanceTypes := #[.int]
  staticTypes := #[]
  resolved := Array.replicate 218 none
  statics := none }

def pool15 : Array CpInfo := pool [(1, .class_ 2), (0, u "java/util/RandomAccess"), (0, .class_ 4), (0, u "java/lang/Object")] 2

/-- java/util/RandomAccess -/
def k15 : Class := { plain "java/util/RandomAccess" (some 0) with
  accessFlags := 1537
  interfaces := #[]
  cf := some (fileOf pool15 1 #[] #[] 1537 3 #[] #[])
  fields := #[]
  methods := #[]
  instanceTypes := #[]
  staticTypes := #[]
  resolved := Array.replicate 7 none
  statics := none }

def pool16 : Array CpInfo := pool [(1, .class_ 2), (0, u "java/lang/Cloneable"), (0, .class_ 4), (0, u "java/lang/Object")] 2

/-- java/lang/Cloneable -/
def k16 : Class := { plain "java/lang/Cloneable" (some 0) with
  accessFlags := 1537
  interfaces := #[]
  cf := some (fileOf pool16 1 #[] #[] 1537 3 #[] #[])
  fields := #[]
  methods := #[]
  instanceTypes := #[]
  staticTypes := #[]
  resolved := Array.replicate 7 none
  statics := none }

def pool17 : Array CpInfo := pool [(1, .methodref 2 3), (0, .class_ 4), (0, .nameAndType 5 6), (0, u "java/util/AbstractList"), (0, u "<init>"), (0, u "()V"), (0, .class_ 8), (0, u "java/lang/Object"), (0, .fieldref 10 11), (0, .class_ 12), (0, .nameAndType 13 14), (0, u "java/util/ArrayList"), (0, u "elementData"), (0, u "[Ljava/lang/Object;"), (0, .fieldref 10 16), (0, .nameAndType 17 14), (0, u "EMPTY_ELEMENTDATA"), (21, .fieldref 10 40), (0, .nameAndType 41 14), (0, u "DEFAULTCAPACITY_EMPTY_ELEMENTDATA"), (0, .interfaceMethodref 43 44), (0, .class_ 45), (0, .nameAndType 46 47), (0, u "java/util/Collection"), (0, u "toArray"), (0, u "()[Ljava/lang/Object;"), (0, .fieldref 10 49), (0, .nameAndType 50 51), (0, u "size"), (0, u "I"), (0, .interfaceMethodref 43 53), (0, .nameAndType 54 55), (0, u "getClass"), (0, u "()Ljava/lang/Class;"), (2, .class_ 60), (1, u "java/util/Arrays"), (0, u "copyOf"), (1, .fieldref 10 64), (0, .nameAndType 65 51), (0, u "modCount"), (0, .methodref 58 67), (0, .nameAndType 61 68), (0, u "([Ljava/lang/Object;I)[Ljava/lang/Object;"), (0, .methodref 10 70), (0, .nameAndType 71 72), (0, u "grow"), (0, u "(I)[Ljava/lang/Object;"), (6, .methodref 80 81), (0, .class_ 82), (0, .nameAndType 83 84), (0, u "java/lang/Math"), (0, u "max"), (0, u "(II)I"), (11, u "(Ljava/lang/Object;)Z"), (21, .methodref 119 120), (0, .class_ 121), (0, .nameAndType 122 84), (0, u "java/util/Objects"), (0, u "checkIndex"), (0, .methodref 10 124), (0, .nameAndType 13 125), (0, u "(I)Ljava/lang/Object;"), (3, .methodref 10 130), (0, .nameAndType 71 47), (0, .methodref 10 132), (0, .nameAndType 133 134), (0, u "add"), (0, u "(Ljava/lang/Object;[Ljava/lang/Object;I)V"), (13, .class_ 149), (0, u "java/util/List"), (36, u "()I"), (75, .class_ 263), (0, u "java/util/ArrayList$ListItr"), (3, .class_ 268), (0, u "java/util/ArrayList$Itr"), (7, .class_ 277), (0, u "java/util/ArrayList$SubList"), (12, .class_ 291), (0, u "java/util/ArrayList$ArrayListSpliterator"), (37, .class_ 330), (0, u "java/util/RandomAccess"), (0, .class_ 332), (0, u "java/lang/Cloneable"), (0, .class_ 334), (0, u "java/io/Serializable"), (0, u "serialVersionUID"), (0, u "J"), (3, u "DEFAULT_CAPACITY"), (10, u "(Ljava/util/Collection;)V"), (29, u "get"), (118, .class_ 501), (0, u "java/util/ArrayList$SubList$2"), (0, .class_ 503), (0, u "java/util/ArrayList$SubList$1")] 5

def k17c0 : Code := { maxStack := 2, maxLocals := 1, code := jdk_38_method_2_code, exceptionTable := #[], attributes := #[] }
def k17m0 : Method := { name := "<init>", desc := "()V", sig := { parameters := [], returnType := none }, accessFlags := 1, code := some k17c0 }
def k17c1 : Code := { maxStack := 4, maxLocals := 3, code := jdk_38_method_3_code, exceptionTable := #[], attributes := #[] }
def k17m1 : Method := { name := "<init>", desc := "(Ljava/util/Collection;)V", sig := { parameters := [(.object "java/util/Collection")], returnType := none }, accessFlags := 1, code := some k17c1 }
def k17c2 : Code := { maxStack := 4, maxLocals := 4, code := jdk_38_method_6_code, exceptionTable := #[], attributes := #[] }
def k17m2 : Method := { name := "grow", desc := "(I)[Ljava/lang/Object;", sig := { parameters := [.int], returnType := some (.array (.object "java/lang/Object")) }, accessFlags := 2, code := some k17c2 }
def k17c3 : Code := { maxStack := 3, maxLocals := 1, code := jdk_38_method_7_code, exceptionTable := #[], attributes := #[] }
def k17m3 : Method := { name := "grow", desc := "()[Ljava/lang/Object;", sig := { parameters := [], returnType := some (.array (.object "java/lang/Object")) }, accessFlags := 2, code := some k17c3 }
def k17c4 : Code := { maxStack := 1, maxLocals := 1, code := jdk_38_method_8_code, exceptionTable := #[], attributes := #[] }
def k17m4 : Method := { name := "size", desc := "()I", sig := { parameters := [], returnType := some .int }, accessFlags := 1, code := some k17c4 }
def k17c5 : Code := { maxStack := 2, maxLocals := 1, code := jdk_38_method_16_code, exceptionTable := #[], attributes := #[] }
def k17m5 : Method := { name := "toArray", desc := "()[Ljava/lang/Object;", sig := { parameters := [], returnType := some (.array (.object "java/lang/Object")) }, accessFlags := 1, code := some k17c5 }
def k17c6 : Code := { maxStack := 2, maxLocals := 2, code := jdk_38_method_18_code, exceptionTable := #[], attributes := #[] }
def k17m6 : Method := { name := "elementData", desc := "(I)Ljava/lang/Object;", sig := { parameters := [.int], returnType := some (.object "java/lang/Object") }, accessFlags := 0, code := some k17c6 }
def k17c7 : Code := { maxStack := 2, maxLocals := 2, code := jdk_38_method_20_code, exceptionTable := #[], attributes := #[] }
def k17m7 : Method := { name := "get", desc := "(I)Ljava/lang/Object;", sig := { parameters := [.int], returnType := some (.object "java/lang/Object") }, accessFlags := 1, code := some k17c7 }
def k17c8 : Code := { maxStack := 3, maxLocals := 4, code := jdk_38_method_24_code, exceptionTable := #[], attributes := #[] }
def k17m8 : Method := { name := "add", desc := "(Ljava/lang/Object;[Ljava/lang/Object;I)V", sig := { parameters := [(.object "java/lang/Object"), (.array (.object "java/lang/Object")), .int], returnType := none }, accessFlags := 2, code := some k17c8 }
def k17c9 : Code := { maxStack := 4, maxLocals := 2, code := jdk_38_method_25_code, exceptionTable := #[], attributes := #[] }
def k17m9 : Method := { name := "add", desc := "(Ljava/lang/Object;)Z", sig := { parameters := [(.object "java/lang/Object")], returnType := some .boolean }, accessFlags := 1, code := some k17c9 }
/-- java/util/ArrayList -/
def k17 : Class := { plain "java/util/ArrayList" (some 14) with
  accessFlags := 33
  interfaces := #[13, 15, 16, 2]
  cf := some (fileOf pool17 10 #[.nestMembers #[290, 276, 500, 502, 262, 267]] #[{ accessFlags := 1, nameIndex := 5, descriptorIndex := 6, attributes := #[] }, { accessFlags := 1, nameIndex := 5, descriptorIndex := 351, attributes := #[] }, { accessFlags := 2, nameIndex := 71, descriptorIndex := 72, attributes := #[] }, { accessFlags := 2, nameIndex := 71, descriptorIndex := 47, attributes := #[] }, { accessFlags := 1, nameIndex := 50, descriptorIndex := 186, attributes := #[] }, { accessFlags := 1, nameIndex := 46, descriptorIndex := 47, attributes := #[] }, { accessFlags := 0, nameIndex := 13, descriptorIndex := 125, attributes := #[] }, { accessFlags := 1, nameIndex := 381, descriptorIndex := 125, attributes := #[] }, { accessFlags := 2, nameIndex := 133, descriptorIndex := 134, attributes := #[] }, { accessFlags := 1, nameIndex := 133, descriptorIndex := 96, attributes := #[] }] 33 2 #[148, 329, 331, 333] #[{ accessFlags := 26, nameIndex := 335, descriptorIndex := 336, attributes := #[] }, { accessFlags := 26, nameIndex := 340, descriptorIndex := 51, attributes := #[] }, { accessFlags := 26, nameIndex := 17, descriptorIndex := 14, attributes := #[] }, { accessFlags := 26, nameIndex := 41, descriptorIndex := 14, attributes := #[] }, { accessFlags := 128, nameIndex := 13, descriptorIndex := 14, attributes := #[] }, { accessFlags := 2, nameIndex := 50, descriptorIndex := 51, attributes := #[] }])
  fields := #[{ name := "serialVersionUID", type := .long, accessFlags := 26, slot := 0, constantValue := 0 }, { name := "DEFAULT_CAPACITY", type := .int, accessFlags := 26, slot := 1, constantValue := 0 }, { name := "EMPTY_ELEMENTDATA", type := (.array (.object "java/lang/Object")), accessFlags := 26, slot := 2, constantValue := 0 }, { name := "DEFAULTCAPACITY_EMPTY_ELEMENTDATA", type := (.array (.object "java/lang/Object")), accessFlags := 26, slot := 3, constantValue := 0 }, { name := "elementData", type := (.array (.object "java/lang/Object")), accessFlags := 128, slot := 1, constantValue := 0 }, { name := "size", type := .int, accessFlags := 2, slot := 2, constantValue := 0 }]
  methods := #[k17m0, k17m1, k17m2, k17m3, k17m4, k17m5, k17m6, k17m7, k17m8, k17m9]
  instanceTypes := #[.int, (.array (.object "java/lang/Object")), .int]
  staticTypes := #[.long, .int, (.array (.object "java/lang/Object")), (.array (.object "java/lang/Object"))]
  resolved := Array.replicate 509 none
  mirror := some 3
  statics := some 1 }

def pool18 : Array CpInfo := pool [(1, .methodref 2 3), (0, .class_ 4), (0, .nameAndType 5 6), (0, u "java/util/AbstractList"), (0, u "<init>"), (0, u "()V"), (0, .fieldref 8 9), (0, .class_ 10), (0, .nameAndType 11 12), (0, u "com/example/reify/reify/EdnList"), (0, u "elements"), (0, u "Ljava/util/List;"), (0, .class_ 14), (0, u "java/util/ArrayList"), (0, .string 11), (0, .methodref 17 18), (0, .class_ 19), (0, .nameAndType 20 21), (0, u "java/util/Objects"), (0, u "requireNonNull"), (0, u "(Ljava/lang/Object;Ljava/lang/String;)Ljava/lang/Object;"), (0, .class_ 23), (0, u "java/util/Collection"), (0, .methodref 13 25), (0, .nameAndType 5 26), (0, u "(Ljava/util/Collection;)V"), (0, .methodref 8 28), (0, .nameAndType 5 29), (0, u "(Ljava/util/List;)V"), (0, .interfaceMethodref 31 32), (0, .class_ 33), (0, .nameAndType 34 35), (0, u "java/util/List"), (0, u "get"), (0, u "(I)Ljava/lang/Object;"), (0, .interfaceMethodref 31 37), (0, .nameAndType 38 39), (0, u "size"), (0, u "()I"), (0, .class_ 41), (0, u "java/util/RandomAccess"), (5, u "of"), (0, u "(Ljava/util/List;)Lcom/example/reify/reify/EdnList;")] 4

def k18c0 : Code := { maxStack := 2, maxLocals := 2, code := prog_14_method_1_code, exceptionTable := #[], attributes := #[] }
def k18m0 : Method := { name := "<init>", desc := "(Ljava/util/List;)V", sig := { parameters := [(.object "java/util/List")], returnType := none }, accessFlags := 0, code := some k18c0 }
def k18c1 : Code := { maxStack := 6, maxLocals := 1, code := prog_14_method_2_code, exceptionTable := #[], attributes := #[] }
def k18m1 : Method := { name := "of", desc := "(Ljava/util/List;)Lcom/example/reify/reify/EdnList;", sig := { parameters := [(.object "java/util/List")], returnType := some (.object "com/example/reify/reify/EdnList") }, accessFlags := 9, code := some k18c1 }
def k18c2 : Code := { maxStack := 2, maxLocals := 2, code := prog_14_method_3_code, exceptionTable := #[], attributes := #[] }
def k18m2 : Method := { name := "get", desc := "(I)Ljava/lang/Object;", sig := { parameters := [.int], returnType := some (.object "java/lang/Object") }, accessFlags := 1, code := some k18c2 }
def k18c3 : Code := { maxStack := 1, maxLocals := 1, code := prog_14_method_4_code, exceptionTable := #[], attributes := #[] }
def k18m3 : Method := { name := "size", desc := "()I", sig := { parameters := [], returnType := some .int }, accessFlags := 1, code := some k18c3 }
/-- com/example/reify/reify/EdnList -/
def k18 : Class := { plain "com/example/reify/reify/EdnList" (some 14) with
  accessFlags := 33
  interfaces := #[15]
  cf := some (fileOf pool18 8 #[] #[{ accessFlags := 0, nameIndex := 5, descriptorIndex := 29, attributes := #[] }, { accessFlags := 9, nameIndex := 47, descriptorIndex := 48, attributes := #[] }, { accessFlags := 1, nameIndex := 34, descriptorIndex := 35, attributes := #[] }, { accessFlags := 1, nameIndex := 38, descriptorIndex := 39, attributes := #[] }] 33 2 #[40] #[{ accessFlags := 18, nameIndex := 11, descriptorIndex := 12, attributes := #[] }])
  fields := #[{ name := "elements", type := (.object "java/util/List"), accessFlags := 18, slot := 1, constantValue := 0 }]
  methods := #[k18m0, k18m1, k18m2, k18m3]
  instanceTypes := #[.int, (.object "java/util/List")]
  staticTypes := #[]
  resolved := Array.replicate 53 none
  statics := none }

def pool19 : Array CpInfo := pool [(2, .class_ 4), (1, u "java/lang/CharSequence"), (42, .class_ 48), (0, u "java/lang/CharSequence$1CodePointIterator"), (10, .class_ 60), (0, u "java/lang/CharSequence$1CharIterator"), (5, .class_ 67), (0, u "java/lang/Object")] 63

/-- java/lang/CharSequence -/
def k19 : Class := { plain "java/lang/CharSequence" (some 0) with
  accessFlags := 1537
  interfaces := #[]
  cf := some (fileOf pool19 2 #[.nestMembers #[47, 59]] #[] 1537 66 #[] #[])
  fields := #[]
  methods := #[]
  instanceTypes := #[]
  staticTypes := #[]
  resolved := Array.replicate 131 none
  statics := none }

def pool20 : Array CpInfo := pool [(2, .class_ 4), (1, u "java/lang/Object"), (0, u "<init>"), (0, u "()V"), (3, .class_ 12), (1, u "java/lang/String"), (0, u "value"), (0, u "[B"), (2, u "coder"), (0, u "B"), (2, u "hash"), (0, u "I"), (2, u "hashIsZero"), (0, u "Z"), (13, u "COMPACT_STRINGS"), (534, .class_ 576), (0, u "java/lang/CharSequence"), (22, u "CASE_INSENSITIVE_ORDER"), (0, u "Ljava/util/Comparator;"), (500, u "serialPersistentFields"), (0, u "[Ljava/io/ObjectStreamField;"), (0, .class_ 1104), (0, u "java/lang/String$CaseInsensitiveComparator"), (1, .class_ 1107), (0, u "java/io/Serializable"), (0, .class_ 1109), (0, u "java/lang/Comparable"), (0, .class_ 1111), (0, u "java/lang/constant/Constable"), (0, .class_ 1113), (0, u "java/lang/constant/ConstantDesc"), (2, u "serialVersionUID"), (0, u "J"), (3, u "REPL"), (0, u "C"), (2, u "LATIN1"), (1, u "UTF16")] 323

def k20m0 : Method := { name := "<init>", desc := "()V", sig := { parameters := [], returnType := none }, accessFlags := 1, code := none }
/-- java/lang/String -/
def k20 : Class := { plain "java/lang/String" (some 0) with
  accessFlags := 49
  interfaces := #[2, 4, 19, 5, 6]
  cf := some (fileOf pool20 10 #[.nestMembers #[1103]] #[{ accessFlags := 1, nameIndex := 5, descriptorIndex := 6, attributes := #[] }] 49 2 #[1106, 1108, 575, 1110, 1112] #[{ accessFlags := 18, nameIndex := 13, descriptorIndex := 14, attributes := #[] }, { accessFlags := 18, nameIndex := 17, descriptorIndex := 18, attributes := #[] }, { accessFlags := 2, nameIndex := 21, descriptorIndex := 22, attributes := #[] }, { accessFlags := 2, nameIndex := 25, descriptorIndex := 26, attributes := #[] }, { accessFlags := 26, nameIndex := 1116, descriptorIndex := 1117, attributes := #[] }, { accessFlags := 24, nameIndex := 40, descriptorIndex := 26, attributes := #[] }, { accessFlags := 26, nameIndex := 1101, descriptorIndex := 1102, attributes := #[] }, { accessFlags := 26, nameIndex := 1121, descriptorIndex := 1122, attributes := #[] }, { accessFlags := 25, nameIndex := 599, descriptorIndex := 600, attributes := #[] }, { accessFlags := 24, nameIndex := 1125, descriptorIndex := 18, attributes := #[] }, { accessFlags := 24, nameIndex := 1127, descriptorIndex := 18, attributes := #[] }])
  fields := #[{ name := "value", type := (.array .byte), accessFlags := 18, slot := 0, constantValue := 0 }, { name := "coder", type := .byte, accessFlags := 18, slot := 1, constantValue := 0 }, { name := "hash", type := .int, accessFlags := 2, slot := 2, constantValue := 0 }, { name := "hashIsZero", type := .boolean, accessFlags := 2, slot := 3, constantValue := 0 }, { name := "serialVersionUID", type := .long, accessFlags := 26, slot := 0, constantValue := 0 }, { name := "COMPACT_STRINGS", type := .boolean, accessFlags := 24, slot := 1, constantValue := 0 }, { name := "serialPersistentFields", type := (.array (.object "java/io/ObjectStreamField")), accessFlags := 26, slot := 2, constantValue := 0 }, { name := "REPL", type := .char, accessFlags := 26, slot := 3, constantValue := 0 }, { name := "CASE_INSENSITIVE_ORDER", type := (.object "java/util/Comparator"), accessFlags := 25, slot := 4, constantValue := 0 }, { name := "LATIN1", type := .byte, accessFlags := 24, slot := 5, constantValue := 0 }, { name := "UTF16", type := .byte, accessFlags := 24, slot := 6, constantValue := 0 }]
  methods := #[k20m0]
  instanceTypes := #[(.array .byte), .byte, .int, .boolean]
  staticTypes := #[.long, .boolean, (.array (.object "java/io/ObjectStreamField")), .char, (.object "java/util/Comparator"), .byte, .byte]
  resolved := Array.replicate 1451 none
  statics := none }

def pool21 : Array CpInfo := pool [(2, .class_ 4), (1, u "java/lang/Object"), (0, u "<init>"), (0, u "()V"), (35, .class_ 44), (1, u "java/util/Objects"), (0, u "requireNonNull"), (48, u "(Ljava/lang/Object;Ljava/lang/String;)Ljava/lang/Object;"), (10, .methodref 106 107), (0, .class_ 108), (0, .nameAndType 109 110), (0, u "jdk/internal/util/Preconditions"), (0, u "checkIndex"), (0, u "(IILjava/util/function/BiFunction;)I"), (60, u "(II)I")] 12

def k21m0 : Method := { name := "<init>", desc := "()V", sig := { parameters := [], returnType := none }, accessFlags := 2, code := none }
def k21c1 : Code := { maxStack := 3, maxLocals := 2, code := jdk_31_method_11_code, exceptionTable := #[], attributes := #[] }
def k21m1 : Method := { name := "requireNonNull", desc := "(Ljava/lang/Object;Ljava/lang/String;)Ljava/lang/Object;", sig := { parameters := [(.object "java/lang/Object"), (.object "java/lang/String")], returnType := some (.object "java/lang/Object") }, accessFlags := 9, code := some k21c1 }
def k21c2 : Code := { maxStack := 3, maxLocals := 2, code := jdk_31_method_17_code, exceptionTable := #[], attributes := #[] }
def k21m2 : Method := { name := "checkIndex", desc := "(II)I", sig := { parameters := [.int, .int], returnType := some .int }, accessFlags := 9, code := some k21c2 }
/-- java/util/Objects -/
def k21 : Class := { plain "java/util/Objects" (some 0) with
  accessFlags := 49
  interfaces := #[]
  cf := some (fileOf pool21 42 #[] #[{ accessFlags := 2, nameIndex := 5, descriptorIndex := 6, attributes := #[] }, { accessFlags := 9, nameIndex := 45, descriptorIndex := 94, attributes := #[] }, { accessFlags := 9, nameIndex := 109, descriptorIndex := 171, attributes := #[] }] 49 2 #[] #[])
  fields := #[]
  methods := #[k21m0, k21m1, k21m2]
  instanceTypes := #[]
  staticTypes := #[]
  resolved := Array.replicate 184 none
  statics := none }

def pool22 : Array CpInfo := pool [(2, .class_ 4), (1, u "java/lang/Object"), (0, u "<init>"), (0, u "()V"), (7, .class_ 16), (1, u "java/util/Arrays"), (57, .class_ 76), (1, u "java/util/Arrays$NaturalOrder"), (9, .methodref 2 87), (0, .nameAndType 88 89), (0, u "getClass"), (0, u "()Ljava/lang/Class;"), (20, .class_ 111), (0, u "[Ljava/lang/Object;"), (1, .class_ 115), (1, u "java/util/Arrays$LegacyMergeSort"), (1, u "Z"), (32, .methodref 151 152), (0, .class_ 153), (0, .nameAndType 154 155), (0, u "java/lang/System"), (0, u "arraycopy"), (0, u "(Ljava/lang/Object;ILjava/lang/Object;II)V"), (144, .methodref 14 301), (0, .nameAndType 302 303), (0, u "copyOf"), (0, u "([Ljava/lang/Object;ILjava/lang/Class;)[Ljava/lang/Object;"), (0, .methodref 305 306), (0, .class_ 307), (0, .nameAndType 308 309), (0, u "java/lang/Math"), (0, u "min"), (0, u "(II)I"), (65, .class_ 376), (0, u "java/util/Arrays$ArrayList"), (68, u "$assertionsDisabled"), (269, u "MIN_ARRAY_SORT_GRAN"), (0, u "I"), (2, u "INSERTIONSORT_THRESHOLD"), (140, u "([Ljava/lang/Object;I)[Ljava/lang/Object;"), (114, .class_ 976), (0, u "java/util/Arrays$ArrayItr")] 52

def k22m0 : Method := { name := "<init>", desc := "()V", sig := { parameters := [], returnType := none }, accessFlags := 2, code := none }
def k22c1 : Code := { maxStack := 3, maxLocals := 2, code := jdk_65_method_119_code, exceptionTable := #[], attributes := #[] }
def k22m1 : Method := { name := "copyOf", desc := "([Ljava/lang/Object;I)[Ljava/lang/Object;", sig := { parameters := [(.array (.object "java/lang/Object")), .int], returnType := some (.array (.object "java/lang/Object")) }, accessFlags := 9, code := some k22c1 }
def k22c2 : Code := { maxStack := 6, maxLocals := 4, code := jdk_65_method_120_code, exceptionTable := #[], attributes := #[] }
def k22m2 : Method := { name := "copyOf", desc := "([Ljava/lang/Object;ILjava/lang/Class;)[Ljava/lang/Object;", sig := { parameters := [(.array (.object "java/lang/Object")), .int, (.object "java/lang/Class")], returnType := some (.array (.object "java/lang/Object")) }, accessFlags := 9, code := some k22c2 }
/-- java/util/Arrays -/
def k22 : Class := { plain "java/util/Arrays" (some 0) with
  accessFlags := 49
  interfaces := #[]
  cf := some (fileOf pool22 14 #[.nestMembers #[975, 375, 113, 74]] #[{ accessFlags := 2, nameIndex := 5, descriptorIndex := 6, attributes := #[] }, { accessFlags := 9, nameIndex := 302, descriptorIndex := 860, attributes := #[] }, { accessFlags := 9, nameIndex := 302, descriptorIndex := 303, attributes := #[] }] 49 2 #[] #[{ accessFlags := 26, nameIndex := 715, descriptorIndex := 716, attributes := #[] }, { accessFlags := 26, nameIndex := 719, descriptorIndex := 716, attributes := #[] }, { accessFlags := 4120, nameIndex := 445, descriptorIndex := 117, attributes := #[] }])
  fields := #[{ name := "MIN_ARRAY_SORT_GRAN", type := .int, accessFlags := 26, slot := 0, constantValue := 0 }, { name := "INSERTIONSORT_THRESHOLD", type := .int, accessFlags := 26, slot := 1, constantValue := 0 }, { name := "$assertionsDisabled", type := .boolean, accessFlags := 4120, slot := 2, constantValue := 0 }]
  methods := #[k22m0, k22m1, k22m2]
  instanceTypes := #[]
  staticTypes := #[.int, .int, .boolean]
  resolved := Array.replicate 1029 none
  statics := none }

def pool23 : Array CpInfo := pool [(1, .class_ 2), (0, u "java/lang/Math"), (1, .class_ 6), (1, u "java/lang/Object"), (0, u "<init>"), (0, u "()V"), (89, .class_ 100), (1, u "java/lang/Math$RandomNumberGeneratorHolder"), (71, u "negativeZeroFloatBits"), (0, u "J"), (2, u "negativeZeroDoubleBits"), (21, u "max"), (2, u "min"), (43, u "$assertionsDisabled"), (0, u "Z"), (88, u "(II)I"), (2, u "twoToTheDoubleScaleDown"), (0, u "D"), (4, u "twoToTheDoubleScaleUp"), (9, u "E"), (3, u "PI"), (2, u "TAU"), (2, u "DEGREES_TO_RADIANS"), (0, u "RADIANS_TO_DEGREES")] 94

def k23m0 : Method := { name := "<init>", desc := "()V", sig := { parameters := [], returnType := none }, accessFlags := 2, code := none }
def k23c1 : Code := { maxStack := 2, maxLocals := 2, code := jdk_29_method_65_code, exceptionTable := #[], attributes := #[] }
def k23m1 : Method := { name := "max", desc := "(II)I", sig := { parameters := [.int, .int], returnType := some .int }, accessFlags := 9, code := some k23c1 }
def k23c2 : Code := { maxStack := 2, maxLocals := 2, code := jdk_29_method_69_code, exceptionTable := #[], attributes := #[] }
def k23m2 : Method := { name := "min", desc := "(II)I", sig := { parameters := [.int, .int], returnType := some .int }, accessFlags := 9, code := some k23c2 }
/-- java/lang/Math -/
def k23 : Class := { plain "java/lang/Math" (some 0) with
  accessFlags := 49
  interfaces := #[]
  cf := some (fileOf pool23 1 #[.nestMembers #[98]] #[{ accessFlags := 2, nameIndex := 7, descriptorIndex := 8, attributes := #[] }, { accessFlags := 9, nameIndex := 198, descriptorIndex := 335, attributes := #[] }, { accessFlags := 9, nameIndex := 201, descriptorIndex := 335, attributes := #[] }] 49 4 #[] #[{ accessFlags := 25, nameIndex := 354, descriptorIndex := 339, attributes := #[] }, { accessFlags := 25, nameIndex := 358, descriptorIndex := 339, attributes := #[] }, { accessFlags := 25, nameIndex := 361, descriptorIndex := 339, attributes := #[] }, { accessFlags := 26, nameIndex := 364, descriptorIndex := 339, attributes := #[] }, { accessFlags := 26, nameIndex := 365, descriptorIndex := 339, attributes := #[] }, { accessFlags := 26, nameIndex := 172, descriptorIndex := 173, attributes := #[] }, { accessFlags := 26, nameIndex := 176, descriptorIndex := 173, attributes := #[] }, { accessFlags := 8, nameIndex := 344, descriptorIndex := 339, attributes := #[] }, { accessFlags := 8, nameIndex := 338, descriptorIndex := 339, attributes := #[] }, { accessFlags := 4120, nameIndex := 245, descriptorIndex := 246, attributes := #[] }])
  fields := #[{ name := "E", type := .double, accessFlags := 25, slot := 0, constantValue := 0 }, { name := "PI", type := .double, accessFlags := 25, slot := 1, constantValue := 0 }, { name := "TAU", type := .double, accessFlags := 25, slot := 2, constantValue := 0 }, { name := "DEGREES_TO_RADIANS", type := .double, accessFlags := 26, slot := 3, constantValue := 0 }, { name := "RADIANS_TO_DEGREES", type := .double, accessFlags := 26, slot := 4, constantValue := 0 }, { name := "negativeZeroFloatBits", type := .long, accessFlags := 26, slot := 5, constantValue := 0 }, { name := "negativeZeroDoubleBits", type := .long, accessFlags := 26, slot := 6, constantValue := 0 }, { name := "twoToTheDoubleScaleUp", type := .double, accessFlags := 8, slot := 7, constantValue := 0 }, { name := "twoToTheDoubleScaleDown", type := .double, accessFlags := 8, slot := 8, constantValue := 0 }, { name := "$assertionsDisabled", type := .boolean, accessFlags := 4120, slot := 9, constantValue := 0 }]
  methods := #[k23m0, k23m1, k23m2]
  instanceTypes := #[]
  staticTypes := #[.double, .double, .double, .double, .double, .long, .long, .double, .double, .boolean]
  resolved := Array.replicate 460 none
  statics := none }

def pool24 : Array CpInfo := pool [(2, .class_ 4), (1, u "java/lang/Object"), (0, u "<init>"), (0, u "()V"), (1, .class_ 10), (1, u "java/lang/System"), (0, u "allowSecurityManager"), (0, u "I"), (16, u "cons"), (0, u "Ljava/io/Console;"), (77, .class_ 110), (1, u "java/lang/System$CallersHolder"), (43, u "initialErrStream"), (0, u "Ljava/io/PrintStream;"), (19, u "security"), (0, u "Ljava/lang/SecurityManager;"), (31, .class_ 209), (0, u "java/lang/System$1"), (7, u "props"), (0, u "Ljava/util/Properties;"), (2, u "lineSeparator"), (0, u "Ljava/lang/String;"), (96, .class_ 321), (1, u "java/lang/System$LoggerFinder"), (5, .class_ 328), (0, u "java/lang/System$Logger"), (67, u "err"), (2, u "out"), (91, u "notSupportedJnuEncoding"), (15, u "in"), (17, u "initialIn"), (0, u "Ljava/io/InputStream;"), (35, u "bootLayer"), (0, u "Ljava/lang/ModuleLayer;"), (99, .class_ 664), (0, u "java/lang/System$2"), (9, u "NEVER"), (2, u "MAYBE"), (49, u "arraycopy"), (0, u "(Ljava/lang/Object;ILjava/lang/Object;II)V"), (72, .class_ 802), (0, u "java/lang/System$Logger$Level")] 31

def k24m0 : Method := { name := "<init>", desc := "()V", sig := { parameters := [], returnType := none }, accessFlags := 2, code := none }
def k24m1 : Method := { name := "arraycopy", desc := "(Ljava/lang/Object;ILjava/lang/Object;II)V", sig := { parameters := [(.object "java/lang/Object"), .int, (.object "java/lang/Object"), .int, .int], returnType := none }, accessFlags := 265, code := none }
/-- java/lang/System -/
def k24 : Class := { plain "java/lang/System" (some 0) with
  accessFlags := 49
  interfaces := #[]
  cf := some (fileOf pool24 8 #[.nestMembers #[319, 327, 801, 108, 663, 208]] #[{ accessFlags := 2, nameIndex := 5, descriptorIndex := 6, attributes := #[] }, { accessFlags := 265, nameIndex := 727, descriptorIndex := 728, attributes := #[] }] 49 2 #[] #[{ accessFlags := 25, nameIndex := 507, descriptorIndex := 526, attributes := #[] }, { accessFlags := 25, nameIndex := 399, descriptorIndex := 155, attributes := #[] }, { accessFlags := 25, nameIndex := 396, descriptorIndex := 155, attributes := #[] }, { accessFlags := 10, nameIndex := 525, descriptorIndex := 526, attributes := #[] }, { accessFlags := 26, nameIndex := 674, descriptorIndex := 12, attributes := #[] }, { accessFlags := 26, nameIndex := 677, descriptorIndex := 12, attributes := #[] }, { accessFlags := 10, nameIndex := 11, descriptorIndex := 12, attributes := #[] }, { accessFlags := 74, nameIndex := 175, descriptorIndex := 176, attributes := #[] }, { accessFlags := 10, nameIndex := 491, descriptorIndex := 222, attributes := #[] }, { accessFlags := 74, nameIndex := 29, descriptorIndex := 30, attributes := #[] }, { accessFlags := 74, nameIndex := 154, descriptorIndex := 155, attributes := #[] }, { accessFlags := 10, nameIndex := 217, descriptorIndex := 218, attributes := #[] }, { accessFlags := 10, nameIndex := 221, descriptorIndex := 222, attributes := #[] }, { accessFlags := 8, nameIndex := 562, descriptorIndex := 563, attributes := #[] }])
  fields := #[{ name := "in", type := (.object "java/io/InputStream"), accessFlags := 25, slot := 0, constantValue := 0 }, { name := "out", type := (.object "java/io/PrintStream"), accessFlags := 25, slot := 1, constantValue := 0 }, { name := "err", type := (.object "java/io/PrintStream"), accessFlags := 25, slot := 2, constantValue := 0 }, { name := "initialIn", type := (.object "java/io/InputStream"), accessFlags := 10, slot := 3, constantValue := 0 }, { name := "NEVER", type := .int, accessFlags := 26, slot := 4, constantValue := 0 }, { name := "MAYBE", type := .int, accessFlags := 26, slot := 5, constantValue := 0 }, { name := "allowSecurityManager", type := .int, accessFlags := 10, slot := 6, constantValue := 0 }, { name := "security", type := (.object "java/lang/SecurityManager"), accessFlags := 74, slot := 7, constantValue := 0 }, { name := "notSupportedJnuEncoding", type := (.object "java/lang/String"), accessFlags := 10, slot := 8, constantValue := 0 }, { name := "cons", type := (.object "java/io/Console"), accessFlags := 74, slot := 9, constantValue := 0 }, { name := "initialErrStream", type := (.object "java/io/PrintStream"), accessFlags := 74, slot := 10, constantValue := 0 }, { name := "props", type := (.object "java/util/Properties"), accessFlags := 10, slot := 11, constantValue := 0 }, { name := "lineSeparator", type := (.object "java/lang/String"), accessFlags := 10, slot := 12, constantValue := 0 }, { name := "bootLayer", type := (.object "java/lang/ModuleLayer"), accessFlags := 8, slot := 13, constantValue := 0 }]
  methods := #[k24m0, k24m1]
  instanceTypes := #[]
  staticTypes := #[(.object "java/io/InputStream"), (.object "java/io/PrintStream"), (.object "java/io/PrintStream"), (.object "java/io/InputStream"), .int, .int, .int, (.object "java/lang/SecurityManager"), (.object "java/lang/String"), (.object "java/io/Console"), (.object "java/io/PrintStream"), (.object "java/util/Properties"), (.object "java/lang/String"), (.object "java/lang/ModuleLayer")]
  resolved := Array.replicate 834 none
  statics := none }

def pool25 : Array CpInfo := pool [(2, .class_ 4), (1, u "java/lang/Object"), (0, u "<init>"), (0, u "()V"), (17, .class_ 26), (1, u "jdk/internal/util/Preconditions"), (6, u "checkIndex"), (21, .class_ 56), (0, u "jdk/internal/util/Preconditions$4"), (57, .class_ 115), (0, u "jdk/internal/util/Preconditions$1"), (7, u "SIOOBE_FORMATTER"), (0, u "Ljava/util/function/BiFunction;"), (0, .class_ 126), (0, u "jdk/internal/util/Preconditions$2"), (3, u "AIOOBE_FORMATTER"), (0, .class_ 132), (0, u "jdk/internal/util/Preconditions$3"), (3, u "IOOBE_FORMATTER"), (41, u "(IILjava/util/function/BiFunction;)I")] 15

def k25m0 : Method := { name := "<init>", desc := "()V", sig := { parameters := [], returnType := none }, accessFlags := 1, code := none }
def k25c1 : Code := { maxStack := 3, maxLocals := 3, code := jdk_41_method_11_code, exceptionTable := #[], attributes := #[] }
def k25m1 : Method := { name := "checkIndex", desc := "(IILjava/util/function/BiFunction;)I", sig := { parameters := [.int, .int, (.object "java/util/function/BiFunction")], returnType := some .int }, accessFlags := 9, code := some k25c1 }
/-- jdk/internal/util/Preconditions -/
def k25 : Class := { plain "jdk/internal/util/Preconditions" (some 0) with
  accessFlags := 33
  interfaces := #[]
  cf := some (fileOf pool25 24 #[.nestMembers #[55, 131, 125, 114]] #[{ accessFlags := 1, nameIndex := 5, descriptorIndex := 6, attributes := #[] }, { accessFlags := 9, nameIndex := 33, descriptorIndex := 178, attributes := #[] }] 33 2 #[] #[{ accessFlags := 25, nameIndex := 123, descriptorIndex := 124, attributes := #[] }, { accessFlags := 25, nameIndex := 130, descriptorIndex := 124, attributes := #[] }, { accessFlags := 25, nameIndex := 136, descriptorIndex := 124, attributes := #[] }])
  fields := #[{ name := "SIOOBE_FORMATTER", type := (.object "java/util/function/BiFunction"), accessFlags := 25, slot := 0, constantValue := 0 }, { name := "AIOOBE_FORMATTER", type := (.object "java/util/function/BiFunction"), accessFlags := 25, slot := 1, constantValue := 0 }, { name := "IOOBE_FORMATTER", type := (.object "java/util/function/BiFunction"), accessFlags := 25, slot := 2, constantValue := 0 }]
  methods := #[k25m0, k25m1]
  instanceTypes := #[]
  staticTypes := #[(.object "java/util/function/BiFunction"), (.object "java/util/function/BiFunction"), (.object "java/util/function/BiFunction")]
  resolved := Array.replicate 194 none
  statics := none }

def pool26 : Array CpInfo := pool [(1, u "java/lang/Class"), (0, .class_ 1), (0, u "java/lang/Object"), (0, .class_ 3)] 0

/-- java/lang/Class -/
def k26 : Class := { plain "java/lang/Class" (some 0) with
  accessFlags := 49
  interfaces := #[]
  cf := some (fileOf pool26 2 #[] #[] 49 4 #[] #[])
  fields := #[]
  methods := #[]
  instanceTypes := #[]
  staticTypes := #[]
  resolved := Array.replicate 5 none
  statics := none }

/-- the primitive byte -/
def k27 : Class := { plain "byte" none with kind := .primitive 'B', accessFlags := 0x411 }
/-- [B -/
def k28 : Class := { plain "[B" (some 0) with kind := .array 27 .byte, interfaces := #[16, 2], accessFlags := 1041 }

/-- the primitive int -/
def k29 : Class := { plain "int" none with kind := .primitive 'I', accessFlags := 0x411 }
/-- [I -/
def k30 : Class := { plain "[I" (some 0) with kind := .array 29 .int, interfaces := #[16, 2], accessFlags := 1041 }

/-- [Ljava/lang/Integer; -/
def k31 : Class := { plain "[Ljava/lang/Integer;" (some 0) with kind := .array 7 (.object "java/lang/Integer"), interfaces := #[16, 2], accessFlags := 1041 }

/-- [Ljava/lang/Object; -/
def k32 : Class := { plain "[Ljava/lang/Object;" (some 0) with kind := .array 0 (.object "java/lang/Object"), interfaces := #[16, 2], accessFlags := 1041, mirror := some 2 }

def heap : Heap := #[{ cls := 8, slots := #[.int 0, .int 127, .ref 4, .null, .int 0], vm := .statics 8 },
  { cls := 17, slots := #[.long 0, .int 0, .ref 261, .ref 262], vm := .statics 17 },
  { cls := 26, slots := #[], vm := .mirror 32 },
  { cls := 26, slots := #[], vm := .mirror 17 },
  { cls := 31, slots := #[.ref 5, .ref 6, .ref 7, .ref 8, .ref 9, .ref 10, .ref 11, .ref 12, .ref 13, .ref 14, .ref 15, .ref 16, .ref 17, .ref 18, .ref 19, .ref 20, .ref 21, .ref 22, .ref 23, .ref 24, .ref 25, .ref 26, .ref 27, .ref 28, .ref 29, .ref 30, .ref 31, .ref 32, .ref 33, .ref 34, .ref 35, .ref 36, .ref 37, .ref 38, .ref 39, .ref 40, .ref 41, .ref 42, .ref 43, .ref 44, .ref 45, .ref 46, .ref 47, .ref 48, .ref 49, .ref 50, .ref 51, .ref 52, .ref 53, .ref 54, .ref 55, .ref 56, .ref 57, .ref 58, .ref 59, .ref 60, .ref 61, .ref 62, .ref 63, .ref 64, .ref 65, .ref 66, .ref 67, .ref 68, .ref 69, .ref 70, .ref 71, .ref 72, .ref 73, .ref 74, .ref 75, .ref 76, .ref 77, .ref 78, .ref 79, .ref 80, .ref 81, .ref 82, .ref 83, .ref 84, .ref 85, .ref 86, .ref 87, .ref 88, .ref 89, .ref 90, .ref 91, .ref 92, .ref 93, .ref 94, .ref 95, .ref 96, .ref 97, .ref 98, .ref 99, .ref 100, .ref 101, .ref 102, .ref 103, .ref 104, .ref 105, .ref 106, .ref 107, .ref 108, .ref 109, .ref 110, .ref 111, .ref 112, .ref 113, .ref 114, .ref 115, .ref 116, .ref 117, .ref 118, .ref 119, .ref 120, .ref 121, .ref 122, .ref 123, .ref 124, .ref 125, .ref 126, .ref 127, .ref 128, .ref 129, .ref 130, .ref 131, .ref 132, .ref 133, .ref 134, .ref 135, .ref 136, .ref 137, .ref 138, .ref 139, .ref 140, .ref 141, .ref 142, .ref 143, .ref 144, .ref 145, .ref 146, .ref 147, .ref 148, .ref 149, .ref 150, .ref 151, .ref 152, .ref 153, .ref 154, .ref 155, .ref 156, .ref 157, .ref 158, .ref 159, .ref 160, .ref 161, .ref 162, .ref 163, .ref 164, .ref 165, .ref 166, .ref 167, .ref 168, .ref 169, .ref 170, .ref 171, .ref 172, .ref 173, .ref 174, .ref 175, .ref 176, .ref 177, .ref 178, .ref 179, .ref 180, .ref 181, .ref 182, .ref 183, .ref 184, .ref 185, .ref 186, .ref 187, .ref 188, .ref 189, .ref 190, .ref 191, .ref 192, .ref 193, .ref 194, .ref 195, .ref 196, .ref 197, .ref 198, .ref 199, .ref 200, .ref 201, .ref 202, .ref 203, .ref 204, .ref 205, .ref 206, .ref 207, .ref 208, .ref 209, .ref 210, .ref 211, .ref 212, .ref 213, .ref 214, .ref 215, .ref 216, .ref 217, .ref 218, .ref 219, .ref 220, .ref 221, .ref 222, .ref 223, .ref 224, .ref 225, .ref 226, .ref 227, .ref 228, .ref 229, .ref 230, .ref 231, .ref 232, .ref 233, .ref 234, .ref 235, .ref 236, .ref 237, .ref 238, .ref 239, .ref 240, .ref 241, .ref 242, .ref 243, .ref 244, .ref 245, .ref 246, .ref 247, .ref 248, .ref 249, .ref 250, .ref 251, .ref 252, .ref 253, .ref 254, .ref 255, .ref 256, .ref 257, .ref 258, .ref 259, .ref 260], vm := .none },
  { cls := 7, slots := #[.int (-128)], vm := .none },
  { cls := 7, slots := #[.int (-127)], vm := .none },
  { cls := 7, slots := #[.int (-126)], vm := .none },
  { cls := 7, slots := #[.int (-125)], vm := .none },
  { cls := 7, slots := #[.int (-124)], vm := .none },
  { cls := 7, slots := #[.int (-123)], vm := .none },
  { cls := 7, slots := #[.int (-122)], vm := .none },
  { cls := 7, slots := #[.int (-121)], vm := .none },
  { cls := 7, slots := #[.int (-120)], vm := .none },
  { cls := 7, slots := #[.int (-119)], vm := .none },
  { cls := 7, slots := #[.int (-118)], vm := .none },
  { cls := 7, slots := #[.int (-117)], vm := .none },
  { cls := 7, slots := #[.int (-116)], vm := .none },
  { cls := 7, slots := #[.int (-115)], vm := .none },
  { cls := 7, slots := #[.int (-114)], vm := .none },
  { cls := 7, slots := #[.int (-113)], vm := .none },
  { cls := 7, slots := #[.int (-112)], vm := .none },
  { cls := 7, slots := #[.int (-111)], vm := .none },
  { cls := 7, slots := #[.int (-110)], vm := .none },
  { cls := 7, slots := #[.int (-109)], vm := .none },
  { cls := 7, slots := #[.int (-108)], vm := .none },
  { cls := 7, slots := #[.int (-107)], vm := .none },
  { cls := 7, slots := #[.int (-106)], vm := .none },
  { cls := 7, slots := #[.int (-105)], vm := .none },
  { cls := 7, slots := #[.int (-104)], vm := .none },
  { cls := 7, slots := #[.int (-103)], vm := .none },
  { cls := 7, slots := #[.int (-102)], vm := .none },
  { cls := 7, slots := #[.int (-101)], vm := .none },
  { cls := 7, slots := #[.int (-100)], vm := .none },
  { cls := 7, slots := #[.int (-99)], vm := .none },
  { cls := 7, slots := #[.int (-98)], vm := .none },
  { cls := 7, slots := #[.int (-97)], vm := .none },
  { cls := 7, slots := #[.int (-96)], vm := .none },
  { cls := 7, slots := #[.int (-95)], vm := .none },
  { cls := 7, slots := #[.int (-94)], vm := .none },
  { cls := 7, slots := #[.int (-93)], vm := .none },
  { cls := 7, slots := #[.int (-92)], vm := .none },
  { cls := 7, slots := #[.int (-91)], vm := .none },
  { cls := 7, slots := #[.int (-90)], vm := .none },
  { cls := 7, slots := #[.int (-89)], vm := .none },
  { cls := 7, slots := #[.int (-88)], vm := .none },
  { cls := 7, slots := #[.int (-87)], vm := .none },
  { cls := 7, slots := #[.int (-86)], vm := .none },
  { cls := 7, slots := #[.int (-85)], vm := .none },
  { cls := 7, slots := #[.int (-84)], vm := .none },
  { cls := 7, slots := #[.int (-83)], vm := .none },
  { cls := 7, slots := #[.int (-82)], vm := .none },
  { cls := 7, slots := #[.int (-81)], vm := .none },
  { cls := 7, slots := #[.int (-80)], vm := .none },
  { cls := 7, slots := #[.int (-79)], vm := .none },
  { cls := 7, slots := #[.int (-78)], vm := .none },
  { cls := 7, slots := #[.int (-77)], vm := .none },
  { cls := 7, slots := #[.int (-76)], vm := .none },
  { cls := 7, slots := #[.int (-75)], vm := .none },
  { cls := 7, slots := #[.int (-74)], vm := .none },
  { cls := 7, slots := #[.int (-73)], vm := .none },
  { cls := 7, slots := #[.int (-72)], vm := .none },
  { cls := 7, slots := #[.int (-71)], vm := .none },
  { cls := 7, slots := #[.int (-70)], vm := .none },
  { cls := 7, slots := #[.int (-69)], vm := .none },
  { cls := 7, slots := #[.int (-68)], vm := .none },
  { cls := 7, slots := #[.int (-67)], vm := .none },
  { cls := 7, slots := #[.int (-66)], vm := .none },
  { cls := 7, slots := #[.int (-65)], vm := .none },
  { cls := 7, slots := #[.int (-64)], vm := .none },
  { cls := 7, slots := #[.int (-63)], vm := .none },
  { cls := 7, slots := #[.int (-62)], vm := .none },
  { cls := 7, slots := #[.int (-61)], vm := .none },
  { cls := 7, slots := #[.int (-60)], vm := .none },
  { cls := 7, slots := #[.int (-59)], vm := .none },
  { cls := 7, slots := #[.int (-58)], vm := .none },
  { cls := 7, slots := #[.int (-57)], vm := .none },
  { cls := 7, slots := #[.int (-56)], vm := .none },
  { cls := 7, slots := #[.int (-55)], vm := .none },
  { cls := 7, slots := #[.int (-54)], vm := .none },
  { cls := 7, slots := #[.int (-53)], vm := .none },
  { cls := 7, slots := #[.int (-52)], vm := .none },
  { cls := 7, slots := #[.int (-51)], vm := .none },
  { cls := 7, slots := #[.int (-50)], vm := .none },
  { cls := 7, slots := #[.int (-49)], vm := .none },
  { cls := 7, slots := #[.int (-48)], vm := .none },
  { cls := 7, slots := #[.int (-47)], vm := .none },
  { cls := 7, slots := #[.int (-46)], vm := .none },
  { cls := 7, slots := #[.int (-45)], vm := .none },
  { cls := 7, slots := #[.int (-44)], vm := .none },
  { cls := 7, slots := #[.int (-43)], vm := .none },
  { cls := 7, slots := #[.int (-42)], vm := .none },
  { cls := 7, slots := #[.int (-41)], vm := .none },
  { cls := 7, slots := #[.int (-40)], vm := .none },
  { cls := 7, slots := #[.int (-39)], vm := .none },
  { cls := 7, slots := #[.int (-38)], vm := .none },
  { cls := 7, slots := #[.int (-37)], vm := .none },
  { cls := 7, slots := #[.int (-36)], vm := .none },
  { cls := 7, slots := #[.int (-35)], vm := .none },
  { cls := 7, slots := #[.int (-34)], vm := .none },
  { cls := 7, slots := #[.int (-33)], vm := .none },
  { cls := 7, slots := #[.int (-32)], vm := .none },
  { cls := 7, slots := #[.int (-31)], vm := .none },
  { cls := 7, slots := #[.int (-30)], vm := .none },
  { cls := 7, slots := #[.int (-29)], vm := .none },
  { cls := 7, slots := #[.int (-28)], vm := .none },
  { cls := 7, slots := #[.int (-27)], vm := .none },
  { cls := 7, slots := #[.int (-26)], vm := .none },
  { cls := 7, slots := #[.int (-25)], vm := .none },
  { cls := 7, slots := #[.int (-24)], vm := .none },
  { cls := 7, slots := #[.int (-23)], vm := .none },
  { cls := 7, slots := #[.int (-22)], vm := .none },
  { cls := 7, slots := #[.int (-21)], vm := .none },
  { cls := 7, slots := #[.int (-20)], vm := .none },
  { cls := 7, slots := #[.int (-19)], vm := .none },
  { cls := 7, slots := #[.int (-18)], vm := .none },
  { cls := 7, slots := #[.int (-17)], vm := .none },
  { cls := 7, slots := #[.int (-16)], vm := .none },
  { cls := 7, slots := #[.int (-15)], vm := .none },
  { cls := 7, slots := #[.int (-14)], vm := .none },
  { cls := 7, slots := #[.int (-13)], vm := .none },
  { cls := 7, slots := #[.int (-12)], vm := .none },
  { cls := 7, slots := #[.int (-11)], vm := .none },
  { cls := 7, slots := #[.int (-10)], vm := .none },
  { cls := 7, slots := #[.int (-9)], vm := .none },
  { cls := 7, slots := #[.int (-8)], vm := .none },
  { cls := 7, slots := #[.int (-7)], vm := .none },
  { cls := 7, slots := #[.int (-6)], vm := .none },
  { cls := 7, slots := #[.int (-5)], vm := .none },
  { cls := 7, slots := #[.int (-4)], vm := .none },
  { cls := 7, slots := #[.int (-3)], vm := .none },
  { cls := 7, slots := #[.int (-2)], vm := .none },
  { cls := 7, slots := #[.int (-1)], vm := .none },
  { cls := 7, slots := #[.int 0], vm := .none },
  { cls := 7, slots := #[.int 1], vm := .none },
  { cls := 7, slots := #[.int 2], vm := .none },
  { cls := 7, slots := #[.int 3], vm := .none },
  { cls := 7, slots := #[.int 4], vm := .none },
  { cls := 7, slots := #[.int 5], vm := .none },
  { cls := 7, slots := #[.int 6], vm := .none },
  { cls := 7, slots := #[.int 7], vm := .none },
  { cls := 7, slots := #[.int 8], vm := .none },
  { cls := 7, slots := #[.int 9], vm := .none },
  { cls := 7, slots := #[.int 10], vm := .none },
  { cls := 7, slots := #[.int 11], vm := .none },
  { cls := 7, slots := #[.int 12], vm := .none },
  { cls := 7, slots := #[.int 13], vm := .none },
  { cls := 7, slots := #[.int 14], vm := .none },
  { cls := 7, slots := #[.int 15], vm := .none },
  { cls := 7, slots := #[.int 16], vm := .none },
  { cls := 7, slots := #[.int 17], vm := .none },
  { cls := 7, slots := #[.int 18], vm := .none },
  { cls := 7, slots := #[.int 19], vm := .none },
  { cls := 7, slots := #[.int 20], vm := .none },
  { cls := 7, slots := #[.int 21], vm := .none },
  { cls := 7, slots := #[.int 22], vm := .none },
  { cls := 7, slots := #[.int 23], vm := .none },
  { cls := 7, slots := #[.int 24], vm := .none },
  { cls := 7, slots := #[.int 25], vm := .none },
  { cls := 7, slots := #[.int 26], vm := .none },
  { cls := 7, slots := #[.int 27], vm := .none },
  { cls := 7, slots := #[.int 28], vm := .none },
  { cls := 7, slots := #[.int 29], vm := .none },
  { cls := 7, slots := #[.int 30], vm := .none },
  { cls := 7, slots := #[.int 31], vm := .none },
  { cls := 7, slots := #[.int 32], vm := .none },
  { cls := 7, slots := #[.int 33], vm := .none },
  { cls := 7, slots := #[.int 34], vm := .none },
  { cls := 7, slots := #[.int 35], vm := .none },
  { cls := 7, slots := #[.int 36], vm := .none },
  { cls := 7, slots := #[.int 37], vm := .none },
  { cls := 7, slots := #[.int 38], vm := .none },
  { cls := 7, slots := #[.int 39], vm := .none },
  { cls := 7, slots := #[.int 40], vm := .none },
  { cls := 7, slots := #[.int 41], vm := .none },
  { cls := 7, slots := #[.int 42], vm := .none },
  { cls := 7, slots := #[.int 43], vm := .none },
  { cls := 7, slots := #[.int 44], vm := .none },
  { cls := 7, slots := #[.int 45], vm := .none },
  { cls := 7, slots := #[.int 46], vm := .none },
  { cls := 7, slots := #[.int 47], vm := .none },
  { cls := 7, slots := #[.int 48], vm := .none },
  { cls := 7, slots := #[.int 49], vm := .none },
  { cls := 7, slots := #[.int 50], vm := .none },
  { cls := 7, slots := #[.int 51], vm := .none },
  { cls := 7, slots := #[.int 52], vm := .none },
  { cls := 7, slots := #[.int 53], vm := .none },
  { cls := 7, slots := #[.int 54], vm := .none },
  { cls := 7, slots := #[.int 55], vm := .none },
  { cls := 7, slots := #[.int 56], vm := .none },
  { cls := 7, slots := #[.int 57], vm := .none },
  { cls := 7, slots := #[.int 58], vm := .none },
  { cls := 7, slots := #[.int 59], vm := .none },
  { cls := 7, slots := #[.int 60], vm := .none },
  { cls := 7, slots := #[.int 61], vm := .none },
  { cls := 7, slots := #[.int 62], vm := .none },
  { cls := 7, slots := #[.int 63], vm := .none },
  { cls := 7, slots := #[.int 64], vm := .none },
  { cls := 7, slots := #[.int 65], vm := .none },
  { cls := 7, slots := #[.int 66], vm := .none },
  { cls := 7, slots := #[.int 67], vm := .none },
  { cls := 7, slots := #[.int 68], vm := .none },
  { cls := 7, slots := #[.int 69], vm := .none },
  { cls := 7, slots := #[.int 70], vm := .none },
  { cls := 7, slots := #[.int 71], vm := .none },
  { cls := 7, slots := #[.int 72], vm := .none },
  { cls := 7, slots := #[.int 73], vm := .none },
  { cls := 7, slots := #[.int 74], vm := .none },
  { cls := 7, slots := #[.int 75], vm := .none },
  { cls := 7, slots := #[.int 76], vm := .none },
  { cls := 7, slots := #[.int 77], vm := .none },
  { cls := 7, slots := #[.int 78], vm := .none },
  { cls := 7, slots := #[.int 79], vm := .none },
  { cls := 7, slots := #[.int 80], vm := .none },
  { cls := 7, slots := #[.int 81], vm := .none },
  { cls := 7, slots := #[.int 82], vm := .none },
  { cls := 7, slots := #[.int 83], vm := .none },
  { cls := 7, slots := #[.int 84], vm := .none },
  { cls := 7, slots := #[.int 85], vm := .none },
  { cls := 7, slots := #[.int 86], vm := .none },
  { cls := 7, slots := #[.int 87], vm := .none },
  { cls := 7, slots := #[.int 88], vm := .none },
  { cls := 7, slots := #[.int 89], vm := .none },
  { cls := 7, slots := #[.int 90], vm := .none },
  { cls := 7, slots := #[.int 91], vm := .none },
  { cls := 7, slots := #[.int 92], vm := .none },
  { cls := 7, slots := #[.int 93], vm := .none },
  { cls := 7, slots := #[.int 94], vm := .none },
  { cls := 7, slots := #[.int 95], vm := .none },
  { cls := 7, slots := #[.int 96], vm := .none },
  { cls := 7, slots := #[.int 97], vm := .none },
  { cls := 7, slots := #[.int 98], vm := .none },
  { cls := 7, slots := #[.int 99], vm := .none },
  { cls := 7, slots := #[.int 100], vm := .none },
  { cls := 7, slots := #[.int 101], vm := .none },
  { cls := 7, slots := #[.int 102], vm := .none },
  { cls := 7, slots := #[.int 103], vm := .none },
  { cls := 7, slots := #[.int 104], vm := .none },
  { cls := 7, slots := #[.int 105], vm := .none },
  { cls := 7, slots := #[.int 106], vm := .none },
  { cls := 7, slots := #[.int 107], vm := .none },
  { cls := 7, slots := #[.int 108], vm := .none },
  { cls := 7, slots := #[.int 109], vm := .none },
  { cls := 7, slots := #[.int 110], vm := .none },
  { cls := 7, slots := #[.int 111], vm := .none },
  { cls := 7, slots := #[.int 112], vm := .none },
  { cls := 7, slots := #[.int 113], vm := .none },
  { cls := 7, slots := #[.int 114], vm := .none },
  { cls := 7, slots := #[.int 115], vm := .none },
  { cls := 7, slots := #[.int 116], vm := .none },
  { cls := 7, slots := #[.int 117], vm := .none },
  { cls := 7, slots := #[.int 118], vm := .none },
  { cls := 7, slots := #[.int 119], vm := .none },
  { cls := 7, slots := #[.int 120], vm := .none },
  { cls := 7, slots := #[.int 121], vm := .none },
  { cls := 7, slots := #[.int 122], vm := .none },
  { cls := 7, slots := #[.int 123], vm := .none },
  { cls := 7, slots := #[.int 124], vm := .none },
  { cls := 7, slots := #[.int 125], vm := .none },
  { cls := 7, slots := #[.int 126], vm := .none },
  { cls := 7, slots := #[.int 127], vm := .none },
  { cls := 32, slots := #[], vm := .none },
  { cls := 32, slots := #[], vm := .none }]
def classes : Array Class := #[k0, k1, k2, k3, k4, k5, k6, k7, k8, k9, k10, k11, k12, k13, k14, k15, k16, k17, k18, k19, k20, k21, k22, k23, k24, k25, k26, k27, k28, k29, k30, k31, k32]
def interned : List (Array UInt16 × Addr) := []
def slotsUsed : Nat := 521
def theMethod : MethodId := ⟨1, 1⟩
def args0 : Array Value := #[.int 2, .int 5, .int 7, .int 9, .int 0, .int 11]
def aboutOver (below : List Frame) : State where
  vm := { classes := classes, interned := interned.toArray }
  heap := heap
  slotsUsed := slotsUsed
  threads := #[{ frames := .invoking theMethod args0 :: below }]
def below0 : List Frame := [.native { method := ⟨0, 0⟩, args := #[] }]
def about1 : State := aboutOver below0
def p0 : Program := .bare "" "" ""
def e0 : Env := launch0.env 0 0 0
theorem w_frames : about1.frames = Frame.invoking theMethod args0 :: below0 := rfl
set_option maxRecDepth 65536 in
theorem w_args : argsFit about1.vm theMethod args0 = true := by decide +kernel
set_option maxRecDepth 65536 in
theorem w_heap : heapFits about1 = true := by decide +kernel
set_option maxRecDepth 65536 in
theorem w_runnable : about1.curStatus? = some .runnable := by decide +kernel
set_option maxRecDepth 65536 in
theorem w_alone : about1.alone = true := by decide +kernel
set_option maxRecDepth 65536 in
theorem w_named : about1.methodNamed? x = some theMethod := by decide +kernel
set_option maxRecDepth 65536 in
theorem w_hears : about1.hears theMethod below0 = true := by decide +kernel
set_option maxRecDepth 65536 in
theorem w_ripe : about1.ripe theMethod args0 below0 = true := by decide +kernel
theorem w_running : about1.status = .running := rfl
set_option maxRecDepth 65536 in
theorem w_room : about1.hasRoom e0.platform room_1 = true :=
  launch0.hasRoom_least _ room_1 (by decide +kernel) (by decide +kernel) (by decide +kernel) (by decide +kernel) (by decide +kernel) (by decide +kernel)
theorem allAtoms_all (ts : List Jvm.Cond) (a : Array Jvm.Value) (st : Jvm.State) : (allAtoms ts).before a st = ts.all (fun c => c.before a st) := by
  induction ts with
  | nil => rfl
  | cons c t ih =>
    show (Jvm.Cond.and c (allAtoms t)).before a st = _
    rw [Jvm.Cond.before_and, ih, List.all_cons]
def words1 : List Jvm.Cond := Jvm.Cond.code x code maxLocals ret :: tables_1
/-- a 'code' word, met by the world's own term for the bytes: nothing is compared byte by byte -/
theorem code_word {y : MethodName} {bytes : ByteArray} {mx : Nat} {rt : Option FieldType} {a : Array Value} {s : State} {m : MethodId} {meth : Method} {c : Code} (h1 : s.methodNamed? y = some m) (h2 : s.vm.method? m = some meth) (h3 : meth.code = some c) (h4 : c.code = bytes)
    (h5 : (c.maxLocals == mx && c.exceptionTable.isEmpty && decide (c.maxStack ≤ mostOperands) && decide (meth.sig.returnType = rt) && !meth.locks && decide (parseMethodDescriptor y.desc = some meth.sig)) = true) : (Jvm.Cond.code y bytes mx rt).before a s = true := by
  simp only [Bool.and_eq_true, beq_iff_eq, Bool.not_eq_true', decide_eq_true_eq] at h5
  obtain ⟨⟨⟨⟨⟨g1, g2⟩, g3⟩, g4⟩, g5⟩, g6⟩ := h5
  simp [Cond.before, Cond.holds, Cond.value, h1, h2, h3, h4, g1, g2, g3, g4, g5, g6]
def isCode : Jvm.Cond → Bool
  | .code _ _ _ _ => true
  | _ => false
theorem all_split {L : List Jvm.Cond} {P : Jvm.Cond → Bool} (h1 : L.all (fun c => isCode c || P c) = true) (h2 : ∀ c ∈ L.filter isCode, P c = true) : L.all P = true := by
  refine List.all_eq_true.mpr fun c hc => ?_
  have h := List.all_eq_true.mp h1 c hc
  rcases Bool.eq_false_or_eq_true (isCode c) with hi | hi
  · exact h2 c (List.mem_filter.mpr ⟨hc, hi⟩)
  · simpa [hi] using h
set_option maxRecDepth 65536 in
theorem w_c0 : (Jvm.Cond.code x code maxLocals ret).before args0 about1 = true := code_word (m := ⟨1, 1⟩) (meth := k1m1) (c := k1c1) (by decide +kernel) rfl rfl rfl (by decide +kernel)
set_option maxRecDepth 65536 in
theorem w_c1 : (Jvm.Cond.code ({ cls := "java/lang/Integer", name := "valueOf", desc := "(I)Ljava/lang/Integer;" } : Jvm.MethodName) jdk_33_method_22_code (1 : Nat) (Option.some (Jvm.ClassFile.FieldType.object "java/lang/Integer"))).before args0 about1 = true := code_word (m := ⟨7, 0⟩) (meth := k7m0) (c := k7c0) (by decide +kernel) rfl rfl rfl (by decide +kernel)
set_option maxRecDepth 65536 in
theorem w_c2 : (Jvm.Cond.code ({ cls := "java/util/ArrayList", name := "<init>", desc := "()V" } : Jvm.MethodName) jdk_38_method_2_code (1 : Nat) (Option.none : Option Jvm.ClassFile.FieldType)).before args0 about1 = true := code_word (m := ⟨17, 0⟩) (meth := k17m0) (c := k17c0) (by decide +kernel) rfl rfl rfl (by decide +kernel)
set_option maxRecDepth 65536 in
theorem w_c3 : (Jvm.Cond.code ({ cls := "java/util/AbstractList", name := "<init>", desc := "()V" } : Jvm.MethodName) jdk_39_method_1_code (1 : Nat) (Option.none : Option Jvm.ClassFile.FieldType)).before args0 about1 = true := code_word (m := ⟨14, 0⟩) (meth := k14m0) (c := k14c0) (by decide +kernel) rfl rfl rfl (by decide +kernel)
set_option maxRecDepth 65536 in
theorem w_c4 : (Jvm.Cond.code ({ cls := "java/util/AbstractCollection", name := "<init>", desc := "()V" } : Jvm.MethodName) jdk_22_method_1_code (1 : Nat) (Option.none : Option Jvm.ClassFile.FieldType)).before args0 about1 = true := code_word (m := ⟨11, 0⟩) (meth := k11m0) (c := k11c0) (by decide +kernel) rfl rfl rfl (by decide +kernel)
set_option maxRecDepth 65536 in
theorem w_c5 : (Jvm.Cond.code ({ cls := "java/lang/Object", name := "<init>", desc := "()V" } : Jvm.MethodName) object_method_1_code (1 : Nat) (Option.none : Option Jvm.ClassFile.FieldType)).before args0 about1 = true := code_word (m := ⟨0, 0⟩) (meth := k0m0) (c := k0c0) (by decide +kernel) rfl rfl rfl (by decide +kernel)
set_option maxRecDepth 65536 in
theorem w_c6 : (Jvm.Cond.code ({ cls := "com/example/reify/reify/EdnList", name := "of", desc := "(Ljava/util/List;)Lcom/example/reify/reify/EdnList;" } : Jvm.MethodName) prog_14_method_2_code (1 : Nat) (Option.some (Jvm.ClassFile.FieldType.object "com/example/reify/reify/EdnList"))).before args0 about1 = true := code_word (m := ⟨18, 1⟩) (meth := k18m1) (c := k18c1) (by decide +kernel) rfl rfl rfl (by decide +kernel)
set_option maxRecDepth 65536 in
theorem w_c7 : (Jvm.Cond.code ({ cls := "java/util/Objects", name := "requireNonNull", desc := "(Ljava/lang/Object;Ljava/lang/String;)Ljava/lang/Object;" } : Jvm.MethodName) jdk_31_method_11_code (2 : Nat) (Option.some (Jvm.ClassFile.FieldType.object "java/lang/Object"))).before args0 about1 = true := code_word (m := ⟨21, 1⟩) (meth := k21m1) (c := k21c1) (by decide +kernel) rfl rfl rfl (by decide +kernel)
set_option maxRecDepth 65536 in
theorem w_c8 : (Jvm.Cond.code ({ cls := "java/util/ArrayList", name := "<init>", desc := "(Ljava/util/Collection;)V" } : Jvm.MethodName) jdk_38_method_3_code (3 : Nat) (Option.none : Option Jvm.ClassFile.FieldType)).before args0 about1 = true := code_word (m := ⟨17, 1⟩) (meth := k17m1) (c := k17c1) (by decide +kernel) rfl rfl rfl (by decide +kernel)
set_option maxRecDepth 65536 in
theorem w_c9 : (Jvm.Cond.code ({ cls := "java/util/ArrayList", name := "toArray", desc := "()[Ljava/lang/Object;" } : Jvm.MethodName) jdk_38_method_16_code (1 : Nat) (Option.some (Jvm.ClassFile.FieldType.array (Jvm.ClassFile.FieldType.object "java/lang/Object")))).before args0 about1 = true := code_word (m := ⟨17, 5⟩) (meth := k17m5) (c := k17c5) (by decide +kernel) rfl rfl rfl (by decide +kernel)
set_option maxRecDepth 65536 in
theorem w_c10 : (Jvm.Cond.code ({ cls := "java/util/Arrays", name := "copyOf", desc := "([Ljava/lang/Object;I)[Ljava/lang/Object;" } : Jvm.MethodName) jdk_65_method_119_code (2 : Nat) (Option.some (Jvm.ClassFile.FieldType.array (Jvm.ClassFile.FieldType.object "java/lang/Object")))).before args0 about1 = true := code_word (m := ⟨22, 1⟩) (meth := k22m1) (c := k22c1) (by decide +kernel) rfl rfl rfl (by decide +kernel)
set_option maxRecDepth 65536 in
theorem w_c11 : (Jvm.Cond.code ({ cls := "java/util/Arrays", name := "copyOf", desc := "([Ljava/lang/Object;ILjava/lang/Class;)[Ljava/lang/Object;" } : Jvm.MethodName) jdk_65_method_120_code (4 : Nat) (Option.some (Jvm.ClassFile.FieldType.array (Jvm.ClassFile.FieldType.object "java/lang/Object")))).before args0 about1 = true := code_word (m := ⟨22, 2⟩) (meth := k22m2) (c := k22c2) (by decide +kernel) rfl rfl rfl (by decide +kernel)
set_option maxRecDepth 65536 in
theorem w_c12 : (Jvm.Cond.code ({ cls := "java/lang/Math", name := "min", desc := "(II)I" } : Jvm.MethodName) jdk_29_method_69_code (2 : Nat) (Option.some Jvm.ClassFile.FieldType.int)).before args0 about1 = true := code_word (m := ⟨23, 2⟩) (meth := k23m2) (c := k23c2) (by decide +kernel) rfl rfl rfl (by decide +kernel)
set_option maxRecDepth 65536 in
theorem w_c13 : (Jvm.Cond.code ({ cls := "com/example/reify/reify/EdnList", name := "<init>", desc := "(Ljava/util/List;)V" } : Jvm.MethodName) prog_14_method_1_code (2 : Nat) (Option.none : Option Jvm.ClassFile.FieldType)).before args0 about1 = true := code_word (m := ⟨18, 0⟩) (meth := k18m0) (c := k18c0) (by decide +kernel) rfl rfl rfl (by decide +kernel)
set_option maxRecDepth 65536 in
theorem w_c14 : (Jvm.Cond.code ({ cls := "java/util/ArrayList", name := "add", desc := "(Ljava/lang/Object;)Z" } : Jvm.MethodName) jdk_38_method_25_code (2 : Nat) (Option.some Jvm.ClassFile.FieldType.boolean)).before args0 about1 = true := code_word (m := ⟨17, 9⟩) (meth := k17m9) (c := k17c9) (by decide +kernel) rfl rfl rfl (by decide +kernel)
set_option maxRecDepth 65536 in
theorem w_c15 : (Jvm.Cond.code ({ cls := "java/util/ArrayList", name := "add", desc := "(Ljava/lang/Object;[Ljava/lang/Object;I)V" } : Jvm.MethodName) jdk_38_method_24_code (4 : Nat) (Option.none : Option Jvm.ClassFile.FieldType)).before args0 about1 = true := code_word (m := ⟨17, 8⟩) (meth := k17m8) (c := k17c8) (by decide +kernel) rfl rfl rfl (by decide +kernel)
set_option maxRecDepth 65536 in
theorem w_c16 : (Jvm.Cond.code ({ cls := "java/util/ArrayList", name := "grow", desc := "()[Ljava/lang/Object;" } : Jvm.MethodName) jdk_38_method_7_code (1 : Nat) (Option.some (Jvm.ClassFile.FieldType.array (Jvm.ClassFile.FieldType.object "java/lang/Object")))).before args0 about1 = true := code_word (m := ⟨17, 3⟩) (meth := k17m3) (c := k17c3) (by decide +kernel) rfl rfl rfl (by decide +kernel)
set_option maxRecDepth 65536 in
theorem w_c17 : (Jvm.Cond.code ({ cls := "java/util/ArrayList", name := "grow", desc := "(I)[Ljava/lang/Object;" } : Jvm.MethodName) jdk_38_method_6_code (4 : Nat) (Option.some (Jvm.ClassFile.FieldType.array (Jvm.ClassFile.FieldType.object "java/lang/Object")))).before args0 about1 = true := code_word (m := ⟨17, 2⟩) (meth := k17m2) (c := k17c2) (by decide +kernel) rfl rfl rfl (by decide +kernel)
set_option maxRecDepth 65536 in
theorem w_c18 : (Jvm.Cond.code ({ cls := "java/lang/Math", name := "max", desc := "(II)I" } : Jvm.MethodName) jdk_29_method_65_code (2 : Nat) (Option.some Jvm.ClassFile.FieldType.int)).before args0 about1 = true := code_word (m := ⟨23, 1⟩) (meth := k23m1) (c := k23c1) (by decide +kernel) rfl rfl rfl (by decide +kernel)
set_option maxRecDepth 65536 in
theorem w_c19 : (Jvm.Cond.code ({ cls := "com/example/reify/reify/EdnList", name := "size", desc := "()I" } : Jvm.MethodName) prog_14_method_4_code (1 : Nat) (Option.some Jvm.ClassFile.FieldType.int)).before args0 about1 = true := code_word (m := ⟨18, 3⟩) (meth := k18m3) (c := k18c3) (by decide +kernel) rfl rfl rfl (by decide +kernel)
set_option maxRecDepth 65536 in
theorem w_c20 : (Jvm.Cond.code ({ cls := "java/util/ArrayList", name := "size", desc := "()I" } : Jvm.MethodName) jdk_38_method_8_code (1 : Nat) (Option.some Jvm.ClassFile.FieldType.int)).before args0 about1 = true := code_word (m := ⟨17, 4⟩) (meth := k17m4) (c := k17c4) (by decide +kernel) rfl rfl rfl (by decide +kernel)
set_option maxRecDepth 65536 in
theorem w_c21 : (Jvm.Cond.code ({ cls := "com/example/reify/reify/EdnList", name := "get", desc := "(I)Ljava/lang/Object;" } : Jvm.MethodName) prog_14_method_3_code (2 : Nat) (Option.some (Jvm.ClassFile.FieldType.object "java/lang/Object"))).before args0 about1 = true := code_word (m := ⟨18, 2⟩) (meth := k18m2) (c := k18c2) (by decide +kernel) rfl rfl rfl (by decide +kernel)
set_option maxRecDepth 65536 in
theorem w_c22 : (Jvm.Cond.code ({ cls := "java/util/ArrayList", name := "get", desc := "(I)Ljava/lang/Object;" } : Jvm.MethodName) jdk_38_method_20_code (2 : Nat) (Option.some (Jvm.ClassFile.FieldType.object "java/lang/Object"))).before args0 about1 = true := code_word (m := ⟨17, 7⟩) (meth := k17m7) (c := k17c7) (by decide +kernel) rfl rfl rfl (by decide +kernel)
set_option maxRecDepth 65536 in
theorem w_c23 : (Jvm.Cond.code ({ cls := "java/util/Objects", name := "checkIndex", desc := "(II)I" } : Jvm.MethodName) jdk_31_method_17_code (2 : Nat) (Option.some Jvm.ClassFile.FieldType.int)).before args0 about1 = true := code_word (m := ⟨21, 2⟩) (meth := k21m2) (c := k21c2) (by decide +kernel) rfl rfl rfl (by decide +kernel)
set_option maxRecDepth 65536 in
theorem w_c24 : (Jvm.Cond.code ({ cls := "jdk/internal/util/Preconditions", name := "checkIndex", desc := "(IILjava/util/function/BiFunction;)I" } : Jvm.MethodName) jdk_41_method_11_code (3 : Nat) (Option.some Jvm.ClassFile.FieldType.int)).before args0 about1 = true := code_word (m := ⟨25, 1⟩) (meth := k25m1) (c := k25c1) (by decide +kernel) rfl rfl rfl (by decide +kernel)
set_option maxRecDepth 65536 in
theorem w_c25 : (Jvm.Cond.code ({ cls := "java/util/ArrayList", name := "elementData", desc := "(I)Ljava/lang/Object;" } : Jvm.MethodName) jdk_38_method_18_code (2 : Nat) (Option.some (Jvm.ClassFile.FieldType.object "java/lang/Object"))).before args0 about1 = true := code_word (m := ⟨17, 6⟩) (meth := k17m6) (c := k17c6) (by decide +kernel) rfl rfl rfl (by decide +kernel)
set_option maxRecDepth 65536 in
theorem w_c26 : (Jvm.Cond.code ({ cls := "java/lang/Integer", name := "<init>", desc := "(I)V" } : Jvm.MethodName) jdk_33_method_23_code (2 : Nat) (Option.none : Option Jvm.ClassFile.FieldType)).before args0 about1 = true := code_word (m := ⟨7, 1⟩) (meth := k7m1) (c := k7c1) (by decide +kernel) rfl rfl rfl (by decide +kernel)
set_option maxRecDepth 65536 in
theorem w_c27 : (Jvm.Cond.code ({ cls := "java/lang/Number", name := "<init>", desc := "()V" } : Jvm.MethodName) jdk_18_method_1_code (1 : Nat) (Option.none : Option Jvm.ClassFile.FieldType)).before args0 about1 = true := code_word (m := ⟨3, 0⟩) (meth := k3m0) (c := k3c0) (by decide +kernel) rfl rfl rfl (by decide +kernel)
def codes1 : List Jvm.Cond := [Jvm.Cond.code x code maxLocals ret, Jvm.Cond.code ({ cls := "java/lang/Integer", name := "valueOf", desc := "(I)Ljava/lang/Integer;" } : Jvm.MethodName) jdk_33_method_22_code (1 : Nat) (Option.some (Jvm.ClassFile.FieldType.object "java/lang/Integer")), Jvm.Cond.code ({ cls := "java/util/ArrayList", name := "<init>", desc := "()V" } : Jvm.MethodName) jdk_38_method_2_code (1 : Nat) (Option.none : Option Jvm.ClassFile.FieldType), Jvm.Cond.code ({ cls := "java/util/AbstractList", name := "<init>", desc := "()V" } : Jvm.MethodName) jdk_39_method_1_code (1 : Nat) (Option.none : Option Jvm.ClassFile.FieldType), Jvm.Cond.code ({ cls := "java/util/AbstractCollection", name := "<init>", desc := "()V" } : Jvm.MethodName) jdk_22_method_1_code (1 : Nat) (Option.none : Option Jvm.ClassFile.FieldType), Jvm.Cond.code ({ cls := "java/lang/Object", name := "<init>", desc := "()V" } : Jvm.MethodName) object_method_1_code (1 : Nat) (Option.none : Option Jvm.ClassFile.FieldType), Jvm.Cond.code ({ cls := "com/example/reify/reify/EdnList", name := "of", desc := "(Ljava/util/List;)Lcom/example/reify/reify/EdnList;" } : Jvm.MethodName) prog_14_method_2_code (1 : Nat) (Option.some (Jvm.ClassFile.FieldType.object "com/example/reify/reify/EdnList")), Jvm.Cond.code ({ cls := "java/util/Objects", name := "requireNonNull", desc := "(Ljava/lang/Object;Ljava/lang/String;)Ljava/lang/Object;" } : Jvm.MethodName) jdk_31_method_11_code (2 : Nat) (Option.some (Jvm.ClassFile.FieldType.object "java/lang/Object")), Jvm.Cond.code ({ cls := "java/util/ArrayList", name := "<init>", desc := "(Ljava/util/Collection;)V" } : Jvm.MethodName) jdk_38_method_3_code (3 : Nat) (Option.none : Option Jvm.ClassFile.FieldType), Jvm.Cond.code ({ cls := "java/util/ArrayList", name := "toArray", desc := "()[Ljava/lang/Object;" } : Jvm.MethodName) jdk_38_method_16_code (1 : Nat) (Option.some (Jvm.ClassFile.FieldType.array (Jvm.ClassFile.FieldType.object "java/lang/Object"))), Jvm.Cond.code ({ cls := "java/util/Arrays", name := "copyOf", desc := "([Ljava/lang/Object;I)[Ljava/lang/Object;" } : Jvm.MethodName) jdk_65_method_119_code (2 : Nat) (Option.some (Jvm.ClassFile.FieldType.array (Jvm.ClassFile.FieldType.object "java/lang/Object"))), Jvm.Cond.code ({ cls := "java/util/Arrays", name := "copyOf", desc := "([Ljava/lang/Object;ILjava/lang/Class;)[Ljava/lang/Object;" } : Jvm.MethodName) jdk_65_method_120_code (4 : Nat) (Option.some (Jvm.ClassFile.FieldType.array (Jvm.ClassFile.FieldType.object "java/lang/Object"))), Jvm.Cond.code ({ cls := "java/lang/Math", name := "min", desc := "(II)I" } : Jvm.MethodName) jdk_29_method_69_code (2 : Nat) (Option.some Jvm.ClassFile.FieldType.int), Jvm.Cond.code ({ cls := "com/example/reify/reify/EdnList", name := "<init>", desc := "(Ljava/util/List;)V" } : Jvm.MethodName) prog_14_method_1_code (2 : Nat) (Option.none : Option Jvm.ClassFile.FieldType), Jvm.Cond.code ({ cls := "java/util/ArrayList", name := "add", desc := "(Ljava/lang/Object;)Z" } : Jvm.MethodName) jdk_38_method_25_code (2 : Nat) (Option.some Jvm.ClassFile.FieldType.boolean), Jvm.Cond.code ({ cls := "java/util/ArrayList", name := "add", desc := "(Ljava/lang/Object;[Ljava/lang/Object;I)V" } : Jvm.MethodName) jdk_38_method_24_code (4 : Nat) (Option.none : Option Jvm.ClassFile.FieldType), Jvm.Cond.code ({ cls := "java/util/ArrayList", name := "grow", desc := "()[Ljava/lang/Object;" } : Jvm.MethodName) jdk_38_method_7_code (1 : Nat) (Option.some (Jvm.ClassFile.FieldType.array (Jvm.ClassFile.FieldType.object "java/lang/Object"))), Jvm.Cond.code ({ cls := "java/util/ArrayList", name := "grow", desc := "(I)[Ljava/lang/Object;" } : Jvm.MethodName) jdk_38_method_6_code (4 : Nat) (Option.some (Jvm.ClassFile.FieldType.array (Jvm.ClassFile.FieldType.object "java/lang/Object"))), Jvm.Cond.code ({ cls := "java/lang/Math", name := "max", desc := "(II)I" } : Jvm.MethodName) jdk_29_method_65_code (2 : Nat) (Option.some Jvm.ClassFile.FieldType.int), Jvm.Cond.code ({ cls := "com/example/reify/reify/EdnList", name := "size", desc := "()I" } : Jvm.MethodName) prog_14_method_4_code (1 : Nat) (Option.some Jvm.ClassFile.FieldType.int), Jvm.Cond.code ({ cls := "java/util/ArrayList", name := "size", desc := "()I" } : Jvm.MethodName) jdk_38_method_8_code (1 : Nat) (Option.some Jvm.ClassFile.FieldType.int), Jvm.Cond.code ({ cls := "com/example/reify/reify/EdnList", name := "get", desc := "(I)Ljava/lang/Object;" } : Jvm.MethodName) prog_14_method_3_code (2 : Nat) (Option.some (Jvm.ClassFile.FieldType.object "java/lang/Object")), Jvm.Cond.code ({ cls := "java/util/ArrayList", name := "get", desc := "(I)Ljava/lang/Object;" } : Jvm.MethodName) jdk_38_method_20_code (2 : Nat) (Option.some (Jvm.ClassFile.FieldType.object "java/lang/Object")), Jvm.Cond.code ({ cls := "java/util/Objects", name := "checkIndex", desc := "(II)I" } : Jvm.MethodName) jdk_31_method_17_code (2 : Nat) (Option.some Jvm.ClassFile.FieldType.int), Jvm.Cond.code ({ cls := "jdk/internal/util/Preconditions", name := "checkIndex", desc := "(IILjava/util/function/BiFunction;)I" } : Jvm.MethodName) jdk_41_method_11_code (3 : Nat) (Option.some Jvm.ClassFile.FieldType.int), Jvm.Cond.code ({ cls := "java/util/ArrayList", name := "elementData", desc := "(I)Ljava/lang/Object;" } : Jvm.MethodName) jdk_38_method_18_code (2 : Nat) (Option.some (Jvm.ClassFile.FieldType.object "java/lang/Object")), Jvm.Cond.code ({ cls := "java/lang/Integer", name := "<init>", desc := "(I)V" } : Jvm.MethodName) jdk_33_method_23_code (2 : Nat) (Option.none : Option Jvm.ClassFile.FieldType), Jvm.Cond.code ({ cls := "java/lang/Number", name := "<init>", desc := "()V" } : Jvm.MethodName) jdk_18_method_1_code (1 : Nat) (Option.none : Option Jvm.ClassFile.FieldType)]
set_option maxRecDepth 65536 in
theorem codes_eq : words1.filter isCode = codes1 := rfl
theorem w_codes : ∀ c ∈ words1.filter isCode, c.before args0 about1 = true := by
  rw [codes_eq]
  intro c hc
  simp only [codes1, List.mem_cons, List.not_mem_nil, or_false] at hc
  rcases hc with rfl | rfl | rfl | rfl | rfl | rfl | rfl | rfl | rfl | rfl | rfl | rfl | rfl | rfl | rfl | rfl | rfl | rfl | rfl | rfl | rfl | rfl | rfl | rfl | rfl | rfl | rfl | rfl
  · exact w_c0
  · exact w_c1
  · exact w_c2
  · exact w_c3
  · exact w_c4
  · exact w_c5
  · exact w_c6
  · exact w_c7
  · exact w_c8
  · exact w_c9
  · exact w_c10
  · exact w_c11
  · exact w_c12
  · exact w_c13
  · exact w_c14
  · exact w_c15
  · exact w_c16
  · exact w_c17
  · exact w_c18
  · exact w_c19
  · exact w_c20
  · exact w_c21
  · exact w_c22
  · exact w_c23
  · exact w_c24
  · exact w_c25
  · exact w_c26
  · exact w_c27
set_option maxRecDepth 65536 in
theorem w_t1 : (words1.take 24).all (fun c => isCode c || c.before args0 about1) = true := by decide +kernel
set_option maxRecDepth 65536 in
theorem w_t2 : ((words1.drop 24).take 24).all (fun c => isCode c || c.before args0 about1) = true := by decide +kernel
set_option maxRecDepth 65536 in
theorem w_t3 : (((words1.drop 24).drop 24).take 24).all (fun c => isCode c || c.before args0 about1) = true := by decide +kernel
set_option maxRecDepth 65536 in
theorem w_t4 : ((((words1.drop 24).drop 24).drop 24).take 24).all (fun c => isCode c || c.before args0 about1) = true := by decide +kernel
set_option maxRecDepth 65536 in
theorem w_t5 : (((((words1.drop 24).drop 24).drop 24).drop 24).take 24).all (fun c => isCode c || c.before args0 about1) = true := by decide +kernel
set_option maxRecDepth 65536 in
theorem w_t6 : ((((((words1.drop 24).drop 24).drop 24).drop 24).drop 24).take 24).all (fun c => isCode c || c.before args0 about1) = true := by decide +kernel
set_option maxRecDepth 65536 in
theorem w_t7 : (((((((words1.drop 24).drop 24).drop 24).drop 24).drop 24).drop 24).take 24).all (fun c => isCode c || c.before args0 about1) = true := by decide +kernel
set_option maxRecDepth 65536 in
theorem w_t8 : (((((((words1.drop 24).drop 24).drop 24).drop 24).drop 24).drop 24).drop 24).all (fun c => isCode c || c.before args0 about1) = true := by decide +kernel
theorem w_tables : (allAtoms (Jvm.Cond.code x code maxLocals ret :: tables_1)).before args0 about1 = true := by
  rw [allAtoms_all]
  show words1.all (fun c => c.before args0 about1) = true
  refine all_split ?_ w_codes
  rw [← List.take_append_drop 24 words1, List.all_append, w_t1, ← List.take_append_drop 24 (words1.drop 24), List.all_append, w_t2, ← List.take_append_drop 24 ((words1.drop 24).drop 24), List.all_append, w_t3, ← List.take_append_drop 24 (((words1.drop 24).drop 24).drop 24), List.all_append, w_t4, ← List.take_append_drop 24 ((((words1.drop 24).drop 24).drop 24).drop 24), List.all_append, w_t5, ← List.take_append_drop 24 (((((words1.drop 24).drop 24).drop 24).drop 24).drop 24), List.all_append, w_t6, ← List.take_append_drop 24 ((((((words1.drop 24).drop 24).drop 24).drop 24).drop 24).drop 24), List.all_append, w_t7, w_t8]
  rfl
set_option maxRecDepth 65536 in
theorem w_rest : rest_1_c.before args0 about1 = true := by decide +kernel
set_option maxRecDepth 65536 in
theorem w_case : (Jvm.Cond.and given_1 narrow_1).before args0 about1 = true := by decide +kernel
theorem w_applies : (headSpec (Jvm.Cond.code x code maxLocals ret :: tables_1) room_1).applies x e0.platform about1 = true :=
  (Spec.applies_iff w_frames).mpr ⟨w_running, w_runnable, w_alone, w_named, w_hears, w_ripe, w_room, w_tables⟩
theorem atStart : AtStart classFile x code maxLocals ret World_1 tables_1 room_1 Calls_1 rest_1 Pre_1 launch0 p0 e0 about1 theMethod args0 below0 :=
  ⟨lists_1, trivial, launch0.admits_env _ _ _, launch0.least_env, fairChoices_fair.cas, fairChoices_fair.clock, w_frames, w_args, w_heap, w_applies, ⟨⟨32, k32, 2, by decide +kernel, rfl, rfl, _, rfl, rfl⟩, ⟨⟨17, k17, 3, by decide +kernel, rfl, rfl, _, rfl, rfl⟩, trivial⟩⟩, w_rest, w_case⟩
end start1
theorem witness_1 : WitnessClaimed_1 := ⟨start1.p0, start1.e0, start1.about1, start1.theMethod, start1.args0, start1.below0, start1.atStart⟩
end Jvm.Pilot.@@N@@
