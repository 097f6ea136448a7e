import JvmDerived
import JvmDerived.Pilot.@@N@@Statement
import JvmDerived.Pilot.@@N@@Code
set_option linter.unusedVariables false
set_option linter.unusedSimpArgs false
namespace Jvm.OwnK
open Jvm Jvm.ClassFile Sem Op Lib Jvm.Free Jvm.Stand Jvm.LawKit Jvm.RoadKit Bundle
/-! own kit, part 1: a walk as a triple on (heap, pc, locals, stack): Seg; contracts: Ct; who pays a call: Pays -/
def SfOk (Z : State) (EL : List (String × Nat)) (vm : Vm) (h : Heap) (sf : List Addr) : Prop := ∀ x ∈ sf, Z.heap.size ≤ x ∧ x < h.size ∧ Safe Z EL vm h x
def Wk (p : Program) (l : Launch) (e : Env) (R : Room) (s : State) (m : MethodId) (args : Array Value) (below : List Frame) (meth : Method) (c : Code) (Z : State) (a0 : Array Value) (EL : List (String × Nat)) (own : String) (sf : List Addr) (k n : Nat) (T : State) (h : Heap) : Prop :=
  ∃ (vm0 : Vm) (locs : List Loc) (k0 : Nat), Stand p l e R (s.setVm vm0) m args below meth c T locs k n ∧ T.heap = h ∧ s.Since vm0 k0 ∧ k0 ≤ h.size ∧ Z.Warmed39 vm0 ∧ vm0.findClass own = some m.cls ∧ CHr Z EL s.vm s.heap vm0 h ∧ Fr Z.heap.size locs ∧ Ext Z.heap h ∧ EW Z a0 EL ∧ SfOk Z EL vm0 h sf
def Cx (p : Program) (meth : Method) (c : Code) (y : MethodName) (bytes : ByteArray) (maxL : Nat) (ret : Option FieldType) : Prop :=
  p.tables.exec = Jvm.exec ∧ c.code = bytes ∧ c.maxLocals = maxL ∧ meth.sig.returnType = ret ∧ meth.locks = false ∧ meth.name = y.name
def Gl (p : Program) (e : Env) (below : List Frame) (s Z : State) (EL : List (String × Nat)) (Q : Option Value → Heap → Prop) (rc rs : Nat) (u : State) : Prop :=
  ∃ (s₂ : State) (o : Outcome), Steps p.tables e below u s₂ ∧ s₂.status = .running ∧ Ended s₂ below o ∧ ∃ v L, o = .returned v ∧ (Fr Z.heap.size L ∧ Ext Z.heap s₂.heap ∧ Q v s₂.heap) ∧ CHr Z EL s.vm s.heap s₂.vm s₂.heap ∧ ReturnedEndW s o s₂ L rc rs
def Seg (l : Launch) (Z : State) (a0 : Array Value) (EL : List (String × Nat)) (y : MethodName) (bytes : ByteArray) (maxL : Nat) (ret : Option FieldType) (rm : Room) (Q : Option Value → Heap → Prop) (h : Heap) (k n : Nat) (sf : List Addr) (pc : Nat) (L : Array Slot) (S : List Value) : Prop :=
  ∀ (p : Program) (e : Env) (s : State) (m : MethodId) (args : Array Value) (below : List Frame) (meth : Method) (c : Code) (T : State), Cx p meth c y bytes maxL ret → Wk p l e rm s m args below meth c Z a0 EL y.cls sf k n T h → Gl p e below s Z EL Q rm.cells rm.slots (T.setTop (mkF m pc L S))
/-- a contract -/
def Ct (l : Launch) (Z : State) (EL : List (String × Nat)) (sf : List Addr) (ws : List Jvm.Cond) (y : MethodName) (bytes : ByteArray) (maxL : Nat) (ret : Option FieldType) (rm : Room) (as' : Array Value) (h : Heap) (Q : Option Value → Heap → Prop) : Prop :=
  MetFree l y (head1 (Jvm.Cond.code y bytes maxL ret :: ws) rm) (fun a U => a = as' ∧ Z.Warmed39 U.vm ∧ U.heap = h ∧ CHv Z EL U.vm h ∧ SfOk Z EL U.vm h sf ∧ Ext Z.heap h) (fun _ _ _ _ _ => True)
    (fun _ U o U' => ∃ v L, o = .returned v ∧ (Fr Z.heap.size L ∧ Ext Z.heap U'.heap ∧ Q v U'.heap) ∧ CHr Z EL U.vm U.heap U'.vm U'.heap ∧ ReturnedEndW U o U' L rm.cells rm.slots)
section Facts
variable {Z : State} {EL : List (String × Nat)} {vm vm1 : Vm} {h h1 h2 h' : Heap} {sf sf' : List Addr} {ws : List Addr} {a x : Addr} {sl : Nat} {v : Value}
theorem ext_rfl (h : Heap) : Ext h h := ⟨Nat.le_refl _, fun _ _ q => q⟩
theorem ext_tr (A : Ext h h1) (B : Ext h1 h2) : Ext h h2 := ⟨Nat.le_trans A.1 B.1, fun x c q => B.2 x c (A.2 x c q)⟩
theorem ext_kp (A : Ext h h1) (K : Keep h1 h2 ws) (q : ∀ x ∈ ws, h.size ≤ x) : Ext h h2 := ⟨Nat.le_trans A.1 K.1, fun x c r => K.2.1 x c (A.2 x c r) fun z => absurd (Array.getElem?_eq_some_iff.mp r).1 (Nat.not_lt.mpr (q x z))⟩
theorem ext_wr (A : Ext h h1) (W : Wr h1 h2 a sl v) (q : h.size ≤ a) : Ext h h2 := ext_kp A (Keep.of_wr W) (allS q all0)
theorem keep_ext (E : Ext h h1) : Keep h h1 [] := (Keep.refl h []).ext E
theorem ext_keep (K : Keep h h1 []) : Ext h h1 := ⟨K.1, fun x c q => K.2.1 x c q (fun z => nomatch z)⟩
theorem keep_mono {ws' : List Addr} (K : Keep h h1 ws) (q : ∀ x ∈ ws, x ∈ ws' ∨ h.size ≤ x) : Keep h h1 ws' := (Keep.refl h ws').trans K q
theorem SfOk.sub (S : SfOk Z EL vm h sf) (q : ∀ x ∈ sf', x ∈ sf) : SfOk Z EL vm h sf' := fun x hx => S x (q x hx)
theorem SfOk.chr (S : SfOk Z EL vm h sf) (A : CHr Z EL vm h vm1 h') : SfOk Z EL vm1 h' sf := fun x hx => by
  obtain ⟨q1, q2, q3⟩ := S x hx
  exact ⟨q1, Nat.lt_of_lt_of_le q2 A.2.1, A.safe q2 q3⟩
theorem SfOk.cons (S : SfOk Z EL vm h sf) (q1 : Z.heap.size ≤ x) (q2 : x < h.size) (q3 : Safe Z EL vm h x) : SfOk Z EL vm h (x :: sf) := fun y hy => by
  rcases List.mem_cons.mp hy with rfl | hy
  · exact ⟨q1, q2, q3⟩
  · exact S y hy
theorem SfOk.safes (S : SfOk Z EL vm h sf) (q : ∀ x ∈ ws, x ∈ sf) : ∀ x ∈ ws, Safe Z EL vm h x := fun x hx => (S x (q x hx)).2.2
end Facts
section Core
variable {l : Launch} {Z : State} {a0 : Array Value} {EL : List (String × Nat)} {y : MethodName} {bytes : ByteArray} {maxL : Nat} {ret : Option FieldType} {rm : Room} {Q : Option Value → Heap → Prop} {h : Heap} {k n k' n' : Nat} {sf sf' : List Addr} {pc pc' : Nat} {L : Array Slot} {S : List Value}
variable {p : Program} {e : Env} {R : Room} {s : State} {m : MethodId} {args : Array Value} {below : List Frame} {meth : Method} {c : Code} {T : State} {own : String}
theorem Wk.here (w : Wk p l e R s m args below meth c Z a0 EL own sf k n T h) : At T m c below := by obtain ⟨_, _, _, X, -⟩ := w; exact X.here
theorem Wk.mono (w : Wk p l e R s m args below meth c Z a0 EL own sf k n T h) (hk : k ≤ k') (hn : n ≤ n') (q : ∀ x ∈ sf', x ∈ sf) : Wk p l e R s m args below meth c Z a0 EL own sf' k' n' T h := by
  obtain ⟨vm0, locs, k0, X, r1, r2, r3, r4, r5, r6, r7, r8, r9, r10⟩ := w
  exact ⟨vm0, locs, k0, X.mono hk hn, r1, r2, r3, r4, r5, r6, r7, r8, r9, r10.sub q⟩
theorem Seg.mono (hk : k ≤ k') (hn : n ≤ n') (q : ∀ x ∈ sf', x ∈ sf) (g : Seg l Z a0 EL y bytes maxL ret rm Q h k' n' sf' pc L S) : Seg l Z a0 EL y bytes maxL ret rm Q h k n sf pc L S :=
  fun p e s m args below meth c T C w => g p e s m args below meth c T C (w.mono hk hn q)
theorem Seg.post {Q' : Option Value → Heap → Prop} (q : ∀ v h, Q' v h → Q v h) (g : Seg l Z a0 EL y bytes maxL ret rm Q' h k n sf pc L S) : Seg l Z a0 EL y bytes maxL ret rm Q h k n sf pc L S :=
  fun p e s m args below meth c T C w => by
    obtain ⟨s₂, o, h1, h2, h3, v, Ls, h4, ⟨h5, h6, h7⟩, h8⟩ := g p e s m args below meth c T C w
    exact ⟨s₂, o, h1, h2, h3, v, Ls, h4, ⟨h5, h6, q _ _ h7⟩, h8⟩
theorem Gl.st {u u' : State} (hs : ∀ t, Steps p.tables e below u' t → Steps p.tables e below u t) (g : Gl p e below s Z EL Q k n u') : Gl p e below s Z EL Q k n u := by
  obtain ⟨s₂, o, h1, r⟩ := g
  exact ⟨s₂, o, hs _ h1, r⟩
theorem Seg.start (g : Ext Z.heap h → Seg l Z a0 EL y bytes maxL ret rm Q h k n sf pc L S) : Seg l Z a0 EL y bytes maxL ret rm Q h k n sf pc L S :=
  fun p e s m args below meth c T C w => by
    obtain ⟨vm0, locs, k0, X, r1, r2, r3, r4, r5, r6, r7, r8, r9, r10⟩ := w
    exact g r8 p e s m args below meth c T C ⟨vm0, locs, k0, X, r1, r2, r3, r4, r5, r6, r7, r8, r9, r10⟩
/-- a plain step -/
theorem Seg.plain {L' : Array Slot} {S' : List Value} (hs : ∀ (p : Program) (e : Env) (m : MethodId) (below : List Frame) (c : Code) (T : State) (t : State), p.tables.exec = Jvm.exec → c.code = bytes → At T m c below → Steps p.tables e below (T.setTop (mkF m pc' L' S')) t → Steps p.tables e below (T.setTop (mkF m pc L S)) t)
    (g : Seg l Z a0 EL y bytes maxL ret rm Q h k n sf pc' L' S') : Seg l Z a0 EL y bytes maxL ret rm Q h k n sf pc L S :=
  fun p e s m args below meth c T C w => Gl.st (fun t => hs p e m below c T t C.1 C.2.1 w.here) (g p e s m args below meth c T C w)
theorem Ct.of_seg {as' : Array Value} {ws : List Jvm.Cond} (hpn : plainName y.cls = true) (hEL : EW Z a0 EL) (hent : ∀ m, entryFrame m as' maxL = mkF m 0 L []) (g : Seg l Z a0 EL y bytes maxL ret rm Q h 0 0 sf 0 L []) :
    Ct l Z EL sf ws y bytes maxL ret rm as' h Q := by
  refine MetFree.of_bodySF (plainFor_of_name hpn) hisR ?_
  intro p e s m args below meth c s₁ Bd hml0 hP hK
  obtain ⟨rfl, hZ, hh, hC, hSf, hZ0⟩ := hP
  subst hh
  have X0 : Stand p l e rm (s.setVm s.vm) m _ below meth c s₁ [] 0 0 := Stand.of_body Bd
  have e0 : s₁.heap = s.heap := by rw [Bd.state]; rfl
  have hown : s.vm.findClass y.cls = some m.cls := findClass_of_methodNamed Bd.named
  rw [hent m]
  exact g p e s m _ below meth c s₁ ⟨Bd.exec, Bd.bytes, hml0, Bd.returns, Bd.notSynchronized, (name_of_methodNamed Bd.named Bd.method).1⟩ ⟨s.vm, [], 0, X0, e0, (State.WarmedH.refl s).since 0, Nat.zero_le _, hZ, hown, CHr.refl hC, Fr.nil _, hZ0, hEL, hSf⟩
theorem Wk.out (w : Wk p l e R s m args below meth c Z a0 EL own sf k n T h) (C : Cx p meth c y bytes maxL ret) {v : Option Value} (hv : ret = none → v = none) (hQ : Q v h) (hk : k ≤ R.cells) (hn : n ≤ R.slots) {u : State}
    (hs : ∀ (vm0 : Vm) (locs : List Loc), Stand p l e R (s.setVm vm0) m args below meth c T locs k n → ∀ fs, (∀ (f : JFrame) (acts : List Action), f.method = m → f.locked = none → f.entered = [] → (doReturn e (T.setTop f) acts v).1 = T.setFrames fs) → Steps p.tables e below u (T.setFrames fs)) : Gl p e below s Z EL Q R.cells R.slots u := by
  obtain ⟨vm0, locs, k0, X, rfl, r2, r3, r4, r5, r6, r7, r8, r9, r10⟩ := w
  obtain ⟨C1, C2, C3, C4, C5, C6⟩ := C
  obtain ⟨fs, h1, h2, h3, ⟨-, e1, e2, e3⟩⟩ := X.leaveW r2 r3 (v := v) (fun q => hv (C4 ▸ q)) C5
  refine ⟨_, _, hs vm0 locs X fs h1, h2, h3, v, locs, rfl, ⟨r7, r8, hQ⟩, ?_, ⟨v, rfl⟩, e1, e2, e3.mono hk hn⟩
  have A := CHv.at X r4 r9 r6.1
  exact r6.trans A
/-- returns -/
theorem Seg.retI {v : Int32} (hret : ret = some .int) (hd : decode bytes pc = .ok (.ireturn, 1)) (hk : k ≤ rm.cells) (hn : n ≤ rm.slots) (hQ : Q (some (.int v)) h) : Seg l Z a0 EL y bytes maxL ret rm Q h k n sf pc L [.int v] :=
  fun p e s m args below meth c T C w => w.out C (fun q => by rw [hret] at q; cases q) hQ hk hn fun vm0 locs X fs hl => X.ireturnOut C.1 (t := .int) (C.2.2.2.1.trans hret) rfl (Or.inl rfl) (hb C.2.1 hd) hl
theorem Seg.retN {v w : Int32} {t : FieldType} (hret : ret = some t) (ht : t = .boolean ∨ t = .byte ∨ t = .char ∨ t = .short) (hv : nar t v = w) (hd : decode bytes pc = .ok (.ireturn, 1)) (hk : k ≤ rm.cells) (hn : n ≤ rm.slots) (hQ : Q (some (.int w)) h) : Seg l Z a0 EL y bytes maxL ret rm Q h k n sf pc L [.int v] :=
  fun p e s m args below meth c T C w' => by
    subst hv
    exact w'.out C (fun q => by rw [hret] at q; cases q) hQ hk hn fun vm0 locs X fs hl => RoadKit.retN X C.1 (t := t) (C.2.2.2.1.trans hret) ht (hb C.2.1 hd) hl
theorem Seg.retA {v : Value} {t : FieldType} (hret : ret = some t) (ht : t.isReference = true) (hv : v.isRef = true) (hd : decode bytes pc = .ok (.areturn, 1)) (hk : k ≤ rm.cells) (hn : n ≤ rm.slots) (hQ : Q (some v) h) : Seg l Z a0 EL y bytes maxL ret rm Q h k n sf pc L [v] :=
  fun p e s m args below meth c T C w => w.out C (fun q => by rw [hret] at q; cases q) hQ hk hn fun vm0 locs X fs hl => X.areturnOut C.1 hv (C.2.2.2.1.trans hret) ht (hb C.2.1 hd) hl
theorem Seg.retL {v : Int64} (hret : ret = some .long) (hd : decode bytes pc = .ok (.lreturn, 1)) (hk : k ≤ rm.cells) (hn : n ≤ rm.slots) (hQ : Q (some (.long v)) h) : Seg l Z a0 EL y bytes maxL ret rm Q h k n sf pc L [.long v] :=
  fun p e s m args below meth c T C w => w.out C (fun q => by rw [hret] at q; cases q) hQ hk hn fun vm0 locs X fs hl => X.lreturnOut C.1 (C.2.2.2.1.trans hret) (hb C.2.1 hd) hl
theorem Seg.ret0 (hret : ret = none) (hd : decode bytes pc = .ok (.return_, 1)) (hk : k ≤ rm.cells) (hn : n ≤ rm.slots) (hQ : Q none h) : Seg l Z a0 EL y bytes maxL ret rm Q h k n sf pc L [] :=
  fun p e s m args below meth c T C w => w.out C (fun _ => rfl) hQ hk hn fun vm0 locs X fs hl => X.returnOut C.1 (C.2.2.2.1.trans hret) (hb C.2.1 hd) hl
end Core
section Plain
variable {l : Launch} {Z : State} {a0 : Array Value} {EL : List (String × Nat)} {y : MethodName} {bytes : ByteArray} {maxL : Nat} {ret : Option FieldType} {rm : Room} {Q : Option Value → Heap → Prop} {h : Heap} {k n : Nat} {sf : List Addr} {pc pc' : Nat} {L : Array Slot} {S : List Value}
theorem Seg.iloadN {i : Fin 4} {v : Int32} (hd : decode bytes pc = .ok (.iload_n i, 1)) (hl : L[i.val]? = some (.val (.int v))) (hp : pc + 1 = pc') (g : Seg l Z a0 EL y bytes maxL ret rm Q h k n sf pc' L (.int v :: S)) : Seg l Z a0 EL y bytes maxL ret rm Q h k n sf pc L S := by
  subst hp
  exact Seg.plain (fun p e m below c T t hx hc ha hr => XS.iloadN ha hx rfl (hb hc hd) hl hr) g
theorem Seg.iload {i : Nat} {v : Int32} (hd : decode bytes pc = .ok (.iload i, 2)) (hl : L[i]? = some (.val (.int v))) (hp : pc + 2 = pc') (g : Seg l Z a0 EL y bytes maxL ret rm Q h k n sf pc' L (.int v :: S)) : Seg l Z a0 EL y bytes maxL ret rm Q h k n sf pc L S := by
  subst hp
  exact Seg.plain (fun p e m below c T t hx hc ha hr => XS.iload ha hx rfl (hb hc hd) hl hr) g
theorem Seg.lloadN {i : Fin 4} {v : Int64} (hd : decode bytes pc = .ok (.lload_n i, 1)) (hl : L[i.val]? = some (.val (.long v))) (hp : pc + 1 = pc') (g : Seg l Z a0 EL y bytes maxL ret rm Q h k n sf pc' L (.long v :: S)) : Seg l Z a0 EL y bytes maxL ret rm Q h k n sf pc L S := by
  subst hp
  exact Seg.plain (fun p e m below c T t hx hc ha hr => XT.lloadN ha hx rfl (hb hc hd) hl hr) g
theorem Seg.lload {i : Nat} {v : Int64} (hd : decode bytes pc = .ok (.lload i, 2)) (hl : L[i]? = some (.val (.long v))) (hp : pc + 2 = pc') (g : Seg l Z a0 EL y bytes maxL ret rm Q h k n sf pc' L (.long v :: S)) : Seg l Z a0 EL y bytes maxL ret rm Q h k n sf pc L S := by
  subst hp
  exact Seg.plain (fun p e m below c T t hx hc ha hr => XT.lload ha hx rfl (hb hc hd) hl hr) g
theorem Seg.aloadN {i : Fin 4} {v : Value} (hd : decode bytes pc = .ok (.aload_n i, 1)) (hl : L[i.val]? = some (.val v)) (hv : v.isRef = true) (hp : pc + 1 = pc') (g : Seg l Z a0 EL y bytes maxL ret rm Q h k n sf pc' L (v :: S)) : Seg l Z a0 EL y bytes maxL ret rm Q h k n sf pc L S := by
  subst hp
  exact Seg.plain (fun p e m below c T t hx hc ha hr => XS.aloadN ha hx rfl (hb hc hd) hl hv hr) g
theorem Seg.aload {i : Nat} {v : Value} (hd : decode bytes pc = .ok (.aload i, 2)) (hl : L[i]? = some (.val v)) (hv : v.isRef = true) (hp : pc + 2 = pc') (g : Seg l Z a0 EL y bytes maxL ret rm Q h k n sf pc' L (v :: S)) : Seg l Z a0 EL y bytes maxL ret rm Q h k n sf pc L S := by
  subst hp
  exact Seg.plain (fun p e m below c T t hx hc ha hr => XS.aload ha hx rfl (hb hc hd) hl hv hr) g
theorem Seg.istoreN {i : Fin 4} {v : Int32} {L' : Array Slot} (hd : decode bytes pc = .ok (.istore_n i, 1)) (hl : storeLocals L i.val (.int v) = some L') (hp : pc + 1 = pc') (g : Seg l Z a0 EL y bytes maxL ret rm Q h k n sf pc' L' S) : Seg l Z a0 EL y bytes maxL ret rm Q h k n sf pc L (.int v :: S) := by
  subst hp
  exact Seg.plain (fun p e m below c T t hx hc ha hr => XS.istoreN ha hx rfl (hb hc hd) rfl hl hr) g
theorem Seg.istore {i : Nat} {v : Int32} {L' : Array Slot} (hd : decode bytes pc = .ok (.istore i, 2)) (hl : storeLocals L i (.int v) = some L') (hp : pc + 2 = pc') (g : Seg l Z a0 EL y bytes maxL ret rm Q h k n sf pc' L' S) : Seg l Z a0 EL y bytes maxL ret rm Q h k n sf pc L (.int v :: S) := by
  subst hp
  exact Seg.plain (fun p e m below c T t hx hc ha hr => XS.istore ha hx rfl (hb hc hd) rfl hl hr) g
theorem Seg.lstoreN {i : Fin 4} {v : Int64} {L' : Array Slot} (hd : decode bytes pc = .ok (.lstore_n i, 1)) (hl : storeLocals L i.val (.long v) = some L') (hp : pc + 1 = pc') (g : Seg l Z a0 EL y bytes maxL ret rm Q h k n sf pc' L' S) : Seg l Z a0 EL y bytes maxL ret rm Q h k n sf pc L (.long v :: S) := by
  subst hp
  exact Seg.plain (fun p e m below c T t hx hc ha hr => XT.lstoreN ha hx rfl (hb hc hd) rfl hl hr) g
theorem Seg.lstore {i : Nat} {v : Int64} {L' : Array Slot} (hd : decode bytes pc = .ok (.lstore i, 2)) (hl : storeLocals L i (.long v) = some L') (hp : pc + 2 = pc') (g : Seg l Z a0 EL y bytes maxL ret rm Q h k n sf pc' L' S) : Seg l Z a0 EL y bytes maxL ret rm Q h k n sf pc L (.long v :: S) := by
  subst hp
  exact Seg.plain (fun p e m below c T t hx hc ha hr => XT.lstore ha hx rfl (hb hc hd) rfl hl hr) g
theorem Seg.astoreN {i : Fin 4} {v : Value} {L' : Array Slot} (hd : decode bytes pc = .ok (.astore_n i, 1)) (hv : v.isRef = true) (hl : storeLocals L i.val v = some L') (hp : pc + 1 = pc') (g : Seg l Z a0 EL y bytes maxL ret rm Q h k n sf pc' L' S) : Seg l Z a0 EL y bytes maxL ret rm Q h k n sf pc L (v :: S) := by
  subst hp
  exact Seg.plain (fun p e m below c T t hx hc ha hr => XS.astoreN ha hx rfl (hb hc hd) rfl hv hl hr) g
theorem Seg.astore {i : Nat} {v : Value} {L' : Array Slot} (hd : decode bytes pc = .ok (.astore i, 2)) (hv : v.isRef = true) (hl : storeLocals L i v = some L') (hp : pc + 2 = pc') (g : Seg l Z a0 EL y bytes maxL ret rm Q h k n sf pc' L' S) : Seg l Z a0 EL y bytes maxL ret rm Q h k n sf pc L (v :: S) := by
  subst hp
  exact Seg.plain (fun p e m below c T t hx hc ha hr => XS.astore ha hx rfl (hb hc hd) rfl hv hl hr) g
theorem Seg.iconst {i : Int} {v : Int32} (hd : decode bytes pc = .ok (.iconst i, 1)) (hv : Int32.ofInt i = v) (hp : pc + 1 = pc') (g : Seg l Z a0 EL y bytes maxL ret rm Q h k n sf pc' L (.int v :: S)) : Seg l Z a0 EL y bytes maxL ret rm Q h k n sf pc L S := by
  subst hp
  exact Seg.plain (fun p e m below c T t hx hc ha hr => XT.iconstV ha hx rfl v (hb hc hd) hv hr) g
theorem Seg.bipush {i : Int} {v : Int32} (hd : decode bytes pc = .ok (.bipush i, 2)) (hv : (Int8.ofInt i).toInt32 = v) (hp : pc + 2 = pc') (g : Seg l Z a0 EL y bytes maxL ret rm Q h k n sf pc' L (.int v :: S)) : Seg l Z a0 EL y bytes maxL ret rm Q h k n sf pc L S := by
  subst hp
  exact Seg.plain (fun p e m below c T t hx hc ha hr => XT.bipushV ha hx rfl v (hb hc hd) hv hr) g
theorem Seg.sipush {i : Int} {v : Int32} (hd : decode bytes pc = .ok (.sipush i, 3)) (hv : (Int16.ofInt i).toInt32 = v) (hp : pc + 3 = pc') (g : Seg l Z a0 EL y bytes maxL ret rm Q h k n sf pc' L (.int v :: S)) : Seg l Z a0 EL y bytes maxL ret rm Q h k n sf pc L S := by
  subst hp
  exact Seg.plain (fun p e m below c T t hx hc ha hr => XT.sipushV ha hx rfl v (hb hc hd) hv hr) g
theorem Seg.lconst {i : Fin 2} {v : Int64} (hd : decode bytes pc = .ok (.lconst i, 1)) (hv : Int64.ofNat i = v) (hp : pc + 1 = pc') (g : Seg l Z a0 EL y bytes maxL ret rm Q h k n sf pc' L (.long v :: S)) : Seg l Z a0 EL y bytes maxL ret rm Q h k n sf pc L S := by
  subst hp
  exact Seg.plain (fun p e m below c T t hx hc ha hr => XT.lconstV ha hx rfl v (hb hc hd) hv hr) g
theorem Seg.anull  (hd : decode bytes pc = .ok (.aconst_null, 1))  (hp : pc + 1 = pc') (g : Seg l Z a0 EL y bytes maxL ret rm Q h k n sf pc' L (.null :: S)) : Seg l Z a0 EL y bytes maxL ret rm Q h k n sf pc L S := by
  subst hp
  exact Seg.plain (fun p e m below c T t hx hc ha hr => XS.aconstNull ha hx rfl (hb hc hd) hr) g
theorem Seg.iadd {x z v : Int32} (hd : decode bytes pc = .ok (.iadd, 1)) (hv : x + z = v) (hp : pc + 1 = pc') (g : Seg l Z a0 EL y bytes maxL ret rm Q h k n sf pc' L (.int v :: S)) : Seg l Z a0 EL y bytes maxL ret rm Q h k n sf pc L (.int z :: .int x :: S) := by
  subst hp
  exact Seg.plain (fun p e m below c T t hx hc ha hr => XS.iadd ha hx rfl (hb hc hd) rfl (by subst hv; exact hr)) g
theorem Seg.isub {x z v : Int32} (hd : decode bytes pc = .ok (.isub, 1)) (hv : x - z = v) (hp : pc + 1 = pc') (g : Seg l Z a0 EL y bytes maxL ret rm Q h k n sf pc' L (.int v :: S)) : Seg l Z a0 EL y bytes maxL ret rm Q h k n sf pc L (.int z :: .int x :: S) := by
  subst hp
  exact Seg.plain (fun p e m below c T t hx hc ha hr => XS.isub ha hx rfl (hb hc hd) rfl (by subst hv; exact hr)) g
theorem Seg.imul {x z v : Int32} (hd : decode bytes pc = .ok (.imul, 1)) (hv : x * z = v) (hp : pc + 1 = pc') (g : Seg l Z a0 EL y bytes maxL ret rm Q h k n sf pc' L (.int v :: S)) : Seg l Z a0 EL y bytes maxL ret rm Q h k n sf pc L (.int z :: .int x :: S) := by
  subst hp
  exact Seg.plain (fun p e m below c T t hx hc ha hr => XS.imul ha hx rfl (hb hc hd) rfl (by subst hv; exact hr)) g
theorem Seg.iand {x z v : Int32} (hd : decode bytes pc = .ok (.iand, 1)) (hv : x &&& z = v) (hp : pc + 1 = pc') (g : Seg l Z a0 EL y bytes maxL ret rm Q h k n sf pc' L (.int v :: S)) : Seg l Z a0 EL y bytes maxL ret rm Q h k n sf pc L (.int z :: .int x :: S) := by
  subst hp
  exact Seg.plain (fun p e m below c T t hx hc ha hr => XS.iand ha hx rfl (hb hc hd) rfl (by subst hv; exact hr)) g
theorem Seg.ior {x z v : Int32} (hd : decode bytes pc = .ok (.ior, 1)) (hv : x ||| z = v) (hp : pc + 1 = pc') (g : Seg l Z a0 EL y bytes maxL ret rm Q h k n sf pc' L (.int v :: S)) : Seg l Z a0 EL y bytes maxL ret rm Q h k n sf pc L (.int z :: .int x :: S) := by
  subst hp
  exact Seg.plain (fun p e m below c T t hx hc ha hr => XT.ior ha hx rfl (hb hc hd) rfl (by subst hv; exact hr)) g
theorem Seg.ixor {x z v : Int32} (hd : decode bytes pc = .ok (.ixor, 1)) (hv : x ^^^ z = v) (hp : pc + 1 = pc') (g : Seg l Z a0 EL y bytes maxL ret rm Q h k n sf pc' L (.int v :: S)) : Seg l Z a0 EL y bytes maxL ret rm Q h k n sf pc L (.int z :: .int x :: S) := by
  subst hp
  exact Seg.plain (fun p e m below c T t hx hc ha hr => XT.ixor ha hx rfl (hb hc hd) rfl (by subst hv; exact hr)) g
theorem Seg.ishl {x z v : Int32} (hd : decode bytes pc = .ok (.ishl, 1)) (hv : x <<< (z &&& 31) = v) (hp : pc + 1 = pc') (g : Seg l Z a0 EL y bytes maxL ret rm Q h k n sf pc' L (.int v :: S)) : Seg l Z a0 EL y bytes maxL ret rm Q h k n sf pc L (.int z :: .int x :: S) := by
  subst hp
  exact Seg.plain (fun p e m below c T t hx hc ha hr => XT.ishl ha hx rfl (hb hc hd) rfl (by subst hv; exact hr)) g
theorem Seg.ishr {x z v : Int32} (hd : decode bytes pc = .ok (.ishr, 1)) (hv : x >>> (z &&& 31) = v) (hp : pc + 1 = pc') (g : Seg l Z a0 EL y bytes maxL ret rm Q h k n sf pc' L (.int v :: S)) : Seg l Z a0 EL y bytes maxL ret rm Q h k n sf pc L (.int z :: .int x :: S) := by
  subst hp
  exact Seg.plain (fun p e m below c T t hx hc ha hr => XT.ishr ha hx rfl (hb hc hd) rfl (by subst hv; exact hr)) g
theorem Seg.iushr {x z v : Int32} (hd : decode bytes pc = .ok (.iushr, 1)) (hv : (x.toUInt32 >>> (z &&& 31).toUInt32).toInt32 = v) (hp : pc + 1 = pc') (g : Seg l Z a0 EL y bytes maxL ret rm Q h k n sf pc' L (.int v :: S)) : Seg l Z a0 EL y bytes maxL ret rm Q h k n sf pc L (.int z :: .int x :: S) := by
  subst hp
  exact Seg.plain (fun p e m below c T t hx hc ha hr => XT.iushr ha hx rfl (hb hc hd) rfl (by subst hv; exact hr)) g
theorem Seg.ladd {x z v : Int64} (hd : decode bytes pc = .ok (.ladd, 1)) (hv : x + z = v) (hp : pc + 1 = pc') (g : Seg l Z a0 EL y bytes maxL ret rm Q h k n sf pc' L (.long v :: S)) : Seg l Z a0 EL y bytes maxL ret rm Q h k n sf pc L (.long z :: .long x :: S) := by
  subst hp
  exact Seg.plain (fun p e m below c T t hx hc ha hr => XT.ladd ha hx rfl (hb hc hd) rfl (by subst hv; exact hr)) g
theorem Seg.lsub {x z v : Int64} (hd : decode bytes pc = .ok (.lsub, 1)) (hv : x - z = v) (hp : pc + 1 = pc') (g : Seg l Z a0 EL y bytes maxL ret rm Q h k n sf pc' L (.long v :: S)) : Seg l Z a0 EL y bytes maxL ret rm Q h k n sf pc L (.long z :: .long x :: S) := by
  subst hp
  exact Seg.plain (fun p e m below c T t hx hc ha hr => XT.lsub ha hx rfl (hb hc hd) rfl (by subst hv; exact hr)) g
theorem Seg.lmul {x z v : Int64} (hd : decode bytes pc = .ok (.lmul, 1)) (hv : x * z = v) (hp : pc + 1 = pc') (g : Seg l Z a0 EL y bytes maxL ret rm Q h k n sf pc' L (.long v :: S)) : Seg l Z a0 EL y bytes maxL ret rm Q h k n sf pc L (.long z :: .long x :: S) := by
  subst hp
  exact Seg.plain (fun p e m below c T t hx hc ha hr => XT.lmul ha hx rfl (hb hc hd) rfl (by subst hv; exact hr)) g
theorem Seg.land {x z v : Int64} (hd : decode bytes pc = .ok (.land, 1)) (hv : x &&& z = v) (hp : pc + 1 = pc') (g : Seg l Z a0 EL y bytes maxL ret rm Q h k n sf pc' L (.long v :: S)) : Seg l Z a0 EL y bytes maxL ret rm Q h k n sf pc L (.long z :: .long x :: S) := by
  subst hp
  exact Seg.plain (fun p e m below c T t hx hc ha hr => XT.land ha hx rfl (hb hc hd) rfl (by subst hv; exact hr)) g
theorem Seg.lushr {x v : Int64} {z : Int32} (hd : decode bytes pc = .ok (.lushr, 1)) (hv : XT.ushrL x z = v) (hp : pc + 1 = pc') (g : Seg l Z a0 EL y bytes maxL ret rm Q h k n sf pc' L (.long v :: S)) : Seg l Z a0 EL y bytes maxL ret rm Q h k n sf pc L (.int z :: .long x :: S) := by
  subst hp
  exact Seg.plain (fun p e m below c T t hx hc ha hr => XT.lushr ha hx rfl (hb hc hd) rfl (by subst hv; exact hr)) g
theorem Seg.lrem {x z v : Int64} (hd : decode bytes pc = .ok (.lrem, 1)) (hz : z ≠ 0) (hv : x - (x / z) * z = v) (hp : pc + 1 = pc') (g : Seg l Z a0 EL y bytes maxL ret rm Q h k n sf pc' L (.long v :: S)) : Seg l Z a0 EL y bytes maxL ret rm Q h k n sf pc L (.long z :: .long x :: S) := by
  subst hp
  exact Seg.plain (fun p e m below c T t hx hc ha hr => XT.lrem ha hx rfl (hb hc hd) rfl hz (by subst hv; exact hr)) g
theorem Seg.i2l {x : Int32} {v : Int64} (hd : decode bytes pc = .ok (.i2l, 1)) (hv : x.toInt64 = v) (hp : pc + 1 = pc') (g : Seg l Z a0 EL y bytes maxL ret rm Q h k n sf pc' L (.long v :: S)) : Seg l Z a0 EL y bytes maxL ret rm Q h k n sf pc L (.int x :: S) := by
  subst hp
  exact Seg.plain (fun p e m below c T t hx hc ha hr => XT.i2l ha hx rfl (hb hc hd) rfl (by subst hv; exact hr)) g
theorem Seg.l2i {x : Int64} {v : Int32} (hd : decode bytes pc = .ok (.l2i, 1)) (hv : x.toInt32 = v) (hp : pc + 1 = pc') (g : Seg l Z a0 EL y bytes maxL ret rm Q h k n sf pc' L (.int v :: S)) : Seg l Z a0 EL y bytes maxL ret rm Q h k n sf pc L (.long x :: S) := by
  subst hp
  exact Seg.plain (fun p e m below c T t hx hc ha hr => XT.l2i ha hx rfl (hb hc hd) rfl (by subst hv; exact hr)) g
theorem Seg.i2b {x : Int32} {v : Int32} (hd : decode bytes pc = .ok (.i2b, 1)) (hv : x.toInt8.toInt32 = v) (hp : pc + 1 = pc') (g : Seg l Z a0 EL y bytes maxL ret rm Q h k n sf pc' L (.int v :: S)) : Seg l Z a0 EL y bytes maxL ret rm Q h k n sf pc L (.int x :: S) := by
  subst hp
  exact Seg.plain (fun p e m below c T t hx hc ha hr => XT.i2b ha hx rfl (hb hc hd) rfl (by subst hv; exact hr)) g
theorem Seg.i2c {x : Int32} {v : Int32} (hd : decode bytes pc = .ok (.i2c, 1)) (hv : x.toUInt32.toUInt16.toUInt32.toInt32 = v) (hp : pc + 1 = pc') (g : Seg l Z a0 EL y bytes maxL ret rm Q h k n sf pc' L (.int v :: S)) : Seg l Z a0 EL y bytes maxL ret rm Q h k n sf pc L (.int x :: S) := by
  subst hp
  exact Seg.plain (fun p e m below c T t hx hc ha hr => XT.i2c ha hx rfl (hb hc hd) rfl (by subst hv; exact hr)) g
theorem Seg.irem {x z v : Int32} (hd : decode bytes pc = .ok (.irem, 1)) (hz : z ≠ 0) (hv : x % z = v) (hp : pc + 1 = pc') (g : Seg l Z a0 EL y bytes maxL ret rm Q h k n sf pc' L (.int v :: S)) : Seg l Z a0 EL y bytes maxL ret rm Q h k n sf pc L (.int z :: .int x :: S) := by
  subst hp
  exact Seg.plain (fun p e m below c T t hx hc ha hr => XS.irem ha hx rfl (hb hc hd) rfl hz (by subst hv; rw [irem_eq_mod]; exact hr)) g
theorem Seg.lcmp {x z : Int64} {v : Int32} (hd : decode bytes pc = .ok (.lcmp, 1)) (hv : lcmpW x z = v) (hp : pc + 1 = pc') (g : Seg l Z a0 EL y bytes maxL ret rm Q h k n sf pc' L (.int v :: S)) : Seg l Z a0 EL y bytes maxL ret rm Q h k n sf pc L (.long z :: .long x :: S) := by
  subst hp
  exact Seg.plain (fun p e m below c T t hx hc ha hr => XT.lcmp ha hx rfl (hb hc hd) rfl (by subst hv; exact hr)) g
theorem Seg.dup {v : Value} (hd : decode bytes pc = .ok (.dup, 1)) (hv : v.category = 1) (hp : pc + 1 = pc') (g : Seg l Z a0 EL y bytes maxL ret rm Q h k n sf pc' L (v :: v :: S)) : Seg l Z a0 EL y bytes maxL ret rm Q h k n sf pc L (v :: S) := by
  subst hp
  exact Seg.plain (fun p e m below c T t hx hc ha hr => XS.dup ha hx rfl (hb hc hd) rfl hv hr) g
theorem Seg.dupX1 {v w : Value} (hd : decode bytes pc = .ok (.dup_x1, 1)) (hv : v.category = 1) (hw : w.category = 1) (hp : pc + 1 = pc') (g : Seg l Z a0 EL y bytes maxL ret rm Q h k n sf pc' L (v :: w :: v :: S)) : Seg l Z a0 EL y bytes maxL ret rm Q h k n sf pc L (v :: w :: S) := by
  subst hp
  exact Seg.plain (fun p e m below c T t hx hc ha hr => XT.dupX1 ha hx rfl (hb hc hd) rfl hv hw hr) g
theorem Seg.pop {v : Value} (hd : decode bytes pc = .ok (.pop, 1)) (hv : v.category = 1) (hp : pc + 1 = pc') (g : Seg l Z a0 EL y bytes maxL ret rm Q h k n sf pc' L S) : Seg l Z a0 EL y bytes maxL ret rm Q h k n sf pc L (v :: S) := by
  subst hp
  exact Seg.plain (fun p e m below c T t hx hc ha hr => XT.pop ha hx rfl (hb hc hd) rfl hv hr) g
theorem Seg.iinc {i : Nat} {d : Int} {x v : Int32} {L' : Array Slot} (hd : decode bytes pc = .ok (.iinc i d, 3)) (hv : Int32.ofInt d = v) (hl : L[i]? = some (.val (.int x))) {z : Int32} (hz : x + v = z) (hl' : storeLocals L i (.int z) = some L') (hp : pc + 3 = pc') (g : Seg l Z a0 EL y bytes maxL ret rm Q h k n sf pc' L' S) : Seg l Z a0 EL y bytes maxL ret rm Q h k n sf pc L S := by
  subst hp
  exact Seg.plain (fun p e m below c T t hx hc ha hr => XT.iincV ha hx rfl v (hb hc hd) hv hl (by rw [hz]; exact hl') hr) g
theorem Seg.goto {o : Int} (hd : decode bytes pc = .ok (.goto o, 3))  (ho : 0 ≤ (pc : Int) + o) (hp : ((pc : Int) + o).toNat = pc') (g : Seg l Z a0 EL y bytes maxL ret rm Q h k n sf pc' L S) : Seg l Z a0 EL y bytes maxL ret rm Q h k n sf pc L S := by
  subst hp
  exact Seg.plain (fun p e m below c T t hx hc ha hr => XS.goto ha hx rfl rfl (hb hc hd) ho rfl hr) g
theorem Seg.ifY {cd : ClassFile.Cond} {o : Int} {x : Int32} (hd : decode bytes pc = .ok (.ifCond cd o, 3)) (hc' : ifCond.holds cd x = true) (ho : 0 ≤ (pc : Int) + o) (hp : ((pc : Int) + o).toNat = pc') (g : Seg l Z a0 EL y bytes maxL ret rm Q h k n sf pc' L S) : Seg l Z a0 EL y bytes maxL ret rm Q h k n sf pc L (.int x :: S) := by
  subst hp
  exact Seg.plain (fun p e m below c T t hx hc ha hr => XS.ifYes ha hx rfl rfl (hb hc hd) rfl hc' ho rfl hr) g
theorem Seg.ifN {cd : ClassFile.Cond} {o : Int} {x : Int32} (hd : decode bytes pc = .ok (.ifCond cd o, 3)) (hc' : ifCond.holds cd x = false) (hp : pc + 3 = pc') (g : Seg l Z a0 EL y bytes maxL ret rm Q h k n sf pc' L S) : Seg l Z a0 EL y bytes maxL ret rm Q h k n sf pc L (.int x :: S) := by
  subst hp
  exact Seg.plain (fun p e m below c T t hx hc ha hr => XS.ifNo ha hx rfl (hb hc hd) rfl hc' hr) g
theorem Seg.icY {cd : ClassFile.Cond} {o : Int} {x z : Int32} (hd : decode bytes pc = .ok (.if_icmp cd o, 3)) (hc' : if_icmp.holds cd x z = true) (ho : 0 ≤ (pc : Int) + o) (hp : ((pc : Int) + o).toNat = pc') (g : Seg l Z a0 EL y bytes maxL ret rm Q h k n sf pc' L S) : Seg l Z a0 EL y bytes maxL ret rm Q h k n sf pc L (.int z :: .int x :: S) := by
  subst hp
  exact Seg.plain (fun p e m below c T t hx hc ha hr => XS.icmpYes ha hx rfl rfl (hb hc hd) rfl hc' ho rfl hr) g
theorem Seg.icN {cd : ClassFile.Cond} {o : Int} {x z : Int32} (hd : decode bytes pc = .ok (.if_icmp cd o, 3)) (hc' : if_icmp.holds cd x z = false) (hp : pc + 3 = pc') (g : Seg l Z a0 EL y bytes maxL ret rm Q h k n sf pc' L S) : Seg l Z a0 EL y bytes maxL ret rm Q h k n sf pc L (.int z :: .int x :: S) := by
  subst hp
  exact Seg.plain (fun p e m below c T t hx hc ha hr => XS.icmpNo ha hx rfl (hb hc hd) rfl hc' hr) g
theorem Seg.nullY {o : Int} (hd : decode bytes pc = .ok (.ifnull o, 3))  (ho : 0 ≤ (pc : Int) + o) (hp : ((pc : Int) + o).toNat = pc') (g : Seg l Z a0 EL y bytes maxL ret rm Q h k n sf pc' L S) : Seg l Z a0 EL y bytes maxL ret rm Q h k n sf pc L (.null :: S) := by
  subst hp
  exact Seg.plain (fun p e m below c T t hx hc ha hr => XS.ifnullYes ha hx rfl rfl (hb hc hd) rfl ho rfl hr) g
theorem Seg.nullN {o : Int} {a : Addr} (hd : decode bytes pc = .ok (.ifnull o, 3))  (hp : pc + 3 = pc') (g : Seg l Z a0 EL y bytes maxL ret rm Q h k n sf pc' L S) : Seg l Z a0 EL y bytes maxL ret rm Q h k n sf pc L (.ref a :: S) := by
  subst hp
  exact Seg.plain (fun p e m below c T t hx hc ha hr => XS.ifnullNo ha hx rfl (hb hc hd) rfl hr) g
theorem Seg.nonnY {o : Int} {a : Addr} (hd : decode bytes pc = .ok (.ifnonnull o, 3))  (ho : 0 ≤ (pc : Int) + o) (hp : ((pc : Int) + o).toNat = pc') (g : Seg l Z a0 EL y bytes maxL ret rm Q h k n sf pc' L S) : Seg l Z a0 EL y bytes maxL ret rm Q h k n sf pc L (.ref a :: S) := by
  subst hp
  exact Seg.plain (fun p e m below c T t hx hc ha hr => XT.ifnonnullYes ha hx rfl rfl (hb hc hd) rfl ho rfl hr) g
theorem Seg.nonnN {o : Int} (hd : decode bytes pc = .ok (.ifnonnull o, 3))  (hp : pc + 3 = pc') (g : Seg l Z a0 EL y bytes maxL ret rm Q h k n sf pc' L S) : Seg l Z a0 EL y bytes maxL ret rm Q h k n sf pc L (.null :: S) := by
  subst hp
  exact Seg.plain (fun p e m below c T t hx hc ha hr => XT.ifnonnullNo ha hx rfl (hb hc hd) rfl hr) g
theorem Seg.acY {cd : ClassFile.ACond} {o : Int} {x z : Value} (hd : decode bytes pc = .ok (.if_acmp cd o, 3)) (hx' : x.isRef = true) (hz' : z.isRef = true) (hc' : XT.acmp cd x z = true) (ho : 0 ≤ (pc : Int) + o) (hp : ((pc : Int) + o).toNat = pc') (g : Seg l Z a0 EL y bytes maxL ret rm Q h k n sf pc' L S) : Seg l Z a0 EL y bytes maxL ret rm Q h k n sf pc L (z :: x :: S) := by
  subst hp
  exact Seg.plain (fun p e m below c T t hx hc ha hr => XT.acmpYes ha hx rfl rfl (hb hc hd) rfl hx' hz' hc' ho rfl hr) g
theorem Seg.acN {cd : ClassFile.ACond} {o : Int} {x z : Value} (hd : decode bytes pc = .ok (.if_acmp cd o, 3)) (hx' : x.isRef = true) (hz' : z.isRef = true) (hc' : XT.acmp cd x z = false) (hp : pc + 3 = pc') (g : Seg l Z a0 EL y bytes maxL ret rm Q h k n sf pc' L S) : Seg l Z a0 EL y bytes maxL ret rm Q h k n sf pc L (z :: x :: S) := by
  subst hp
  exact Seg.plain (fun p e m below c T t hx hc ha hr => XT.acmpNo ha hx rfl (hb hc hd) rfl hx' hz' hc' hr) g
end Plain
section Heap
variable {l : Launch} {Z : State} {a0 : Array Value} {EL : List (String × Nat)} {y : MethodName} {bytes : ByteArray} {maxL : Nat} {ret : Option FieldType} {rm : Room} {Q : Option Value → Heap → Prop} {h : Heap} {k n : Nat} {sf : List Addr} {pc pc' : Nat} {L : Array Slot} {S : List Value}
variable {p : Program} {e : Env} {R : Room} {s : State} {m : MethodId} {args : Array Value} {below : List Frame} {meth : Method} {c : Code} {T : State} {own : String}
theorem Seg.newO {C : String} {idx sz : Nat} (w : (Cond.classLink y.cls idx C).before a0 Z = true) (wi : (Cond.instantiable C sz).before a0 Z = true) (wz : (Cond.initialized C).before a0 Z = true) (hd : decode bytes pc = .ok (.new idx, 3)) (hp : pc + 3 = pc') {k' n' : Nat} (hk : k + 1 = k') (hn : n + sz = n') (hk2 : k' ≤ rm.cells) (hn2 : n' ≤ rm.slots)
    (g : ∀ (x : Addr) (h' : Heap), Ext h h' → h.size = x → x < h'.size → Exa Z h' x C → (∀ {O nm d : String} {ty : FieldType}, Laid Z a0 C O nm d → parseFieldDescriptor d = some ty → Fld Z h' x O nm d (defaultValue ty)) → Seg l Z a0 EL y bytes maxL ret rm Q h' k' n' (x :: sf) pc' L (.ref x :: S)) :
    Seg l Z a0 EL y bytes maxL ret rm Q h k n sf pc L S := by
  subst hp hk hn
  intro p e s m args below meth c T C' w'
  obtain ⟨vm0, locs, k0, X, r1, r2, r3, r4, r5, r6, r7, r8, r9, r10⟩ := w'
  obtain ⟨T', h', X', e', E, A, D, -, st⟩ := RoadKit.newO X C'.1 r4 r5 w wi wz r1 (g := mkF m pc L S) rfl (hb C'.2.1 hd) hk2 hn2
  refine Gl.st st (g _ h' E rfl A.lt A D p e s m args below meth c T' C' ⟨vm0, locs, k0, X', e', r2, Nat.le_trans r3 E.1, r4, r5, r6.trans (CHr.ext E r6.1), r7, ext_tr r8 E, r9, ?_⟩)
  exact (r10.chr (CHr.ext E r6.1)).cons r8.1 A.lt ((Safe.new (Nat.le_refl _)).ext E r6.1)
theorem Seg.newP {aty : ArrayType} {ty : FieldType} {dv : Value} {z : Int32} (hty : newarray.typeOf aty = ty) (hdv : defaultValue ty = dv) (w : (Cond.arrayClass ty).before a0 Z = true) (hd : decode bytes pc = .ok (.newarray aty, 2)) (hp : pc + 2 = pc') (hz : ¬ z < 0) {cap : Nat} (hcap : z.toNatClampNeg ≤ cap) (hb8 : cap * 8 ≤ 536870912) {k' n' : Nat} (hk : k + 1 = k') (hn : n + cap = n') (hk2 : k' ≤ rm.cells) (hn2 : n' ≤ rm.slots)
    (g : ∀ (x : Addr) (h' : Heap) (kc : ClassId), Ext h h' → h.size = x → x < h'.size → Arv Z h' x kc ty z [] dv → Seg l Z a0 EL y bytes maxL ret rm Q h' k' n' (x :: sf) pc' L (.ref x :: S)) :
    Seg l Z a0 EL y bytes maxL ret rm Q h k n sf pc L (.int z :: S) := by
  subst hp hk hn hty hdv
  intro p e s m args below meth c T C' w'
  obtain ⟨vm0, locs, k0, X, r1, r2, r3, r4, r5, r6, r7, r8, r9, r10⟩ := w'
  obtain ⟨T', h', cA, X', e', E, A, st⟩ := RoadKit.newP X C'.1 r4 w r1 (g := mkF m pc L (.int z :: S)) rfl (hb C'.2.1 hd) rfl hz hcap hb8 hk2 hn2
  have V := Arv.new A hz
  refine Gl.st st (g _ h' cA E rfl A.lt V p e s m args below meth c T' C' ⟨vm0, locs, k0, X', e', r2, Nat.le_trans r3 E.1, r4, r5, r6.trans (CHr.ext E r6.1), r7, ext_tr r8 E, r9, ?_⟩)
  exact (r10.chr (CHr.ext E r6.1)).cons r8.1 A.lt ((Safe.new (Nat.le_refl _)).ext E r6.1)
theorem Seg.getF {R0 O nm d host : String} {idx : Nat} {a : Addr} {v : Value} (w : (Cond.fieldLink y.cls idx R0 nm d).before a0 Z = true ∨ (Cond.fieldLinkNest y.cls idx R0 nm d host).before a0 Z = true) (via : Via Z R0 O nm d) (F : Fld Z h a O nm d v) (hd : decode bytes pc = .ok (.getfield idx, 3)) (hp : pc + 3 = pc')
    (g : Seg l Z a0 EL y bytes maxL ret rm Q h k n sf pc' L (v :: S)) : Seg l Z a0 EL y bytes maxL ret rm Q h k n sf pc L (.ref a :: S) := by
  subst hp
  intro p e s m args below meth c T C' w'
  obtain ⟨vm0, locs, k0, X, r1, r2, r3, r4, r5, r⟩ := w'
  obtain ⟨T', X', e', st⟩ := RoadKit.getF X C'.1 r4 r5 w via r1 F (g := mkF m pc L (.ref a :: S)) rfl rfl (hb C'.2.1 hd)
  exact Gl.st st (g p e s m args below meth c T' C' ⟨vm0, locs, k0, X', e', r2, r3, r4, r5, r⟩)
theorem Seg.getS {R0 O nm d : String} {idx : Nat} {v : Value} (w : (Cond.fieldLink y.cls idx R0 nm d).before a0 Z = true) (via : Via Z R0 O nm d) (F : Sta Z Z.heap O nm d v) (hd : decode bytes pc = .ok (.getstatic idx, 3)) (hp : pc + 3 = pc')
    (g : Seg l Z a0 EL y bytes maxL ret rm Q h k n sf pc' L (v :: S)) : Seg l Z a0 EL y bytes maxL ret rm Q h k n sf pc L S := by
  subst hp
  intro p e s m args below meth c T C' w'
  obtain ⟨vm0, locs, k0, X, r1, r2, r3, r4, r5, r6, r7, r8, r⟩ := w'
  obtain ⟨T', X', e', st⟩ := RoadKit.getS X C'.1 r4 (host := "") r5 w via r1 (F.ext r8) (g := mkF m pc L S) rfl (hb C'.2.1 hd)
  exact Gl.st st (g p e s m args below meth c T' C' ⟨vm0, locs, k0, X', e', r2, r3, r4, r5, r6, r7, r8, r⟩)
theorem Seg.castY {K : String} {idx : Nat} {a : Addr} (w : (Cond.classLink y.cls idx K).before a0 Z = true) (F : Ins Z h a K true) (hd : decode bytes pc = .ok (.checkcast idx, 3)) (hp : pc + 3 = pc')
    (g : Seg l Z a0 EL y bytes maxL ret rm Q h k n sf pc' L (.ref a :: S)) : Seg l Z a0 EL y bytes maxL ret rm Q h k n sf pc L (.ref a :: S) := by
  subst hp
  intro p e s m args below meth c T C' w'
  obtain ⟨vm0, locs, k0, X, r1, r2, r3, r4, r5, r⟩ := w'
  obtain ⟨T', X', e', st⟩ := RoadKit.castY X C'.1 r4 r5 w r1 F (g := mkF m pc L (.ref a :: S)) rfl rfl (hb C'.2.1 hd)
  exact Gl.st st (g p e s m args below meth c T' C' ⟨vm0, locs, k0, X', e', r2, r3, r4, r5, r⟩)
theorem Seg.castNull {idx : Nat} (hd : decode bytes pc = .ok (.checkcast idx, 3)) (hp : pc + 3 = pc')
    (g : Seg l Z a0 EL y bytes maxL ret rm Q h k n sf pc' L (.null :: S)) : Seg l Z a0 EL y bytes maxL ret rm Q h k n sf pc L (.null :: S) := by
  subst hp
  intro p e s m args below meth c T C' w'
  obtain ⟨vm0, locs, k0, X, r⟩ := w'
  exact Gl.st (X.checkcastNull C'.1 (g := mkF m pc L (.null :: S)) rfl rfl (hb C'.2.1 hd)) (g p e s m args below meth c T C' ⟨vm0, locs, k0, X, r⟩)
theorem Seg.instNull {idx : Nat} (hd : decode bytes pc = .ok (.instanceof idx, 3)) (hp : pc + 3 = pc')
    (g : Seg l Z a0 EL y bytes maxL ret rm Q h k n sf pc' L (.int 0 :: S)) : Seg l Z a0 EL y bytes maxL ret rm Q h k n sf pc L (.null :: S) := by
  subst hp
  intro p e s m args below meth c T C' w'
  obtain ⟨vm0, locs, k0, X, r⟩ := w'
  exact Gl.st (X.instanceofNull C'.1 (g := mkF m pc L (.null :: S)) rfl rfl (hb C'.2.1 hd)) (g p e s m args below meth c T C' ⟨vm0, locs, k0, X, r⟩)
theorem Seg.instY {K : String} {idx : Nat} {a : Addr} (w : (Cond.classLink y.cls idx K).before a0 Z = true) (F : Ins Z h a K true) (hd : decode bytes pc = .ok (.instanceof idx, 3)) (hp : pc + 3 = pc')
    (g : Seg l Z a0 EL y bytes maxL ret rm Q h k n sf pc' L (.int 1 :: S)) : Seg l Z a0 EL y bytes maxL ret rm Q h k n sf pc L (.ref a :: S) := by
  subst hp
  intro p e s m args below meth c T C' w'
  obtain ⟨vm0, locs, k0, X, r1, r2, r3, r4, r5, r⟩ := w'
  obtain ⟨T', X', e', st⟩ := RoadKit.instY X C'.1 r4 r5 w r1 F (g := mkF m pc L (.ref a :: S)) rfl rfl (hb C'.2.1 hd)
  exact Gl.st st (g p e s m args below meth c T' C' ⟨vm0, locs, k0, X', e', r2, r3, r4, r5, r⟩)
theorem Seg.instNo {K C : String} {idx : Nat} {a : Addr} (w : (Cond.classLink y.cls idx K).before a0 Z = true) (E : Exa Z h a C) (F : ∃ c t, Z.vm.findClass C = some c ∧ Z.vm.findClass K = some t ∧ Z.vm.assignable c t = false) (hd : decode bytes pc = .ok (.instanceof idx, 3)) (hp : pc + 3 = pc')
    (g : Seg l Z a0 EL y bytes maxL ret rm Q h k n sf pc' L (.int 0 :: S)) : Seg l Z a0 EL y bytes maxL ret rm Q h k n sf pc L (.ref a :: S) := by
  subst hp
  intro p e s m args below meth c T C' w'
  obtain ⟨vm0, locs, k0, X, r1, r2, r3, r4, r5, r⟩ := w'
  obtain ⟨T', X', e', st⟩ := RoadKit.instNo X C'.1 r4 r5 w r1 E F (g := mkF m pc L (.ref a :: S)) rfl rfl (hb C'.2.1 hd)
  exact Gl.st st (g p e s m args below meth c T' C' ⟨vm0, locs, k0, X', e', r2, r3, r4, r5, r⟩)
theorem Seg.initO {idx : Nat} {a : Addr} (w1 : (Cond.methodLink y.cls idx Lib.objectInit).before a0 Z = true) (w2 : (Cond.instanceMethod Lib.objectInit).before a0 Z = true) (w3 : (Cond.code Lib.objectInit ⟨#[0xb1]⟩ 1 none).before a0 Z = true) (hsz : L.size = maxL) (hd : decode bytes pc = .ok (.invokespecial idx, 3)) (hp : pc + 3 = pc') (hf : 1 ≤ rm.frames) {W : Nat} (hW : (S.map fun v => v.category).sum ≤ W) (hl : W + 12 ≤ rm.locals)
    (g : Seg l Z a0 EL y bytes maxL ret rm Q h k n sf pc' L S) : Seg l Z a0 EL y bytes maxL ret rm Q h k n sf pc L (.ref a :: S) := by
  subst hp
  intro p e s m args below meth c T C' w'
  obtain ⟨vm0, locs, k0, X, r1, r2, r3, r4, r5, r⟩ := w'
  obtain ⟨T', X', e', st⟩ := RoadKit.initO X C'.1 r4 r5 w1 w2 w3 r1 (g := mkF m pc L (.ref a :: S)) rfl (hsz.trans C'.2.2.1.symm) rfl (hb C'.2.1 hd) hf (W := W) (by show 2 * 0 + _ ≤ _; omega) hl
  exact Gl.st st (g p e s m args below meth c T' C' ⟨vm0, locs, k0, X', e', r2, r3, r4, r5, r⟩)
theorem wkWr {h' : Heap} {a : Addr} {sl : Nat} {v : Value} {T' : State} {vm0 : Vm} {locs : List Loc} {k0 : Nat} (W : Wr h h' a sl v) (hsf : a ∈ sf) (X' : Stand p l e R (s.setVm vm0) m args below meth c T' (locs ++ [⟨a, sl⟩]) k n) (e' : T'.heap = h')
    (r : s.Since vm0 k0 ∧ k0 ≤ h.size ∧ Z.Warmed39 vm0 ∧ vm0.findClass own = some m.cls ∧ CHr Z EL s.vm s.heap vm0 h ∧ Fr Z.heap.size locs ∧ Ext Z.heap h ∧ EW Z a0 EL ∧ SfOk Z EL vm0 h sf) : Wk p l e R s m args below meth c Z a0 EL own sf k n T' h' := by
  obtain ⟨r2, r3, r4, r5, r6, r7, r8, r9, r10⟩ := r
  obtain ⟨q1, q2, q3⟩ := r10 a hsf
  have A := CHr.wr W q3 r6.1
  exact ⟨vm0, _, k0, X', e', r2, Nat.le_trans r3 A.2.1, r4, r5, r6.trans A, Fr.snoc X' r7 q1, ext_wr r8 W q1, r9, r10.chr A⟩
theorem Seg.putF {R0 O nm d host C : String} {idx kk : Nat} {ty : FieldType} {a : Addr} {v v' old : Value} (w : (Cond.fieldLink y.cls idx R0 nm d).before a0 Z = true) (via : Via Z R0 O nm d) (F : Fld Z h a O nm d old) (E : Exa Z h a C) (Lw : (Cond.lays C O nm d).before a0 Z = true ∨ ((Cond.laysFinal C O nm d).before a0 Z = true ∧ y.cls = O ∧ y.name = "<init>")) (wi : (Cond.instantiable C kk).before a0 Z = true)
    (hty : parseFieldDescriptor d = some ty) (hnw : narrow ty v = v') (hf : fits ty v' = true) (hsf : a ∈ sf) (hd : decode bytes pc = .ok (.putfield idx, 3)) (hp : pc + 3 = pc')
    (g : ∀ h', Wr h h' a (RoadKit.slotOf Z O nm d) v' → Fld Z h' a O nm d v' → Seg l Z a0 EL y bytes maxL ret rm Q h' k n sf pc' L S) : Seg l Z a0 EL y bytes maxL ret rm Q h k n sf pc L (v :: .ref a :: S) := by
  subst hp
  intro p e s m args below meth c T C' w'
  obtain ⟨vm0, locs, k0, X, r1, r2, r3, r4, r5, r⟩ := w'
  obtain ⟨T', h', X', e', W, st⟩ := RoadKit.putFN X C'.1 r4 r5 w via r1 F E (Lw.imp id fun q => ⟨q.1, q.2.1, C'.2.2.2.2.2.trans q.2.2⟩) wi hty hnw hf (g := mkF m pc L (v :: .ref a :: S)) rfl rfl (hb C'.2.1 hd)
  exact Gl.st st (g h' W (F.same W) p e s m args below meth c T' C' (wkWr W hsf X' e' ⟨r2, r3, r4, r5, r⟩))
theorem Seg.castore {a : Addr} {kc : ClassId} {z j v v' : Int32} {vs : List Value} {dv : Value} {i : Nat} (F : Arv Z h a kc .char z vs dv) (hj : ¬ j < 0 ∧ j < z) (hi : j.toNatClampNeg = i) (hil : i < vs.length) (hv : nar .char v = v') (hsf : a ∈ sf) (hd : decode bytes pc = .ok (.castore, 1)) (hp : pc + 1 = pc')
    (g : ∀ h', Wr h h' a i (.int v') → Arv Z h' a kc .char z (vs.set i (.int v')) dv → Seg l Z a0 EL y bytes maxL ret rm Q h' k n sf pc' L S) : Seg l Z a0 EL y bytes maxL ret rm Q h k n sf pc L (.int v :: .int j :: .ref a :: S) := by
  subst hp hv hi
  intro p e s m args below meth c T C' w'
  obtain ⟨vm0, locs, k0, X, r1, r2, r3, r4, r5, r⟩ := w'
  obtain ⟨cl, A, q, Sz, N, H, G⟩ := F
  obtain ⟨T', h', X', e', W, st⟩ := RoadKit.stC X C'.1 r4 r1 A (inb_of Sz hj) (g := mkF m pc L (.int v :: .int j :: .ref a :: S)) rfl rfl (hb C'.2.1 hd)
  exact Gl.st st (g h' W (Arv.set A q Sz N H G (fits_nar_char _) W _ rfl hil) p e s m args below meth c T' C' (wkWr W hsf X' e' ⟨r2, r3, r4, r5, r⟩))
theorem Seg.bastore {a : Addr} {kc : ClassId} {z j v v' : Int32} {vs : List Value} {dv : Value} {i : Nat} (F : Arv Z h a kc .byte z vs dv) (hj : ¬ j < 0 ∧ j < z) (hi : j.toNatClampNeg = i) (hil : i < vs.length) (hv : nar .byte v = v') (hsf : a ∈ sf) (hd : decode bytes pc = .ok (.bastore, 1)) (hp : pc + 1 = pc')
    (g : ∀ h', Wr h h' a i (.int v') → Arv Z h' a kc .byte z (vs.set i (.int v')) dv → Seg l Z a0 EL y bytes maxL ret rm Q h' k n sf pc' L S) : Seg l Z a0 EL y bytes maxL ret rm Q h k n sf pc L (.int v :: .int j :: .ref a :: S) := by
  subst hp hv hi
  intro p e s m args below meth c T C' w'
  obtain ⟨vm0, locs, k0, X, r1, r2, r3, r4, r5, r⟩ := w'
  obtain ⟨cl, A, q, Sz, N, H, G⟩ := F
  obtain ⟨T', h', X', e', W, st⟩ := RoadKit.stB X C'.1 r4 r1 A (inb_of Sz hj) (g := mkF m pc L (.int v :: .int j :: .ref a :: S)) rfl rfl (hb C'.2.1 hd)
  exact Gl.st st (g h' W (Arv.set A q Sz N H G (fits_nar_byte _) W _ rfl hil) p e s m args below meth c T' C' (wkWr W hsf X' e' ⟨r2, r3, r4, r5, r⟩))
theorem Seg.iastore {a : Addr} {kc : ClassId} {z j v : Int32} {vs : List Value} {dv : Value} {i : Nat} (F : Arv Z h a kc .int z vs dv) (hj : ¬ j < 0 ∧ j < z) (hi : j.toNatClampNeg = i) (hil : i < vs.length) (hsf : a ∈ sf) (hd : decode bytes pc = .ok (.iastore, 1)) (hp : pc + 1 = pc')
    (g : ∀ h', Wr h h' a i (.int v) → Arv Z h' a kc .int z (vs.set i (.int v)) dv → Seg l Z a0 EL y bytes maxL ret rm Q h' k n sf pc' L S) : Seg l Z a0 EL y bytes maxL ret rm Q h k n sf pc L (.int v :: .int j :: .ref a :: S) := by
  subst hp hi
  intro p e s m args below meth c T C' w'
  obtain ⟨vm0, locs, k0, X, r1, r2, r3, r4, r5, r⟩ := w'
  obtain ⟨cl, A, q, Sz, N, H, G⟩ := F
  obtain ⟨T', h', X', e', W, st⟩ := RoadKit.stI X C'.1 r4 r1 A (inb_of Sz hj) (g := mkF m pc L (.int v :: .int j :: .ref a :: S)) rfl rfl (hb C'.2.1 hd)
  exact Gl.st st (g h' W (Arv.set A q Sz N H G rfl W _ rfl hil) p e s m args below meth c T' C' (wkWr W hsf X' e' ⟨r2, r3, r4, r5, r⟩))
theorem Seg.caload {a : Addr} {kc : ClassId} {z j : Int32} {vs : List Value} {dv v : Value} (F : Arv Z h a kc .char z vs dv) (hj : ¬ j < 0 ∧ j < z) (hv : vs.getD j.toNatClampNeg dv = v) (hd : decode bytes pc = .ok (.caload, 1)) (hp : pc + 1 = pc')
    (g : Seg l Z a0 EL y bytes maxL ret rm Q h k n sf pc' L (v :: S)) : Seg l Z a0 EL y bytes maxL ret rm Q h k n sf pc L (.int j :: .ref a :: S) := by
  subst hp
  intro p e s m args below meth c T C' w'
  obtain ⟨vm0, locs, k0, X, r1, r2, r3, r4, r⟩ := w'
  obtain ⟨cl, A, q, Sz, N, H, G⟩ := F
  exact Gl.st (X.caload C'.1 (by rw [r1]; exact A.1) (State.isArrayOf_alike r4.alike A.2.1) A.2.2 (inb_of Sz hj) (H.at (inb_of Sz hj) hv) (g := mkF m pc L (.int j :: .ref a :: S)) rfl rfl (hb C'.2.1 hd)) (g p e s m args below meth c T C' ⟨vm0, locs, k0, X, r1, r2, r3, r4, r⟩)
theorem Seg.baload {a : Addr} {kc : ClassId} {z j : Int32} {vs : List Value} {dv v : Value} (F : Arv Z h a kc .byte z vs dv) (hj : ¬ j < 0 ∧ j < z) (hv : vs.getD j.toNatClampNeg dv = v) (hd : decode bytes pc = .ok (.baload, 1)) (hp : pc + 1 = pc')
    (g : Seg l Z a0 EL y bytes maxL ret rm Q h k n sf pc' L (v :: S)) : Seg l Z a0 EL y bytes maxL ret rm Q h k n sf pc L (.int j :: .ref a :: S) := by
  subst hp
  intro p e s m args below meth c T C' w'
  obtain ⟨vm0, locs, k0, X, r1, r2, r3, r4, r⟩ := w'
  obtain ⟨cl, A, q, Sz, N, H, G⟩ := F
  exact Gl.st (X.baloadBytes C'.1 (by rw [r1]; exact A.1) (State.isArrayOf_alike r4.alike A.2.1) A.2.2 (inb_of Sz hj) (H.at (inb_of Sz hj) hv) (g := mkF m pc L (.int j :: .ref a :: S)) rfl rfl (hb C'.2.1 hd)) (g p e s m args below meth c T C' ⟨vm0, locs, k0, X, r1, r2, r3, r4, r⟩)
theorem Seg.iaload {a : Addr} {kc : ClassId} {z j : Int32} {vs : List Value} {dv v : Value} (F : Arv Z h a kc .int z vs dv) (hj : ¬ j < 0 ∧ j < z) (hv : vs.getD j.toNatClampNeg dv = v) (hd : decode bytes pc = .ok (.iaload, 1)) (hp : pc + 1 = pc')
    (g : Seg l Z a0 EL y bytes maxL ret rm Q h k n sf pc' L (v :: S)) : Seg l Z a0 EL y bytes maxL ret rm Q h k n sf pc L (.int j :: .ref a :: S) := by
  subst hp
  intro p e s m args below meth c T C' w'
  obtain ⟨vm0, locs, k0, X, r1, r2, r3, r4, r⟩ := w'
  obtain ⟨cl, A, q, Sz, N, H, G⟩ := F
  exact Gl.st (X.iaload C'.1 (by rw [r1]; exact A.1) (State.isArrayOf_alike r4.alike A.2.1) A.2.2 (inb_of Sz hj) (H.at (inb_of Sz hj) hv) (g := mkF m pc L (.int j :: .ref a :: S)) rfl rfl (hb C'.2.1 hd)) (g p e s m args below meth c T C' ⟨vm0, locs, k0, X, r1, r2, r3, r4, r⟩)
theorem Seg.aaload {a : Addr} {kc : ClassId} {z j : Int32} {ty : FieldType} {vs : List Value} {dv v : Value} (hty : ty.isReference = true) (F : Arv Z h a kc ty z vs dv) (hj : ¬ j < 0 ∧ j < z) (hv : vs.getD j.toNatClampNeg dv = v) (hd : decode bytes pc = .ok (.aaload, 1)) (hp : pc + 1 = pc')
    (g : Seg l Z a0 EL y bytes maxL ret rm Q h k n sf pc' L (v :: S)) : Seg l Z a0 EL y bytes maxL ret rm Q h k n sf pc L (.int j :: .ref a :: S) := by
  subst hp
  intro p e s m args below meth c T C' w'
  obtain ⟨vm0, locs, k0, X, r1, r2, r3, r4, r⟩ := w'
  obtain ⟨cl, A, q, Sz, N, H, G⟩ := F
  exact Gl.st (X.aaload C'.1 (by rw [r1]; exact A.1) (State.isArrayOf_alike r4.alike A.2.1) hty A.2.2 (inb_of Sz hj) (H.at (inb_of Sz hj) hv) (g := mkF m pc L (.int j :: .ref a :: S)) rfl rfl (hb C'.2.1 hd)) (g p e s m args below meth c T C' ⟨vm0, locs, k0, X, r1, r2, r3, r4, r⟩)
theorem Seg.alen {a : Addr} {kc : ClassId} {z : Int32} {ty : FieldType} {vs : List Value} {dv : Value} (F : Arv Z h a kc ty z vs dv) (hd : decode bytes pc = .ok (.arraylength, 1)) (hp : pc + 1 = pc')
    (g : Seg l Z a0 EL y bytes maxL ret rm Q h k n sf pc' L (.int z :: S)) : Seg l Z a0 EL y bytes maxL ret rm Q h k n sf pc L (.ref a :: S) := by
  subst hp
  intro p e s m args below meth c T C' w'
  obtain ⟨vm0, locs, k0, X, r1, r2, r3, r4, r⟩ := w'
  obtain ⟨cl, A, q, Sz, N, H, G⟩ := F
  refine Gl.st (fun t hr => X.arraylength C'.1 (by rw [r1]; exact A.1) (State.isArrayOf_alike r4.alike A.2.1) (g := mkF m pc L (.ref a :: S)) rfl rfl (hb C'.2.1 hd) t ?_) (g p e s m args below meth c T C' ⟨vm0, locs, k0, X, r1, r2, r3, r4, r⟩)
  rw [len_of Sz N]; exact hr
theorem Seg.ldcI {idx : Nat} {v : Int32} (w : (Cond.constant y.cls idx v).before a0 Z = true) (hd : decode bytes pc = .ok (.ldc idx, 2)) (hp : pc + 2 = pc')
    (g : Seg l Z a0 EL y bytes maxL ret rm Q h k n sf pc' L (.int v :: S)) : Seg l Z a0 EL y bytes maxL ret rm Q h k n sf pc L S := by
  subst hp
  intro p e s m args below meth c T C' w'
  obtain ⟨vm0, locs, k0, X, r1, r2, r3, r4, r5, r⟩ := w'
  exact Gl.st (fun t hr => X.ldcI C'.1 r5 (mv r4 w) (g := mkF m pc L S) rfl (hb C'.2.1 hd) hr) (g p e s m args below meth c T C' ⟨vm0, locs, k0, X, r1, r2, r3, r4, r5, r⟩)
theorem Seg.ldcWI {idx : Nat} {v : Int32} (w : (Cond.constant y.cls idx v).before a0 Z = true) (hd : decode bytes pc = .ok (.ldc_w idx, 3)) (hp : pc + 3 = pc')
    (g : Seg l Z a0 EL y bytes maxL ret rm Q h k n sf pc' L (.int v :: S)) : Seg l Z a0 EL y bytes maxL ret rm Q h k n sf pc L S := by
  subst hp
  intro p e s m args below meth c T C' w'
  obtain ⟨vm0, locs, k0, X, r1, r2, r3, r4, r5, r⟩ := w'
  exact Gl.st (fun t hr => X.ldcWI C'.1 r5 (mv r4 w) (g := mkF m pc L S) rfl (hb C'.2.1 hd) hr) (g p e s m args below meth c T C' ⟨vm0, locs, k0, X, r1, r2, r3, r4, r5, r⟩)
theorem Seg.ldc2J {idx : Nat} {v : Int64} (w : (Cond.constantLong y.cls idx v).before a0 Z = true) (hd : decode bytes pc = .ok (.ldc2_w idx, 3)) (hp : pc + 3 = pc')
    (g : Seg l Z a0 EL y bytes maxL ret rm Q h k n sf pc' L (.long v :: S)) : Seg l Z a0 EL y bytes maxL ret rm Q h k n sf pc L S := by
  subst hp
  intro p e s m args below meth c T C' w'
  obtain ⟨vm0, locs, k0, X, r1, r2, r3, r4, r5, r⟩ := w'
  exact Gl.st (fun t hr => X.ldc2J C'.1 r5 (mv r4 w) (g := mkF m pc L S) rfl (hb C'.2.1 hd) hr) (g p e s m args below meth c T C' ⟨vm0, locs, k0, X, r1, r2, r3, r4, r5, r⟩)
/-- ldc of a String constant whose text the sheet assumes held -/
theorem Seg.ldcS {idx nn : Nat} {text : String} {vs : List Value} {z : Int32} (w : (Cond.stringLink y.cls idx text).before a0 Z = true) (wS : ∀ a ∈ Bundle.stringAtoms, a.before a0 Z = true) (hmem : (y.cls, idx) ∈ EL)
    (ht : (∀ c ∈ text.toList, c.toNat < 256) ∧ text.toList.map (fun c => Value.int (Jvm.Lit.byteI c.toNat.toUInt16)) = vs) (hz : ¬ z < 0) (hl : z.toNatClampNeg = vs.length)
    (hd : decode bytes pc = .ok (.ldc idx, 2)) (hp : pc + 2 = pc') (hnn : 4 * text.toList.length ≤ nn) (hbig : nn ≤ 536870912) {k' n' : Nat} (hk : k + 2 = k') (hn : n + (nn + 4) = n') (hk2 : k' ≤ rm.cells) (hn2 : n' ≤ rm.slots)
    (g : ∀ (a : Addr) (h' : Heap) (b : Addr) (kb : ClassId), Ext h h' → Exa Z h' a "java/lang/String" → Fld Z h' a "java/lang/String" "coder" "B" (.int 0) → Fld Z h' a "java/lang/String" "value" "[B" (.ref b) → Arv Z h' b kb .byte z vs (.int 0) → (∀ x ∈ sf, x ≠ a ∧ x ≠ b) → Seg l Z a0 EL y bytes maxL ret rm Q h' k' n' sf pc' L (.ref a :: S)) :
    Seg l Z a0 EL y bytes maxL ret rm Q h k n sf pc L S := by
  subst hp hk hn
  intro p e s m args below meth c T C' w'
  obtain ⟨vm0, locs, k0, X, r1, r2, r3, r4, r5, r6, r7, r8, r9, r10⟩ := w'
  obtain ⟨a, T', h', k1, b, kb, X', e', E, q1, q2, q3, q4, f1, f2, f3, f4, -, -, f5, -, f6, st⟩ := RoadKit.ldcCH X C'.1 r4 r5 w wS r1 r2 r3 r9 hmem r6.1 ht hz hl (g := mkF m pc L S) rfl (hb C'.2.1 hd) hnn hbig hk2 hn2
  have r10' := r10.chr f5
  exact Gl.st st (g a h' b kb E f1 f2 f3 f4 (fun x hx => f6 x (r10' x hx).2.2) p e s m args below meth c T' C' ⟨T'.vm, locs, k1, X', e', q1, q2, q3, q4, r6.trans f5, r7, ext_tr r8 E, r9, r10'⟩)
/-- ldc of a String constant, its text unread -/
theorem Seg.ldcO {idx nn : Nat} {text : String} (w : (Cond.stringLink y.cls idx text).before a0 Z = true) (wS : ∀ a ∈ Bundle.stringAtoms, a.before a0 Z = true)
    (hd : decode bytes pc = .ok (.ldc idx, 2)) (hp : pc + 2 = pc') (hnn : 4 * text.toList.length ≤ nn) (hbig : nn ≤ 536870912) {k' n' : Nat} (hk : k + 2 = k') (hn : n + (nn + 4) = n') (hk2 : k' ≤ rm.cells) (hn2 : n' ≤ rm.slots)
    (g : ∀ (a : Addr) (h' : Heap), Ext h h' → Seg l Z a0 EL y bytes maxL ret rm Q h' k' n' sf pc' L (.ref a :: S)) :
    Seg l Z a0 EL y bytes maxL ret rm Q h k n sf pc L S := by
  subst hp hk hn
  intro p e s m args below meth c T C' w'
  obtain ⟨vm0, locs, k0, X, r1, r2, r3, r4, r5, r6, r7, r8, r9, r10⟩ := w'
  obtain ⟨a, T', h', k1, X', e', E, q1, q2, q3, q4, f5, -, st⟩ := RoadKit.ldcOH X C'.1 r4 r5 w wS r1 r2 r3 r9 r6.1 (g := mkF m pc L S) rfl (hb C'.2.1 hd) hnn hbig hk2 hn2
  exact Gl.st st (g a h' E p e s m args below meth c T' C' ⟨T'.vm, locs, k1, X', e', q1, q2, q3, q4, r6.trans f5, r7, ext_tr r8 E, r9, r10.chr f5⟩)
end Heap
section Calls
variable {l : Launch} {Z : State} {a0 : Array Value} {EL : List (String × Nat)} {y : MethodName} {bytes : ByteArray} {maxL : Nat} {ret : Option FieldType} {rm : Room} {Q : Option Value → Heap → Prop} {h : Heap} {k n : Nat} {sf : List Addr} {pc pc' : Nat} {L : Array Slot} {S : List Value}
/-- WHO PAYS a call of y with the arguments as' at the heap h -/
def Pays (l : Launch) (R : Room) (Z : State) (a0 : Array Value) (EL : List (String × Nat)) (sf : List Addr) (y : MethodName) (len W : Nat) (as' : Array Value) (h : Heap) (rc rs : Nat) (Q : Option Value → Heap → Prop) : Prop :=
  ∀ (p : Program) (e : Env) (below : List Frame) (s : State) (args : Array Value) (vm0 : Vm), Z.Warmed39 vm0 → CHv Z EL vm0 h → SfOk Z EL vm0 h sf → Ext Z.heap h → EW Z a0 EL →
    BackS l R p e below (s.setVm vm0) args y len W (fun A a => a = as' ∧ A.U.heap = h ∧ A.cells + rc ≤ R.cells ∧ A.slots + rs ≤ R.slots)
      (fun A _ v B => ∃ L, (Fr Z.heap.size L ∧ Ext Z.heap B.U.heap ∧ Q v B.U.heap) ∧ B.locs = A.locs ++ L ∧ B.cells = A.cells + rc ∧ B.slots = A.slots + rs ∧ CHr Z EL vm0 h B.U.vm B.U.heap)
theorem Pays.of_ct {R : Room} {as' : Array Value} {rc rs len W : Nat} {sf' : List Addr} (hM : Ct l Z EL sf' [] y bytes maxL ret rm as' h Q) (hsf : ∀ x ∈ sf', x ∈ sf) (wc : (Jvm.Cond.code y bytes maxL ret).before a0 Z = true) (wz : (Jvm.Cond.initialized y.cls).before a0 Z = true) (hf : rm.frames + 1 ≤ R.frames) (hl : W + (maxL + 11) + rm.locals ≤ R.locals) (hrc : rm.cells = rc) (hrs : rm.slots = rs) :
    Pays l R Z a0 EL sf y len W as' h rc rs Q := by
  subst hrc hrs
  intro p e below s args vm0 hZ H hS hE hEL
  refine BackS.of_freeW (bytes := bytes) (maxL := maxL) (ret := ret) (E := fun _ first o t L k n => k = rm.cells ∧ n = rm.slots ∧ (∃ v, o = .returned v ∧ (Fr Z.heap.size L ∧ Ext Z.heap t.heap ∧ Q v t.heap)) ∧ CHr Z EL first.vm first.heap t.vm t.heap) hM hf hl
    (fun m meth c A a Y hp => have hU : Z.Warmed39 A.U.vm := wtrans (s := s.setVm vm0) hZ Y.warmed
      ⟨by show (Cond.and _ .tt).before a A.U = true; rw [Cond.before_and, mv hU wc]; rfl, mv hU wc, mv hU wz, hp.2.2.1, hp.2.2.2⟩)
    (fun m meth c A a g mk Y hp => have q := CHv.at Y hZ hEL H; ⟨hp.1, wtrans (s := s.setVm vm0) hZ Y.warmed, hp.2.1, q.1, (hS.sub hsf).chr q, hE⟩) (fun _ _ _ _ _ _ _ _ _ => trivial)
    (fun _ _ _ _ ⟨v, L, h1, h2, h3, h4⟩ => ⟨L, _, _, h4, rfl, rfl, ⟨v, h1, h2⟩, h3⟩)
    (fun m meth c A a g mk v t L k n Y hp _ _ ⟨e1, e2, ⟨v', e3, e4⟩, e5⟩ => ?_)
  cases e3; subst e1 e2
  refine ⟨L, e4, rfl, rfl, rfl, (CHv.at Y hZ hEL H).trans ?_⟩
  rw [← hp.2.1]; exact e5
theorem Pays.of_back {R : Room} {as' : Array Value} {rc rs len W : Nat} {ws : List Addr} {QL : Option Value → Heap → List Loc → Prop}
    (hK : ∀ (p : Program) (e : Env) (below : List Frame) (s : State) (args : Array Value), Z.Warmed39 s.vm → Ext Z.heap h → (∀ x ∈ sf, Z.heap.size ≤ x) → Back l R p e below s args y len W (fun A a => a = as' ∧ A.U.heap = h ∧ A.cells + rc ≤ R.cells ∧ A.slots + rs ≤ R.slots) (fun A _ v B => ∃ L, QL v B.U.heap L ∧ B.locs = A.locs ++ L ∧ B.cells = A.cells + rc ∧ B.slots = A.slots + rs))
    (hws : ∀ x ∈ ws, x ∈ sf) (hQ : ∀ v h' L, Ext Z.heap h → QL v h' L → Fr Z.heap.size L ∧ Keep h h' ws ∧ Q v h') :
    Pays l R Z a0 EL sf y len W as' h rc rs Q := by
  intro p e below s args vm0 hZ H hS hE hEL m meth c A g ig mk a X hg hsize hdg hW hn hp
  obtain ⟨v, B, X', ⟨L, q, hl, hc, hs⟩, hsteps⟩ := hK p e below (s.setVm vm0) args hZ hE (fun x hx => (hS x hx).1) m meth c A g ig mk a X hg hsize hdg hW hn hp
  obtain ⟨q1, q2, q3⟩ := hQ _ _ _ hE q
  have A1 := CHr.keep q2 (hS.safes hws) H
  have A2 := CHv.at X' hZ hEL A1.1
  refine ⟨v, B, X'.retabled X'.warmed.wide, X'.warmed.since _, by rw [hp.2.1]; exact q2.1, ⟨L, ⟨q1, ext_kp hE q2 (fun x hx => (hS x (hws x hx)).1), q3⟩, hl, hc, hs, A1.trans A2⟩, hsteps⟩
section Use
variable {y' : MethodName} {as' : Array Value} {rc rs W : Nat} {Q' : Option Value → Heap → Prop} {idx : Nat} {argsL rest : List Value} {k' n' : Nat}
theorem wkBack {p : Program} {e : Env} {R : Room} {s : State} {m : MethodId} {args : Array Value} {below : List Frame} {meth : Method} {c : Code} {own : String} {vm0 : Vm} {locs L0 : List Loc} {k0 : Nat} {B : Pt}
    (r : s.Since vm0 k0 ∧ k0 ≤ h.size ∧ Z.Warmed39 vm0 ∧ vm0.findClass own = some m.cls ∧ CHr Z EL s.vm s.heap vm0 h ∧ Fr Z.heap.size locs ∧ Ext Z.heap h ∧ EW Z a0 EL ∧ SfOk Z EL vm0 h sf)
    (X' : Stand p l e R ((s.setVm vm0).setVm B.U.vm) m args below meth c B.U B.locs B.cells B.slots) (hS : (s.setVm vm0).Since B.U.vm B.U.heap.size) (hg : h.size ≤ B.U.heap.size) (q1 : Fr Z.heap.size L0 ∧ Ext Z.heap B.U.heap) (hl : B.locs = locs ++ L0) (hc : B.cells = k') (hs : B.slots = n') (q : CHr Z EL vm0 h B.U.vm B.U.heap) :
    Wk p l e R s m args below meth c Z a0 EL own sf k' n' B.U B.U.heap := by
  obtain ⟨r2, r3, r4, r5, r6, r7, r8, r9, r10⟩ := r
  obtain ⟨X1, S1, Z1, o1⟩ := rebS r2 r3 X' hS hg r4 r5
  rw [hl, hc, hs] at X1
  exact ⟨B.U.vm, _, _, X1, rfl, S1, Nat.le_refl _, Z1, o1, r6.trans q, r7.app q1.1, q1.2, r9, r10.chr q⟩
theorem Seg.callS {bytes' : ByteArray} {maxL' : Nat} {ret' : Option FieldType} (w1 : (Cond.methodLink y.cls idx y').before a0 Z = true) (w2 : (Cond.static y').before a0 Z = true) (w3 : (Cond.initialized y'.cls).before a0 Z = true) (w4 : (Cond.code y' bytes' maxL' ret').before a0 Z = true) (hy : y'.cls ≠ "java/lang/invoke/MethodHandle" ∧ y'.cls ≠ "java/lang/invoke/VarHandle")
    (hP : Pays l rm Z a0 EL sf y' 3 W as' h rc rs Q') (has : argsL.toArray = as') (hlen : ∀ sig, parseMethodDescriptor y'.desc = some sig → argsL.length = sig.parameters.length) (hst : S = argsL.reverse ++ rest) (hW : (rest.map fun v => v.category).sum ≤ W) (hsz : L.size = maxL) (hd : decode bytes pc = .ok (.invokestatic idx, 3)) (hp : pc + 3 = pc')
    (hk : k + rc = k') (hn : n + rs = n') (hk2 : k' ≤ rm.cells) (hn2 : n' ≤ rm.slots)
    (g : ∀ (v : Option Value) (h' : Heap), h.size ≤ h'.size → Q' v h' → Seg l Z a0 EL y bytes maxL ret rm Q h' k' n' sf pc' L (v.toList ++ rest)) : Seg l Z a0 EL y bytes maxL ret rm Q h k n sf pc L S := by
  subst hp hk hn hst has
  intro p e s m args below meth c T C' w'
  obtain ⟨vm0, locs, k0, X, r1, r2, r3, r4, r5, r6, r7, r8, r9, r10⟩ := w'
  obtain ⟨v, vm1, B, -, X', hS, hg, ⟨L0, ⟨q1, q2, q3⟩, hl, hc, hs, q4⟩, st⟩ := callSS X C'.1 r5 (mvT r4 w1) (mvT r4 w2) (mvT r4 w3) (mvT r4 w4) hy (hP p e below s args vm0 r4 r6.1 r10 r8 r9) (g := mkF m pc L (argsL.reverse ++ rest)) rfl (hsz.trans C'.2.2.1.symm) (argsL := argsL) (rest := rest) hlen rfl (by show 2 * 0 + _ ≤ _; omega) (hb C'.2.1 hd) (fun _ _ => ⟨rfl, r1, hk2, hn2⟩)
  rw [r1] at hg
  exact Gl.st (fun t hr => st.trans hr) (g v B.U.heap hg q3 p e s m args below meth c B.U C' (wkBack ⟨r2, r3, r4, r5, r6, r7, r8, r9, r10⟩ X' hS hg ⟨q1, q2⟩ hl hc hs q4))
theorem Seg.callN {bytes' : ByteArray} {maxL' : Nat} {a : Addr} (hy1 : y'.name = "<init>") (w1 : (Cond.methodLink y.cls idx y').before a0 Z = true) (w2 : (Cond.instanceMethod y').before a0 Z = true) (w4 : (Cond.code y' bytes' maxL' none).before a0 Z = true) (hy : y'.cls ≠ "java/lang/invoke/MethodHandle" ∧ y'.cls ≠ "java/lang/invoke/VarHandle")
    (hP : Pays l rm Z a0 EL sf y' 3 W as' h rc rs Q') (has : (.ref a :: argsL).toArray = as') (hlen : ∀ sig, parseMethodDescriptor y'.desc = some sig → argsL.length = sig.parameters.length) (hst : S = argsL.reverse ++ .ref a :: rest) (hW : (rest.map fun v => v.category).sum ≤ W) (hsz : L.size = maxL) (hd : decode bytes pc = .ok (.invokespecial idx, 3)) (hp : pc + 3 = pc')
    (hk : k + rc = k') (hn : n + rs = n') (hk2 : k' ≤ rm.cells) (hn2 : n' ≤ rm.slots)
    (g : ∀ (v : Option Value) (h' : Heap), h.size ≤ h'.size → Q' v h' → Seg l Z a0 EL y bytes maxL ret rm Q h' k' n' sf pc' L (v.toList ++ rest)) : Seg l Z a0 EL y bytes maxL ret rm Q h k n sf pc L S := by
  subst hp hk hn hst has
  intro p e s m args below meth c T C' w'
  obtain ⟨vm0, locs, k0, X, r1, r2, r3, r4, r5, r6, r7, r8, r9, r10⟩ := w'
  obtain ⟨v, vm1, B, -, X', hS, hg, ⟨L0, ⟨q1, q2, q3⟩, hl, hc, hs, q4⟩, st⟩ := X.specialBackS C'.1 hy1 r5 (mvT r4 w1) (mvT r4 w2) (mvT r4 w4) hy (hP p e below s args vm0 r4 r6.1 r10 r8 r9) (g := mkF m pc L (argsL.reverse ++ .ref a :: rest)) rfl (hsz.trans C'.2.2.1.symm) (Steps.refl _) (a := a) (argsL := argsL) (rest := rest) hlen rfl (by show 2 * 0 + _ ≤ _; omega) (hb C'.2.1 hd) (fun _ _ => ⟨rfl, r1, hk2, hn2⟩)
  rw [r1] at hg
  exact Gl.st (fun t hr => st.trans hr) (g v B.U.heap hg q3 p e s m args below meth c B.U C' (wkBack ⟨r2, r3, r4, r5, r6, r7, r8, r9, r10⟩ X' hS hg ⟨q1, q2⟩ hl hc hs q4))
theorem Seg.callV {z : MethodName} {C : String} {a : Addr} (w1 : (Cond.methodLink y.cls idx y').before a0 Z = true) (w2 : (Cond.declares y').before a0 Z = true) (hnf : ∀ (s : State) (vm0 : Vm), Z.Warmed39 vm0 → Free.NotFace (s.setVm vm0) y') (w3 : (Cond.selects C y' z).before a0 Z = true) (w4 : (Cond.instanceMethod z).before a0 Z = true) (hy : y'.cls ≠ "java/lang/invoke/MethodHandle" ∧ y'.cls ≠ "java/lang/invoke/VarHandle") (E : Exa Z h a C)
    (hP : Pays l rm Z a0 EL sf z 3 W as' h rc rs Q') (has : (.ref a :: argsL).toArray = as') (hlen : ∀ sig, parseMethodDescriptor y'.desc = some sig → argsL.length = sig.parameters.length) (hst : S = argsL.reverse ++ .ref a :: rest) (hW : (rest.map fun v => v.category).sum ≤ W) (hsz : L.size = maxL) (hd : decode bytes pc = .ok (.invokevirtual idx, 3)) (hp : pc + 3 = pc')
    (hk : k + rc = k') (hn : n + rs = n') (hk2 : k' ≤ rm.cells) (hn2 : n' ≤ rm.slots)
    (g : ∀ (v : Option Value) (h' : Heap), h.size ≤ h'.size → Q' v h' → Seg l Z a0 EL y bytes maxL ret rm Q h' k' n' sf pc' L (v.toList ++ rest)) : Seg l Z a0 EL y bytes maxL ret rm Q h k n sf pc L S := by
  subst hp hk hn hst has
  intro p e s m args below meth c T C' w'
  obtain ⟨vm0, locs, k0, X, r1, r2, r3, r4, r5, r6, r7, r8, r9, r10⟩ := w'
  obtain ⟨cq, kq, qa, qb, qc⟩ := isOf (s := s.setVm vm0) r4 r1 E
  obtain ⟨v, vm1, B, -, X', hS, hg, ⟨L0, ⟨q1, q2, q3⟩, hl, hc, hs, q4⟩, st⟩ := X.virtualBackS C'.1 r5 (mvT r4 w1) (mvT r4 w2) (hnf s vm0 r4) (mvT r4 w3) (mvT r4 w4) hy (hP p e below s args vm0 r4 r6.1 r10 r8 r9) qa qc (g := mkF m pc L (argsL.reverse ++ .ref a :: rest)) rfl (hsz.trans C'.2.2.1.symm) (Steps.refl _) (argsL := argsL) (rest := rest) hlen rfl (by show 2 * 0 + _ ≤ _; omega) (hb C'.2.1 hd) (fun _ _ => ⟨rfl, r1, hk2, hn2⟩)
  rw [r1] at hg
  exact Gl.st (fun t hr => st.trans hr) (g v B.U.heap hg q3 p e s m args below meth c B.U C' (wkBack ⟨r2, r3, r4, r5, r6, r7, r8, r9, r10⟩ X' hS hg ⟨q1, q2⟩ hl hc hs q4))
theorem Seg.callI {z : MethodName} {C : String} {a : Addr} {count : Nat} (w1 : (Cond.methodLink y.cls idx y').before a0 Z = true) (w2 : (Cond.declares y').before a0 Z = true) (w5 : (Cond.interfaceMethod y'.cls y'.cls y'.name y'.desc).before a0 Z = true) (hw5 : ((Cond.interfaceMethod y'.cls y'.cls y'.name y'.desc).onTables && (Cond.interfaceMethod y'.cls y'.cls y'.name y'.desc).keepsFace) = true) (w3 : (Cond.selects C y' z).before a0 Z = true) (w4 : (Cond.instanceMethod z).before a0 Z = true) (w6 : (Cond.publicMethod z).before a0 Z = true) (w7 : (Cond.unhidden C y'.name y'.desc).before a0 Z = true) (w8 : (Cond.castable C y'.cls).before a0 Z = true) (hy : y'.cls ≠ "java/lang/invoke/MethodHandle" ∧ y'.cls ≠ "java/lang/invoke/VarHandle") (E : Exa Z h a C)
    (hP : Pays l rm Z a0 EL sf z 5 W as' h rc rs Q') (has : (.ref a :: argsL).toArray = as') (hlen : ∀ sig, parseMethodDescriptor y'.desc = some sig → argsL.length = sig.parameters.length) (hst : S = argsL.reverse ++ .ref a :: rest) (hW : (rest.map fun v => v.category).sum ≤ W) (hsz : L.size = maxL) (hd : decode bytes pc = .ok (.invokeinterface idx count, 5)) (hp : pc + 5 = pc')
    (hk : k + rc = k') (hn : n + rs = n') (hk2 : k' ≤ rm.cells) (hn2 : n' ≤ rm.slots)
    (g : ∀ (v : Option Value) (h' : Heap), h.size ≤ h'.size → Q' v h' → Seg l Z a0 EL y bytes maxL ret rm Q h' k' n' sf pc' L (v.toList ++ rest)) : Seg l Z a0 EL y bytes maxL ret rm Q h k n sf pc L S := by
  subst hp hk hn hst has
  intro p e s m args below meth c T C' w'
  obtain ⟨vm0, locs, k0, X, r1, r2, r3, r4, r5, r6, r7, r8, r9, r10⟩ := w'
  obtain ⟨cq, kq, qa, qb, qc⟩ := isOf (s := s.setVm vm0) r4 r1 E
  obtain ⟨v, vm1, B, -, X', hS, hg, ⟨L0, ⟨q1, q2, q3⟩, hl, hc, hs, q4⟩, st⟩ := X.interfaceBackS C'.1 r5 (mvT r4 w1) (mvT r4 w2) (mvT r4 w5 hw5) (mvT r4 w3) (mvT r4 w4) (mvT r4 w6) (mvT r4 w7) (mvT r4 w8) hy (hP p e below s args vm0 r4 r6.1 r10 r8 r9) qa qb qc (g := mkF m pc L (argsL.reverse ++ .ref a :: rest)) rfl (hsz.trans C'.2.2.1.symm) (Steps.refl _) (argsL := argsL) (rest := rest) hlen rfl (by show 2 * 0 + _ ≤ _; omega) (hb C'.2.1 hd) (fun _ _ => ⟨rfl, r1, hk2, hn2⟩)
  rw [r1] at hg
  exact Gl.st (fun t hr => st.trans hr) (g v B.U.heap hg q3 p e s m args below meth c B.U C' (wkBack ⟨r2, r3, r4, r5, r6, r7, r8, r9, r10⟩ X' hS hg ⟨q1, q2⟩ hl hc hs q4))
theorem nf_sel {C : String} (w3 : (Cond.selects C y' y').before a0 Z = true) (s : State) (vm0 : Vm) (hZ : Z.Warmed39 vm0) : Free.NotFace (s.setVm vm0) y' :=
  notFace_of_selects (args := #[]) (mvT (s := s.setVm vm0) hZ w3)
theorem nf_topS (w : (Cond.noSuperclass y'.cls).before a0 Z = true) (s : State) (vm0 : Vm) (hZ : Z.Warmed39 vm0) : Free.NotFace (s.setVm vm0) y' := nf_top (args := #[]) (mvT (s := s.setVm vm0) hZ w)
theorem nf_supS {C : String} (w : (Cond.superclass y'.cls C).before a0 Z = true) (s : State) (vm0 : Vm) (hZ : Z.Warmed39 vm0) : Free.NotFace (s.setVm vm0) y' := nf_super (args := #[]) (mvT (s := s.setVm vm0) hZ w)
end Use
end Calls
end Jvm.OwnK
/- laws to paste: Road.backV, Road.codOf (cut by pick.py; bodies as the Statement names them) -/
namespace Jvm.Pilot.@@N@@
namespace StrChars
open Jvm Sem ClassFile Op Lib Jvm.Stand Jvm.Free.XT Jvm.Free.ALB Jvm.Free.JM Jvm.Free
open Jvm.Lib.Cold (StaticIs)
/-- a char array whose places are chars -/
def Ch (a : Addr) (A : Cell) (U : State) : Prop := Arr .char a A U ∧ Typed .char A
theorem Ch.mv {a : Addr} {A : Cell} {U U' : State} (h : Ch a A U) (hal : U.vm.Alike U'.vm) (hh : U'.heap = U.heap) : Ch a A U' := ⟨h.1.mv hal hh, h.2⟩
theorem Ch.keep {a : Addr} {A : Cell} {U U' : State} (h : Ch a A U) (hal : U.vm.Alike U'.vm) (hk : U'.heap[a]? = some A) : Ch a A U' := ⟨h.1.keep hal hk, h.2⟩
/-- what place i of a char[]'s cell holds -/
def cv (A : Cell) (i : Nat) : Int32 := match A.slots[i]? with | some (.int x) => x | _ => 0
theorem Ch.get {a : Addr} {A : Cell} {U : State} (h : Ch a A U) {i : Nat} (hi : i < A.slots.size) : A.slots[i]? = some (.int (cv A i)) := by
  have e := Array.getElem?_eq_getElem hi
  have f := h.2 i _ e
  unfold cv; rw [e]
  generalize A.slots[i] = v at f
  cases v <;> simp [fits] at f ⊢
/-- the byte that i2b leaves of a char -/
def lo8 (x : Int32) : Int32 := x.toInt8.toInt32
theorem fits_lo8 (y : Int32) : fits .byte (.int (lo8 y)) = true := by
  have h1 := y.toInt8.le_toInt
  have h2 := y.toInt8.toInt_lt
  simp only [lo8, fits, Bool.and_eq_true, decide_eq_true_eq, Int32.le_iff_toInt_le, Int8.toInt_toInt32, show (-128 : Int32).toInt = -128 from by decide, show (127 : Int32).toInt = 127 from by decide]
  omega
/-- A' is A but that each place j of lo .. hi - 1 holds f j -/
def Laid (A A' : Cell) (lo hi : Nat) (f : Nat → Value) : Prop := A'.cls = A.cls ∧ A'.vm = A.vm ∧ A'.slots.size = A.slots.size ∧ ∀ i, A'.slots[i]? = if lo ≤ i ∧ i < hi then some (f i) else A.slots[i]?
theorem Laid.zero (A : Cell) (lo : Nat) (f : Nat → Value) : Laid A A lo (lo + 0) f := ⟨rfl, rfl, rfl, fun i => by rw [if_neg (by omega)]⟩
theorem Laid.step {A Ak : Cell} {lo k : Nat} {f : Nat → Value} {v : Value} (h : Laid A Ak lo k f) (hlo : lo ≤ k) (hk : k < Ak.slots.size) (hv : v = f k) : Laid A (Ak.setSlot k v) lo (k + 1) f := by
  refine ⟨h.1, h.2.1, by simpa [Cell.setSlot] using h.2.2.1, fun i => ?_⟩
  by_cases e : k = i
  · subst e; rw [Cell.slots_setSlot_self v hk, if_pos (by omega), hv]
  · rw [Cell.slots_setSlot_ne v e, h.2.2.2 i]
    by_cases q : lo ≤ i ∧ i < k
    · rw [if_pos q, if_pos (by omega)]
    · rw [if_neg q, if_neg (by omega)]
def U16 : String := "java/lang/StringUTF16"
namespace Cmp5
def yN : MethodName := ⟨"java/lang/StringUTF16", "compress", "([CI[BII)I"⟩
abbrev yB : ByteArray := jdk_52_method_21_code
theorem d0 : decode yB 0 = .ok (.iconst 0, 1) := by decide +kernel
theorem d1 : decode yB 1 = .ok (.istore 5, 2) := by decide +kernel
theorem d3 : decode yB 3 = .ok (.iload 5, 2) := by decide +kernel
theorem d5 : decode yB 5 = .ok (.iload 4, 2) := by decide +kernel
theorem d7 : decode yB 7 = .ok (.if_icmp (.ge) 37, 3) := by decide +kernel
theorem d10 : decode yB 10 = .ok (.aload_n 0, 1) := by decide +kernel
theorem d11 : decode yB 11 = .ok (.iload_n 1, 1) := by decide +kernel
theorem d12 : decode yB 12 = .ok (.caload, 1) := by decide +kernel
theorem d13 : decode yB 13 = .ok (.istore 6, 2) := by decide +kernel
theorem d15 : decode yB 15 = .ok (.iload 6, 2) := by decide +kernel
theorem d17 : decode yB 17 = .ok (.sipush 255, 3) := by decide +kernel
theorem d20 : decode yB 20 = .ok (.if_icmp (.le) 6, 3) := by decide +kernel
theorem d26 : decode yB 26 = .ok (.aload_n 2, 1) := by decide +kernel
theorem d27 : decode yB 27 = .ok (.iload_n 3, 1) := by decide +kernel
theorem d28 : decode yB 28 = .ok (.iload 6, 2) := by decide +kernel
theorem d30 : decode yB 30 = .ok (.i2b, 1) := by decide +kernel
theorem d31 : decode yB 31 = .ok (.bastore, 1) := by decide +kernel
theorem d32 : decode yB 32 = .ok (.iinc 1 1, 3) := by decide +kernel
theorem d35 : decode yB 35 = .ok (.iinc 3 1, 3) := by decide +kernel
theorem d38 : decode yB 38 = .ok (.iinc 5 1, 3) := by decide +kernel
theorem d41 : decode yB 41 = .ok (.goto (-38), 3) := by decide +kernel
theorem d44 : decode yB 44 = .ok (.iload 4, 2) := by decide +kernel
theorem d46 : decode yB 46 = .ok (.ireturn, 1) := by decide +kernel
def site : List Cond := []
def tab : Cond := tabOf yN yB 7 (some .int) site
def P (b : Addr) (A : Cell) (d : Addr) (B : Cell) (o q len : Nat) (args : Array Value) (s : State) : Prop := args = #[.ref b, .int (Int32.ofNat o), .ref d, .int (Int32.ofNat q), .int (Int32.ofNat len)] ∧ Ch b A s ∧ Arr .byte d B s ∧ b ≠ d ∧ o + len ≤ A.slots.size ∧ q + len ≤ B.slots.size ∧ ∀ i, i < len → ¬ 255 < cv A (o + i)
def E (b : Addr) (A : Cell) (d : Addr) (B : Cell) (o q len : Nat) (r : Option Value) (s u : State) : Prop := r = some (.int (Int32.ofNat len)) ∧ ∃ B', Put d B' s u ∧ Laid B B' q (q + len) (fun j => Value.int (lo8 (cv A (o + (j - q)))))
/-- no char of the range above 255: len; the places written hold each char's low byte -/
theorem law (l : Launch) (b : Addr) (A : Cell) (d : Addr) (B : Cell) (o q len : Nat) : Law l yN 5 5 0 0 yB 7 (some .int) site (P b A d B o q len) (E b A d B o q len) (copyLocs d q len) 0 0 := by
  refine Law.of_walk (plainFor_of_name (by decide +kernel)) (by decide +kernel) (by decide +kernel) (by decide) (fun _ _ h => by rw [h.1]; rfl) (fun _ U U' hal hh h => ⟨h.1, h.2.1.mv hal hh, h.2.2.1.mv hal hh, h.2.2.2⟩) (fun r U U' V V' h1 hal h2 h => ⟨h.1, h.2.elim fun B' q => ⟨B', q.1.mv h1 h2, q.2⟩⟩) ?_
  intro p e s m args below meth c s₁ X0 hexec hbytes hml hret hlk hnm hown hh0 W hP
  obtain ⟨rfl, hA, hB, hne, l1, l2, hp⟩ := hP
  have c1 : Steps p.tables e below (s₁.setTop (entryFrame m #[.ref b, .int (Int32.ofNat o), .ref d, .int (Int32.ofNat q), .int (Int32.ofNat len)] 7)) (s₁.setTop (mkF m 0 #[.val (.ref b), .val (.int (Int32.ofNat o)), .val (.ref d), .val (.int (Int32.ofNat q)), .val (.int (Int32.ofNat len)), .unset, .unset] [])) := entry rfl
  have hA0 := hA.1.mv X0.warmed.alike hh0
  have hB0 := hB.mv X0.warmed.alike hh0
  have a31 := hA.1.2.2.2
  have c2 : Steps p.tables e below (s₁.setTop (entryFrame m #[.ref b, .int (Int32.ofNat o), .ref d, .int (Int32.ofNat q), .int (Int32.ofNat len)] 7)) (s₁.setTop (mkF m 3 #[.val (.ref b), .val (.int (Int32.ofNat o)), .val (.ref d), .val (.int (Int32.ofNat q)), .val (.int (Int32.ofNat len)), .val (.int 0), .unset] [])) := c1.trans (by
    refine iconstV X0.here hexec rfl 0 (hb hbytes d0) (by decide) ?_
    refine XS.istore X0.here hexec rfl (hb hbytes d1) rfl rfl ?_
    exact Steps.refl _)
  have loop : ∀ (r i : Nat), i + r = len → ∀ (z : Slot), (z = .unset ∨ ∃ w, z = .val w ∧ w.category = 1) → ∀ (Tl : State) (Bk : Cell), Stand p l e { frames := 0, locals := 0, cells := 0, slots := 0 } s m #[.ref b, .int (Int32.ofNat o), .ref d, .int (Int32.ofNat q), .int (Int32.ofNat len)] below meth c Tl ([] ++ copyLocs d q i) 0 0 → Put d Bk s₁ Tl → Laid B Bk q (q + i) (fun j => Value.int (lo8 (cv A (o + (j - q))))) →
      Steps p.tables e below (s₁.setTop (entryFrame m #[.ref b, .int (Int32.ofNat o), .ref d, .int (Int32.ofNat q), .int (Int32.ofNat len)] 7)) (Tl.setTop (mkF m 3 #[.val (.ref b), .val (.int (Int32.ofNat (o + i))), .val (.ref d), .val (.int (Int32.ofNat (q + i))), .val (.int (Int32.ofNat len)), .val (.int (Int32.ofNat i)), z] [])) → ∃ (T' : State) (B' : Cell) (z' : Slot), Stand p l e { frames := 0, locals := 0, cells := 0, slots := 0 } s m #[.ref b, .int (Int32.ofNat o), .ref d, .int (Int32.ofNat q), .int (Int32.ofNat len)] below meth c T' ([] ++ copyLocs d q len) 0 0 ∧ Put d B' s₁ T' ∧ Laid B B' q (q + len) (fun j => Value.int (lo8 (cv A (o + (j - q))))) ∧
      Steps p.tables e below (s₁.setTop (entryFrame m #[.ref b, .int (Int32.ofNat o), .ref d, .int (Int32.ofNat q), .int (Int32.ofNat len)] 7)) (T'.setTop (mkF m 3 #[.val (.ref b), .val (.int (Int32.ofNat (o + len))), .val (.ref d), .val (.int (Int32.ofNat (q + len))), .val (.int (Int32.ofNat len)), .val (.int (Int32.ofNat len)), z'] [])) := by
    intro r
    induction r with
    | zero =>
      intro i hi z hz Tl Bk Xl pl fl cl
      have hil : i = len := by omega
      rw [hil] at Xl fl cl
      exact ⟨Tl, Bk, z, Xl, pl, fl, cl⟩
    | succ r ih =>
      intro i hi z hz Tl Bk Xl pl fl cl
      have all := X0.warmed.alike.symm.trans Xl.warmed.alike
      have hAl := hA0.keep all (pl.other hne hA0.1)
      have hBk := hB0.like all pl.1 fl.1 fl.2.1 fl.2.2.1
      have hlt : q + i < Bk.slots.size := by rw [fl.2.2.1]; omega
      have c3 : Steps p.tables e below (s₁.setTop (entryFrame m #[.ref b, .int (Int32.ofNat o), .ref d, .int (Int32.ofNat q), .int (Int32.ofNat len)] 7)) (Tl.setTop (mkF m 12 #[.val (.ref b), .val (.int (Int32.ofNat (o + i))), .val (.ref d), .val (.int (Int32.ofNat (q + i))), .val (.int (Int32.ofNat len)), .val (.int (Int32.ofNat i)), z] [.int (Int32.ofNat (o + i)), .ref b])) := cl.trans (by
        refine XS.iload Xl.here hexec rfl (hb hbytes d3) rfl ?_
        refine XS.iload Xl.here hexec rfl (hb hbytes d5) rfl ?_
        refine XS.icmpNo Xl.here hexec rfl (hb hbytes d7) rfl (ii_ge_f (lt32 (by omega) (by omega))) ?_
        refine XS.aloadN Xl.here hexec rfl (hb hbytes d10) rfl rfl ?_
        refine XS.iloadN Xl.here hexec rfl (hb hbytes d11) rfl ?_
        exact Steps.refl _)
      have c4 : Steps p.tables e below (s₁.setTop (entryFrame m #[.ref b, .int (Int32.ofNat o), .ref d, .int (Int32.ofNat q), .int (Int32.ofNat len)] 7)) (Tl.setTop (mkF m 13 #[.val (.ref b), .val (.int (Int32.ofNat (o + i))), .val (.ref d), .val (.int (Int32.ofNat (q + i))), .val (.int (Int32.ofNat len)), .val (.int (Int32.ofNat i)), z] [.int (cv A (o + i))])) := c3.trans (by
        refine Xl.aget hexec hAl rfl (hA.get (i := o + i) (by omega)) rfl rfl (hb hbytes d12) ?_
        exact Steps.refl _)
      have c5 : Steps p.tables e below (s₁.setTop (entryFrame m #[.ref b, .int (Int32.ofNat o), .ref d, .int (Int32.ofNat q), .int (Int32.ofNat len)] 7)) (Tl.setTop (mkF m 15 #[.val (.ref b), .val (.int (Int32.ofNat (o + i))), .val (.ref d), .val (.int (Int32.ofNat (q + i))), .val (.int (Int32.ofNat len)), .val (.int (Int32.ofNat i)), .val (.int (cv A (o + i)))] [])) := c4.trans (by
        refine XS.istoreS Xl.here hexec rfl (hb hbytes d13) rfl rfl hz ?_
        exact Steps.refl _)
      have c6 : Steps p.tables e below (s₁.setTop (entryFrame m #[.ref b, .int (Int32.ofNat o), .ref d, .int (Int32.ofNat q), .int (Int32.ofNat len)] 7)) (Tl.setTop (mkF m 31 #[.val (.ref b), .val (.int (Int32.ofNat (o + i))), .val (.ref d), .val (.int (Int32.ofNat (q + i))), .val (.int (Int32.ofNat len)), .val (.int (Int32.ofNat i)), .val (.int (cv A (o + i)))] [.int (lo8 (cv A (o + i))), .int (Int32.ofNat (q + i)), .ref d])) := c5.trans (by
        refine XS.iload Xl.here hexec rfl (hb hbytes d15) rfl ?_
        refine sipushV Xl.here hexec rfl 255 (hb hbytes d17) (by decide) ?_
        refine XS.icmpYes Xl.here hexec rfl (pc0 := 20) rfl (hb hbytes d20) rfl (ii_le_t (hp i (by omega))) (by decide) rfl ?_
        refine XS.aloadN Xl.here hexec rfl (hb hbytes d26) rfl rfl ?_
        refine XS.iloadN Xl.here hexec rfl (hb hbytes d27) rfl ?_
        refine XS.iload Xl.here hexec rfl (hb hbytes d28) rfl ?_
        refine i2b Xl.here hexec rfl (hb hbytes d30) rfl ?_
        exact Steps.refl _)
      obtain ⟨T7, X7, p7, st7⟩ := Xl.aput hexec hBk rfl hlt rfl (fits_lo8 (cv A (o + i))) (g := (mkF m 31 #[.val (.ref b), .val (.int (Int32.ofNat (o + i))), .val (.ref d), .val (.int (Int32.ofNat (q + i))), .val (.int (Int32.ofNat len)), .val (.int (Int32.ofNat i)), .val (.int (cv A (o + i)))] [.int (lo8 (cv A (o + i))), .int (Int32.ofNat (q + i)), .ref d])) rfl (rest := []) rfl (hb hbytes d31)
      have c8 : Steps p.tables e below (s₁.setTop (entryFrame m #[.ref b, .int (Int32.ofNat o), .ref d, .int (Int32.ofNat q), .int (Int32.ofNat len)] 7)) (T7.setTop (mkF m 32 #[.val (.ref b), .val (.int (Int32.ofNat (o + i))), .val (.ref d), .val (.int (Int32.ofNat (q + i))), .val (.int (Int32.ofNat len)), .val (.int (Int32.ofNat i)), .val (.int (cv A (o + i)))] [])) := c6.trans (st7 _ (Steps.refl _))
      have c9 : Steps p.tables e below (s₁.setTop (entryFrame m #[.ref b, .int (Int32.ofNat o), .ref d, .int (Int32.ofNat q), .int (Int32.ofNat len)] 7)) (T7.setTop (mkF m 3 #[.val (.ref b), .val (.int (Int32.ofNat (o + i) + 1)), .val (.ref d), .val (.int (Int32.ofNat (q + i) + 1)), .val (.int (Int32.ofNat len)), .val (.int (Int32.ofNat i + 1)), .val (.int (cv A (o + i)))] [])) := c8.trans (by
        refine iincV X7.here hexec rfl 1 (hb hbytes d32) (by decide) rfl rfl ?_
        refine iincV X7.here hexec rfl 1 (hb hbytes d35) (by decide) rfl rfl ?_
        refine iincV X7.here hexec rfl 1 (hb hbytes d38) (by decide) rfl rfl ?_
        refine XS.goto X7.here hexec rfl (pc0 := 41) rfl (hb hbytes d41) (by decide) rfl ?_
        exact Steps.refl _)
      have c10 : Steps p.tables e below (s₁.setTop (entryFrame m #[.ref b, .int (Int32.ofNat o), .ref d, .int (Int32.ofNat q), .int (Int32.ofNat len)] 7)) (T7.setTop (mkF m 3 #[.val (.ref b), .val (.int (Int32.ofNat (o + (i + 1)))), .val (.ref d), .val (.int (Int32.ofNat (q + (i + 1)))), .val (.int (Int32.ofNat len)), .val (.int (Int32.ofNat (i + 1))), .val (.int (cv A (o + i)))] [])) := by
        have := c9
        rw [succ32, succ32, succ32] at this
        exact this
      exact ih (i + 1) (by omega) _ (Or.inr ⟨_, rfl, rfl⟩) T7 _ (by rw [copyLocs_step, ← List.append_assoc]; exact X7) (pl.trans p7) (fl.step (by omega) hlt (by simp)) c10
  obtain ⟨T9, B9, z9, X9, p9, f9, g9⟩ := loop len 0 (by omega) .unset (Or.inl rfl) s₁ B (by simpa [copyLocs] using X0) ⟨hB0.1, fun _ _ => rfl, rfl⟩ (Laid.zero _ _ _) c2
  have c11 : Steps p.tables e below (s₁.setTop (entryFrame m #[.ref b, .int (Int32.ofNat o), .ref d, .int (Int32.ofNat q), .int (Int32.ofNat len)] 7)) (T9.setTop (mkF m 46 #[.val (.ref b), .val (.int (Int32.ofNat (o + len))), .val (.ref d), .val (.int (Int32.ofNat (q + len))), .val (.int (Int32.ofNat len)), .val (.int (Int32.ofNat len)), z9] [.int (Int32.ofNat len)])) := g9.trans (by
    refine XS.iload X9.here hexec rfl (hb hbytes d3) rfl ?_
    refine XS.iload X9.here hexec rfl (hb hbytes d5) rfl ?_
    refine XS.icmpYes X9.here hexec rfl (pc0 := 7) rfl (hb hbytes d7) rfl (ii_ge_t (nlt32 (by omega) (Nat.le_refl _))) (by decide) rfl ?_
    refine XS.iload X9.here hexec rfl (hb hbytes d44) rfl ?_
    exact Steps.refl _)
  exact ⟨T9, some (.int (Int32.ofNat len)), _, _, _, X9, by simp, rfl, rfl, (fun h => by cases h), ⟨rfl, B9, p9.from hh0, f9⟩, fun fs hl => c11.trans (X9.ireturnOut hexec hret rfl (Or.inl rfl) (hb hbytes d46) hl)⟩
end Cmp5
namespace Cmp3
def yN : MethodName := ⟨"java/lang/StringUTF16", "compress", "([CII)[B"⟩
abbrev yB : ByteArray := jdk_52_method_16_code
theorem d0 : decode yB 0 = .ok (.iload_n 2, 1) := by decide +kernel
theorem d1 : decode yB 1 = .ok (.newarray .byte, 2) := by decide +kernel
theorem d3 : decode yB 3 = .ok (.astore_n 3, 1) := by decide +kernel
theorem d4 : decode yB 4 = .ok (.aload_n 0, 1) := by decide +kernel
theorem d5 : decode yB 5 = .ok (.iload_n 1, 1) := by decide +kernel
theorem d6 : decode yB 6 = .ok (.aload_n 3, 1) := by decide +kernel
theorem d7 : decode yB 7 = .ok (.iconst 0, 1) := by decide +kernel
theorem d8 : decode yB 8 = .ok (.iload_n 2, 1) := by decide +kernel
theorem d9 : decode yB 9 = .ok (.invokestatic 115, 3) := by decide +kernel
theorem d12 : decode yB 12 = .ok (.istore 4, 2) := by decide +kernel
theorem d14 : decode yB 14 = .ok (.iload 4, 2) := by decide +kernel
theorem d16 : decode yB 16 = .ok (.iload_n 2, 1) := by decide +kernel
theorem d17 : decode yB 17 = .ok (.if_icmp (.eq) 40, 3) := by decide +kernel
theorem d57 : decode yB 57 = .ok (.aload_n 3, 1) := by decide +kernel
theorem d58 : decode yB 58 = .ok (.areturn, 1) := by decide +kernel
def site : List Cond := [.arrayClass .byte, Cmp5.tab] ++ staticW U16 115 Cmp5.yN
def tab : Cond := tabOf yN yB 6 (some (.array .byte)) site
def P (b : Addr) (A : Cell) (o len : Nat) (args : Array Value) (s : State) : Prop := args = #[.ref b, .int (Int32.ofNat o), .int (Int32.ofNat len)] ∧ Ch b A s ∧ o + len ≤ A.slots.size ∧ len ≤ 536870912 ∧ ∀ i, i < len → ¬ 255 < cv A (o + i)
def E (b : Addr) (A : Cell) (o len : Nat) (r : Option Value) (s u : State) : Prop := NewArr .byte "[B" len (fun j => .int (lo8 (cv A (o + j)))) r s u ∧ u.heap.size = s.heap.size + 1
/-- no char of the range above 255: a new byte[] of their low bytes -/
theorem law (l : Launch) (b : Addr) (A : Cell) (o len : Nat) : Law l yN 3 3 1 18 yB 6 (some (.array .byte)) site (P b A o len) (E b A o len) [] 1 len := by
  refine Law.of_walk (plainFor_of_name (by decide +kernel)) (by decide +kernel) (by decide +kernel) (by decide) (fun _ _ h => by rw [h.1]; rfl) (fun _ U U' hal hh h => ⟨h.1, h.2.1.mv hal hh, h.2.2⟩) (fun r U U' V V' h1 hal h2 h => ⟨NewArr.mv r U U' V V' h1 hal h2 h.1, by rw [h1, h2]; exact h.2⟩) ?_
  intro p e s m args below meth c s₁ X0 hexec hbytes hml hret hlk hnm hown hh0 W hP
  obtain ⟨rfl, hA, l1, l2, hp⟩ := hP
  have a31 := hA.1.2.2.2
  have c1 : Steps p.tables e below (s₁.setTop (entryFrame m #[.ref b, .int (Int32.ofNat o), .int (Int32.ofNat len)] 6)) (s₁.setTop (mkF m 0 #[.val (.ref b), .val (.int (Int32.ofNat o)), .val (.int (Int32.ofNat len)), .unset, .unset, .unset] [])) := entry rfl
  have c2 : Steps p.tables e below (s₁.setTop (entryFrame m #[.ref b, .int (Int32.ofNat o), .int (Int32.ofNat len)] 6)) (s₁.setTop (mkF m 1 #[.val (.ref b), .val (.int (Int32.ofNat o)), .val (.int (Int32.ofNat len)), .unset, .unset, .unset] [.int (Int32.ofNat len)])) := c1.trans (by
    refine XS.iloadN X0.here hexec rfl (hb hbytes d0) rfl ?_
    exact Steps.refl _)
  obtain ⟨T3, B3, X3, ba3, bs3, bv3, bh3, bf3, st3⟩ := X0.anew hexec (atype := .byte) (wk W (.arrayClass .byte)) rfl (by show len * 1 ≤ _; omega) (by omega) (g := (mkF m 1 #[.val (.ref b), .val (.int (Int32.ofNat o)), .val (.int (Int32.ofNat len)), .unset, .unset, .unset] [.int (Int32.ofNat len)])) rfl (hb hbytes d1) (rest := []) rfl (Nat.le_refl _) (by show 0 + len ≤ len; omega)
  rw [hh0] at ba3 st3
  have kp3 : XT.Kept s T3 := (XT.Kept.of_eq hh0).push bh3
  have hA3 := hA.keep X3.warmed.alike (kp3 _ _ hA.1.1)
  have hne : b ≠ s.heap.size := hA.1.ne
  have c4 : Steps p.tables e below (s₁.setTop (entryFrame m #[.ref b, .int (Int32.ofNat o), .int (Int32.ofNat len)] 6)) (T3.setTop (mkF m 3 #[.val (.ref b), .val (.int (Int32.ofNat o)), .val (.int (Int32.ofNat len)), .unset, .unset, .unset] [.ref s.heap.size])) := c2.trans (st3 _ (Steps.refl _))
  have c5 : Steps p.tables e below (s₁.setTop (entryFrame m #[.ref b, .int (Int32.ofNat o), .int (Int32.ofNat len)] 6)) (T3.setTop (mkF m 9 #[.val (.ref b), .val (.int (Int32.ofNat o)), .val (.int (Int32.ofNat len)), .val (.ref s.heap.size), .unset, .unset] [.int (Int32.ofNat len), .int 0, .ref s.heap.size, .int (Int32.ofNat o), .ref b])) := c4.trans (by
    refine XS.astoreN X3.here hexec rfl (hb hbytes d3) rfl rfl rfl ?_
    refine XS.aloadN X3.here hexec rfl (hb hbytes d4) rfl rfl ?_
    refine XS.iloadN X3.here hexec rfl (hb hbytes d5) rfl ?_
    refine XS.aloadN X3.here hexec rfl (hb hbytes d6) rfl rfl ?_
    refine iconstV X3.here hexec rfl 0 (hb hbytes d7) (by decide) ?_
    refine XS.iloadN X3.here hexec rfl (hb hbytes d8) rfl ?_
    exact Steps.refl _)
  obtain ⟨v6, T6, X6, E6, g6⟩ := X3.callS hexec (Cmp5.law l b A s.heap.size B3 o 0 len) hown (wks W (staticW U16 115 Cmp5.yN)) (wk W Cmp5.tab) (W := 0) (Nat.le_of_ble_eq_true rfl) (Nat.le_of_ble_eq_true rfl) (Nat.le_refl _) (by show 0 + len + 0 ≤ len; omega) (g := (mkF m 9 #[.val (.ref b), .val (.int (Int32.ofNat o)), .val (.int (Int32.ofNat len)), .val (.ref s.heap.size), .unset, .unset] [.int (Int32.ofNat len), .int (Int32.ofNat 0), .ref s.heap.size, .int (Int32.ofNat o), .ref b])) rfl (by rw [hml]; rfl) c5 (argsL := [.ref b, .int (Int32.ofNat o), .ref s.heap.size, .int (Int32.ofNat 0), .int (Int32.ofNat len)]) (rest := []) rfl rfl (by show 2 * 0 + 0 ≤ _; decide) (hb hbytes d9) (⟨rfl, hA3, ba3, hne, l1, by rw [bs3]; simp, hp⟩)
  obtain ⟨rfl, B6, p6, f6⟩ := E6
  have c7 : Steps p.tables e below (s₁.setTop (entryFrame m #[.ref b, .int (Int32.ofNat o), .int (Int32.ofNat len)] 6)) (T6.setTop (mkF m 12 #[.val (.ref b), .val (.int (Int32.ofNat o)), .val (.int (Int32.ofNat len)), .val (.ref s.heap.size), .unset, .unset] [.int (Int32.ofNat len)])) := g6
  have c8 : Steps p.tables e below (s₁.setTop (entryFrame m #[.ref b, .int (Int32.ofNat o), .int (Int32.ofNat len)] 6)) (T6.setTop (mkF m 58 #[.val (.ref b), .val (.int (Int32.ofNat o)), .val (.int (Int32.ofNat len)), .val (.ref s.heap.size), .val (.int (Int32.ofNat len)), .unset] [.ref s.heap.size])) := c7.trans (by
    refine XS.istore X6.here hexec rfl (hb hbytes d12) rfl rfl ?_
    refine XS.iload X6.here hexec rfl (hb hbytes d14) rfl ?_
    refine XS.iloadN X6.here hexec rfl (hb hbytes d16) rfl ?_
    refine XS.icmpYes X6.here hexec rfl (pc0 := 17) rfl (hb hbytes d17) rfl (ii_eq_t rfl) (by decide) rfl ?_
    refine XS.aloadN X6.here hexec rfl (hb hbytes d57) rfl rfl ?_
    exact Steps.refl _)
  have X8 := X6.wide (L' := []) (cells' := 1) (slots' := len) (fun x hx hlt => by
    simp only [List.nil_append, copyLocs, List.mem_map, List.mem_range] at hx
    obtain ⟨i, -, rfl⟩ := hx
    exact absurd hlt (Nat.lt_irrefl _)) (Nat.le_refl _) (by omega)
  exact ⟨T6, some (.ref s.heap.size), _, _, _, X8, rfl, rfl, rfl, (fun h => by cases h), ⟨⟨rfl, B6, ba3.like (X3.warmed.alike.symm.trans X6.warmed.alike) p6.1 f6.1 f6.2.1 f6.2.2.1, f6.2.1.trans bv3, by rw [X6.warmed.alike.findClass, f6.1]; exact bf3, by rw [f6.2.2.1, bs3]; simp, fun j hj => by rw [f6.2.2.2 j, if_pos (by omega)]; rfl, kp3.put p6 (Nat.le_refl _)⟩, by rw [p6.2.2, bh3, hh0]; simp⟩, fun fs hl => c8.trans (X8.areturnOut hexec rfl hret rfl (hb hbytes d58) hl)⟩
end Cmp3
namespace CodL
def yN : MethodName := ⟨"java/lang/StringUTF16", "coderFromArrayLen", "([BI)B"⟩
abbrev yB : ByteArray := jdk_52_method_15_code
theorem d0 : decode yB 0 = .ok (.iload_n 1, 1) := by decide +kernel
theorem d1 : decode yB 1 = .ok (.aload_n 0, 1) := by decide +kernel
theorem d2 : decode yB 2 = .ok (.arraylength, 1) := by decide +kernel
theorem d3 : decode yB 3 = .ok (.isub, 1) := by decide +kernel
theorem d4 : decode yB 4 = .ok (.bipush 31, 2) := by decide +kernel
theorem d6 : decode yB 6 = .ok (.iushr, 1) := by decide +kernel
theorem d7 : decode yB 7 = .ok (.i2b, 1) := by decide +kernel
theorem d8 : decode yB 8 = .ok (.ireturn, 1) := by decide +kernel
def site : List Cond := []
def tab : Cond := tabOf yN yB 2 (some .byte) site
def P (d : Addr) (B : Cell) (args : Array Value) (s : State) : Prop := args = #[.ref d, .int (Int32.ofNat B.slots.size)] ∧ Arr .byte d B s
def E (r : Option Value) (s u : State) : Prop := XT.PureE (some (.int 0)) r s u
/-- an array as long as the number of chars: LATIN1 -/
theorem law (l : Launch) (d : Addr) (B : Cell) : Law l yN 2 2 0 0 yB 2 (some .byte) site (P d B) E [] 0 0 := by
  refine Law.of_walk (plainFor_of_name (by decide +kernel)) (by decide +kernel) (by decide +kernel) (by decide) (fun _ _ h => by rw [h.1]; rfl) (fun _ U U' hal hh h => ⟨h.1, h.2.mv hal hh⟩) (fun r U U' V V' h1 hal h2 h => XT.PureE.mv r U U' V V' h1 hal h2 h) ?_
  intro p e s m args below meth c s₁ X0 hexec hbytes hml hret hlk hnm hown hh0 W hP
  obtain ⟨rfl, hB⟩ := hP
  have hB0 := hB.mv X0.warmed.alike hh0
  have c1 : Steps p.tables e below (s₁.setTop (entryFrame m #[.ref d, .int (Int32.ofNat B.slots.size)] 2)) (s₁.setTop (mkF m 0 #[.val (.ref d), .val (.int (Int32.ofNat B.slots.size))] [])) := entry rfl
  have c2 : Steps p.tables e below (s₁.setTop (entryFrame m #[.ref d, .int (Int32.ofNat B.slots.size)] 2)) (s₁.setTop (mkF m 2 #[.val (.ref d), .val (.int (Int32.ofNat B.slots.size))] [.ref d, .int (Int32.ofNat B.slots.size)])) := c1.trans (by
    refine XS.iloadN X0.here hexec rfl (hb hbytes d0) rfl ?_
    refine XS.aloadN X0.here hexec rfl (hb hbytes d1) rfl rfl ?_
    exact Steps.refl _)
  have c3 : Steps p.tables e below (s₁.setTop (entryFrame m #[.ref d, .int (Int32.ofNat B.slots.size)] 2)) (s₁.setTop (mkF m 8 #[.val (.ref d), .val (.int (Int32.ofNat B.slots.size))] [.int (lo8 (ushr (Int32.ofNat B.slots.size - Int32.ofNat B.slots.size) 31))])) := c2.trans (by
    refine X0.alen hexec hB0 rfl rfl (hb hbytes d2) ?_
    refine XS.isub X0.here hexec rfl (hb hbytes d3) rfl ?_
    refine bipushV X0.here hexec rfl 31 (hb hbytes d4) (by decide) ?_
    refine iushr X0.here hexec rfl (hb hbytes d6) rfl ?_
    refine i2b X0.here hexec rfl (hb hbytes d7) rfl ?_
    exact Steps.refl _)
  have e0 : lo8 (ushr (Int32.ofNat B.slots.size - Int32.ofNat B.slots.size) 31) = 0 := by rw [Int32.sub_self]; decide
  rw [e0] at c3
  exact ⟨s₁, some (.int 0), _, _, _, X0, rfl, rfl, rfl, (fun h => by cases h), ⟨rfl, hh0⟩, fun fs hl => c3.trans (X0.ireturnOut hexec hret rfl (Or.inr (Or.inr (Or.inl rfl))) (hb hbytes d8) hl)⟩
end CodL
/-- the String at a is Latin-1 over a new byte[] (the heap's one new cell): the low bytes of the len chars of A from o on; every cell but a is kept -/
def Got (a : Addr) (D : Cell) (fV fC : Field) (A : Cell) (o len : Nat) (r : Option Value) (s u : State) : Prop := r = none ∧ ∃ D' V : Cell, Blank "java/lang/String" a D' u ∧ Same D D' [fV.slot, fC.slot] ∧ D'.slots[fV.slot]? = some (.ref s.heap.size) ∧ D'.slots[fC.slot]? = some (.int 0) ∧ Arr .byte s.heap.size V u ∧ V.vm = .none ∧ u.vm.findClass "[B" = some V.cls ∧ V.slots.size = len ∧ (∀ j, j < len → V.slots[j]? = some (.int (lo8 (cv A (o + j))))) ∧ (∀ (y : Addr) (c : Cell), y ≠ a → s.heap[y]? = some c → u.heap[y]? = some c) ∧ u.heap.size = s.heap.size + 1
theorem Got.mv {a : Addr} {D A : Cell} {fV fC : Field} {o len : Nat} : ∀ r (U U' V V' : State), U'.heap = U.heap → V.vm.Alike V'.vm → V'.heap = V.heap → Got a D fV fC A o len r U V → Got a D fV fC A o len r U' V' :=
  fun r U U' V V' h1 hal h2 ⟨e0, D', X, a1, a2, a3, a4, a5, a6, a7, a8, a9, a10, a11⟩ => ⟨e0, D', X, a1.mv hal h2, a2, by rw [h1]; exact a3, a4, by rw [h1]; exact a5.mv hal h2, a6, by rw [hal.findClass]; exact a7, a8, a9, by rw [h1, h2]; exact a10, by rw [h1, h2]; exact a11⟩
namespace New4
def yN : MethodName := ⟨"java/lang/String", "<init>", "([CIILjava/lang/Void;)V"⟩
abbrev yB : ByteArray := jdk_42_method_149_code
theorem d0 : decode yB 0 = .ok (.aload_n 0, 1) := by decide +kernel
theorem d1 : decode yB 1 = .ok (.invokespecial 1, 3) := by decide +kernel
theorem d4 : decode yB 4 = .ok (.iload_n 3, 1) := by decide +kernel
theorem d5 : decode yB 5 = .ok (.ifCond (.ne) 22, 3) := by decide +kernel
theorem d27 : decode yB 27 = .ok (.getstatic 38, 3) := by decide +kernel
theorem d30 : decode yB 30 = .ok (.ifCond (.eq) 28, 3) := by decide +kernel
theorem d33 : decode yB 33 = .ok (.aload_n 1, 1) := by decide +kernel
theorem d34 : decode yB 34 = .ok (.iload_n 2, 1) := by decide +kernel
theorem d35 : decode yB 35 = .ok (.iload_n 3, 1) := by decide +kernel
theorem d36 : decode yB 36 = .ok (.invokestatic 177, 3) := by decide +kernel
theorem d39 : decode yB 39 = .ok (.astore 5, 2) := by decide +kernel
theorem d41 : decode yB 41 = .ok (.aload_n 0, 1) := by decide +kernel
theorem d42 : decode yB 42 = .ok (.aload 5, 2) := by decide +kernel
theorem d44 : decode yB 44 = .ok (.iload_n 3, 1) := by decide +kernel
theorem d45 : decode yB 45 = .ok (.invokestatic 47, 3) := by decide +kernel
theorem d48 : decode yB 48 = .ok (.putfield 15, 3) := by decide +kernel
theorem d51 : decode yB 51 = .ok (.aload_n 0, 1) := by decide +kernel
theorem d52 : decode yB 52 = .ok (.aload 5, 2) := by decide +kernel
theorem d54 : decode yB 54 = .ok (.putfield 9, 3) := by decide +kernel
theorem d57 : decode yB 57 = .ok (.return_, 1) := by decide +kernel
def site : List Cond := [.fieldLink "java/lang/String" 38 "java/lang/String" "COMPACT_STRINGS" "Z", Cmp3.tab, CodL.tab, .laysFinal "java/lang/String" "java/lang/String" "value" "[B", .fieldLink "java/lang/String" 9 "java/lang/String" "value" "[B", .laysFinal "java/lang/String" "java/lang/String" "coder" "B", .fieldLink "java/lang/String" 15 "java/lang/String" "coder" "B"] ++ objW "java/lang/String" 1 ++ staticW "java/lang/String" 177 Cmp3.yN ++ staticW "java/lang/String" 47 CodL.yN
def tab : Cond := tabOf yN yB 6 none site
def P (a : Addr) (D : Cell) (fV fC : Field) (b : Addr) (A : Cell) (z : Int32) (o len : Nat) (args : Array Value) (s : State) : Prop := args = #[.ref a, .ref b, .int (Int32.ofNat o), .int (Int32.ofNat len), .null] ∧ Blank "java/lang/String" a D s ∧ Found "java/lang/String" "value" "[B" fV s ∧ Found "java/lang/String" "coder" "B" fC s ∧ Ch b A s ∧ StaticIs s "java/lang/String" "COMPACT_STRINGS" "Z" (.int z) ∧ ¬ z = 0 ∧ 0 < len ∧ o + len ≤ A.slots.size ∧ len ≤ 536870912 ∧ ∀ i, i < len → ¬ 255 < cv A (o + i)
def E (a : Addr) (D : Cell) (fV fC : Field) (A : Cell) (o len : Nat) (r : Option Value) (s u : State) : Prop := Got a D fV fC A o len r s u
/-- len > 0, no char of the range above 255: a Latin-1 String of their low bytes -/
theorem law (l : Launch) (a : Addr) (D : Cell) (fV fC : Field) (b : Addr) (A : Cell) (z : Int32) (o len : Nat) : Law l yN 5 4 2 35 yB 6 none site (P a D fV fC b A z o len) (E a D fV fC A o len) [⟨a, fC.slot⟩, ⟨a, fV.slot⟩] 1 len := by
  refine Law.of_walk (plainFor_of_name (by decide +kernel)) (by decide +kernel) (by decide +kernel) (by decide) (fun _ _ h => by rw [h.1]; rfl) (fun _ U U' hal hh h => ⟨h.1, h.2.1.mv hal hh, h.2.2.1.al hal, h.2.2.2.1.al hal, h.2.2.2.2.1.mv hal hh, h.2.2.2.2.2.1.there hal hh, h.2.2.2.2.2.2⟩) (fun r U U' V V' h1 hal h2 h => Got.mv r U U' V V' h1 hal h2 h) ?_
  intro p e s m args below meth c s₁ X0 hexec hbytes hml hret hlk hnm hown hh0 W hP
  obtain ⟨rfl, hB, f1, f2, hA, s1, hz, l0, l1, l2, hp⟩ := hP
  have a31 := hA.1.2.2.2
  have c1 : Steps p.tables e below (s₁.setTop (entryFrame m #[.ref a, .ref b, .int (Int32.ofNat o), .int (Int32.ofNat len), .null] 6)) (s₁.setTop (mkF m 0 #[.val (.ref a), .val (.ref b), .val (.int (Int32.ofNat o)), .val (.int (Int32.ofNat len)), .val .null, .unset] [])) := entry rfl
  have c2 : Steps p.tables e below (s₁.setTop (entryFrame m #[.ref a, .ref b, .int (Int32.ofNat o), .int (Int32.ofNat len), .null] 6)) (s₁.setTop (mkF m 1 #[.val (.ref a), .val (.ref b), .val (.int (Int32.ofNat o)), .val (.int (Int32.ofNat len)), .val .null, .unset] [.ref a])) := c1.trans (by
    refine XS.aloadN X0.here hexec rfl (hb hbytes d0) rfl rfl ?_
    exact Steps.refl _)
  obtain ⟨T3, X3, q3, st3⟩ := X0.oinit hexec hown (wks W (objW "java/lang/String" 1)) (g := (mkF m 1 #[.val (.ref a), .val (.ref b), .val (.int (Int32.ofNat o)), .val (.int (Int32.ofNat len)), .val .null, .unset] [.ref a])) rfl (by rw [hml]; rfl) (rest := []) rfl (hb hbytes d1) (W := 0) (by show 2 * 0 + 0 ≤ _; decide) (Nat.le_of_ble_eq_true rfl) (Nat.le_of_ble_eq_true rfl)
  have hh3 := q3.trans hh0
  have c4 : Steps p.tables e below (s₁.setTop (entryFrame m #[.ref a, .ref b, .int (Int32.ofNat o), .int (Int32.ofNat len), .null] 6)) (T3.setTop (mkF m 27 #[.val (.ref a), .val (.ref b), .val (.int (Int32.ofNat o)), .val (.int (Int32.ofNat len)), .val .null, .unset] [])) := (c2.trans (st3 _ (Steps.refl _))).trans (by
    refine XS.iloadN X3.here hexec rfl (hb hbytes d4) rfl ?_
    refine XS.ifYes X3.here hexec rfl (pc0 := 5) rfl (hb hbytes d5) rfl (i0_ne_t (nz32 (by omega) l0)) (by decide) rfl ?_
    exact Steps.refl _)
  obtain ⟨T5, X5, q5, st5⟩ := X3.sget hexec hown (wk W (.fieldLink "java/lang/String" 38 "java/lang/String" "COMPACT_STRINGS" "Z")) s1 (fun _ _ h => by rw [hh3]; exact h) (g := (mkF m 27 #[.val (.ref a), .val (.ref b), .val (.int (Int32.ofNat o)), .val (.int (Int32.ofNat len)), .val .null, .unset] [])) rfl (hb hbytes d27)
  have hh5 := q5.trans hh3
  have c6 : Steps p.tables e below (s₁.setTop (entryFrame m #[.ref a, .ref b, .int (Int32.ofNat o), .int (Int32.ofNat len), .null] 6)) (T5.setTop (mkF m 30 #[.val (.ref a), .val (.ref b), .val (.int (Int32.ofNat o)), .val (.int (Int32.ofNat len)), .val .null, .unset] [.int z])) := c4.trans (st5 _ (Steps.refl _))
  have c7 : Steps p.tables e below (s₁.setTop (entryFrame m #[.ref a, .ref b, .int (Int32.ofNat o), .int (Int32.ofNat len), .null] 6)) (T5.setTop (mkF m 36 #[.val (.ref a), .val (.ref b), .val (.int (Int32.ofNat o)), .val (.int (Int32.ofNat len)), .val .null, .unset] [.int (Int32.ofNat len), .int (Int32.ofNat o), .ref b])) := c6.trans (by
    refine XS.ifNo X5.here hexec rfl (hb hbytes d30) rfl (i0_eq_f hz) ?_
    refine XS.aloadN X5.here hexec rfl (hb hbytes d33) rfl rfl ?_
    refine XS.iloadN X5.here hexec rfl (hb hbytes d34) rfl ?_
    refine XS.iloadN X5.here hexec rfl (hb hbytes d35) rfl ?_
    exact Steps.refl _)
  obtain ⟨v8, T8, X8, E8, g8⟩ := X5.callS hexec (Cmp3.law l b A o len) hown (wks W (staticW "java/lang/String" 177 Cmp3.yN)) (wk W Cmp3.tab) (W := 0) (Nat.le_of_ble_eq_true rfl) (Nat.le_of_ble_eq_true rfl) (Nat.le_refl _) (by show 0 + len ≤ len; omega) (g := (mkF m 36 #[.val (.ref a), .val (.ref b), .val (.int (Int32.ofNat o)), .val (.int (Int32.ofNat len)), .val .null, .unset] [.int (Int32.ofNat len), .int (Int32.ofNat o), .ref b])) rfl (by rw [hml]; rfl) c7 (argsL := [.ref b, .int (Int32.ofNat o), .int (Int32.ofNat len)]) (rest := []) rfl rfl (by show 2 * 0 + 0 ≤ _; decide) (hb hbytes d36) (⟨rfl, hA.mv X5.warmed.alike hh5, l1, l2, hp⟩)
  obtain ⟨e8, z8⟩ := E8
  obtain ⟨rfl, N, n1, n2, n3, n4, n5, n6⟩ := NewArr.mv _ T5 s _ _ hh5.symm (Vm.Alike.refl _) rfl e8
  rw [hh5] at z8
  have hB1 := hB.keep X8.warmed.alike (n6 _ _ hB.1)
  have hne : s.heap.size ≠ a := (Nat.ne_of_lt (Array.getElem?_eq_some_iff.mp hB.1).1).symm
  have c9 : Steps p.tables e below (s₁.setTop (entryFrame m #[.ref a, .ref b, .int (Int32.ofNat o), .int (Int32.ofNat len), .null] 6)) (T8.setTop (mkF m 39 #[.val (.ref a), .val (.ref b), .val (.int (Int32.ofNat o)), .val (.int (Int32.ofNat len)), .val .null, .unset] [.ref s.heap.size])) := g8
  have c10 : Steps p.tables e below (s₁.setTop (entryFrame m #[.ref a, .ref b, .int (Int32.ofNat o), .int (Int32.ofNat len), .null] 6)) (T8.setTop (mkF m 45 #[.val (.ref a), .val (.ref b), .val (.int (Int32.ofNat o)), .val (.int (Int32.ofNat len)), .val .null, .val (.ref s.heap.size)] [.int (Int32.ofNat N.slots.size), .ref s.heap.size, .ref a])) := by
    have hc : Steps p.tables e below (s₁.setTop (entryFrame m #[.ref a, .ref b, .int (Int32.ofNat o), .int (Int32.ofNat len), .null] 6)) (T8.setTop (mkF m 45 #[.val (.ref a), .val (.ref b), .val (.int (Int32.ofNat o)), .val (.int (Int32.ofNat len)), .val .null, .val (.ref s.heap.size)] [.int (Int32.ofNat len), .ref s.heap.size, .ref a])) := c9.trans (by
      refine XS.astore X8.here hexec rfl (hb hbytes d39) rfl rfl rfl ?_
      refine XS.aloadN X8.here hexec rfl (hb hbytes d41) rfl rfl ?_
      refine XS.aload X8.here hexec rfl (hb hbytes d42) rfl rfl ?_
      refine XS.iloadN X8.here hexec rfl (hb hbytes d44) rfl ?_
      exact Steps.refl _)
    rw [n4]; exact hc
  obtain ⟨v11, T11, X11, E11, g11⟩ := X8.callS hexec (CodL.law l s.heap.size N) hown (wks W (staticW "java/lang/String" 47 CodL.yN)) (wk W CodL.tab) (W := 1) (Nat.le_of_ble_eq_true rfl) (Nat.le_of_ble_eq_true rfl) (Nat.le_refl _) (by show 0 + len + 0 ≤ len; omega) (g := (mkF m 45 #[.val (.ref a), .val (.ref b), .val (.int (Int32.ofNat o)), .val (.int (Int32.ofNat len)), .val .null, .val (.ref s.heap.size)] [.int (Int32.ofNat N.slots.size), .ref s.heap.size, .ref a])) rfl (by rw [hml]; rfl) c10 (argsL := [.ref s.heap.size, .int (Int32.ofNat N.slots.size)]) (rest := [.ref a]) rfl rfl (by show 2 * 0 + (1 + 0) ≤ _; decide) (hb hbytes d45) (⟨rfl, n1⟩)
  obtain ⟨rfl, q11⟩ := E11
  have hB11 := hB1.mv (X8.warmed.alike.symm.trans X11.warmed.alike) q11
  have c12 : Steps p.tables e below (s₁.setTop (entryFrame m #[.ref a, .ref b, .int (Int32.ofNat o), .int (Int32.ofNat len), .null] 6)) (T11.setTop (mkF m 48 #[.val (.ref a), .val (.ref b), .val (.int (Int32.ofNat o)), .val (.int (Int32.ofNat len)), .val .null, .val (.ref s.heap.size)] [.int 0, .ref a])) := g11
  obtain ⟨T13, X13, p13, bl13, sl13, st13⟩ := X11.finit hexec hown (wk W (.fieldLink "java/lang/String" 15 "java/lang/String" "coder" "B")) (Or.inr ⟨_, (wk W (.laysFinal "java/lang/String" "java/lang/String" "coder" "B"))⟩) (Or.inl ⟨rfl, hnm⟩) f2 (Or.inl rfl) hB11 (t := .byte) (by decide +kernel) rfl (g := (mkF m 48 #[.val (.ref a), .val (.ref b), .val (.int (Int32.ofNat o)), .val (.int (Int32.ofNat len)), .val .null, .val (.ref s.heap.size)] [.int 0, .ref a])) rfl (rest := []) rfl (hb hbytes d48)
  have c14 : Steps p.tables e below (s₁.setTop (entryFrame m #[.ref a, .ref b, .int (Int32.ofNat o), .int (Int32.ofNat len), .null] 6)) (T13.setTop (mkF m 54 #[.val (.ref a), .val (.ref b), .val (.int (Int32.ofNat o)), .val (.int (Int32.ofNat len)), .val .null, .val (.ref s.heap.size)] [.ref s.heap.size, .ref a])) := (c12.trans (st13 _ (Steps.refl _))).trans (by
    refine XS.aloadN X13.here hexec rfl (hb hbytes d51) rfl rfl ?_
    refine XS.aload X13.here hexec rfl (hb hbytes d52) rfl rfl ?_
    exact Steps.refl _)
  obtain ⟨T15, X15, p15, bl15, sl15, st15⟩ := X13.finit hexec hown (wk W (.fieldLink "java/lang/String" 9 "java/lang/String" "value" "[B")) (Or.inr ⟨_, (wk W (.laysFinal "java/lang/String" "java/lang/String" "value" "[B"))⟩) (Or.inl ⟨rfl, hnm⟩) f1 (Or.inl rfl) bl13 (t := (.array .byte)) (by decide +kernel) rfl (g := (mkF m 54 #[.val (.ref a), .val (.ref b), .val (.int (Int32.ofNat o)), .val (.int (Int32.ofNat len)), .val .null, .val (.ref s.heap.size)] [.ref s.heap.size, .ref a])) rfl (rest := []) rfl (hb hbytes d54)
  have c16 : Steps p.tables e below (s₁.setTop (entryFrame m #[.ref a, .ref b, .int (Int32.ofNat o), .int (Int32.ofNat len), .null] 6)) (T15.setTop (mkF m 57 #[.val (.ref a), .val (.ref b), .val (.int (Int32.ofNat o)), .val (.int (Int32.ofNat len)), .val .null, .val (.ref s.heap.size)] [])) := c14.trans (st15 _ (Steps.refl _))
  have ap := apart (Or.inr ⟨_, (wk W (.laysFinal "java/lang/String" "java/lang/String" "value" "[B"))⟩) (Or.inr ⟨_, (wk W (.laysFinal "java/lang/String" "java/lang/String" "coder" "B"))⟩) f1 f2 (t₁ := .array .byte) (t₂ := .byte) (by decide +kernel) (by decide +kernel) (by decide)
  have al := X8.warmed.alike.symm.trans X15.warmed.alike
  have n7 : T11.heap[s.heap.size]? = some N := by rw [q11]; exact n1.1
  exact ⟨T15, none, _, _, _, X15, by simp, rfl, by omega, (fun _ => rfl), ⟨rfl, _, N, bl15, ((Same.refl D _).set _ (by simp)).set _ (by simp), sl15, (Cell.slots_setSlot_ne _ ap).trans sl13, n1.keep al (p15.other hne (p13.other hne n7)), n2, by rw [al.findClass]; exact n3, n4, n5, fun y c h1 h2 => p15.other h1 (p13.other h1 (by rw [q11]; exact n6 y c h2)), by rw [p15.2.2, p13.2.2, q11]; exact z8⟩, fun fs hl => c16.trans (X15.returnOut hexec hret (hb hbytes d57) hl)⟩
end New4
namespace New1
def yN : MethodName := ⟨"java/lang/String", "<init>", "([C)V"⟩
abbrev yB : ByteArray := jdk_42_method_3_code
theorem d0 : decode yB 0 = .ok (.aload_n 0, 1) := by decide +kernel
theorem d1 : decode yB 1 = .ok (.aload_n 1, 1) := by decide +kernel
theorem d2 : decode yB 2 = .ok (.iconst 0, 1) := by decide +kernel
theorem d3 : decode yB 3 = .ok (.aload_n 1, 1) := by decide +kernel
theorem d4 : decode yB 4 = .ok (.arraylength, 1) := by decide +kernel
theorem d5 : decode yB 5 = .ok (.aconst_null, 1) := by decide +kernel
theorem d6 : decode yB 6 = .ok (.invokespecial 27, 3) := by decide +kernel
theorem d9 : decode yB 9 = .ok (.return_, 1) := by decide +kernel
def site : List Cond := [New4.tab] ++ initW "java/lang/String" 27 New4.yN
def tab : Cond := tabOf yN yB 2 none site
def P (a : Addr) (D : Cell) (fV fC : Field) (b : Addr) (A : Cell) (z : Int32) (args : Array Value) (s : State) : Prop := args = #[.ref a, .ref b] ∧ Blank "java/lang/String" a D s ∧ Found "java/lang/String" "value" "[B" fV s ∧ Found "java/lang/String" "coder" "B" fC s ∧ Ch b A s ∧ StaticIs s "java/lang/String" "COMPACT_STRINGS" "Z" (.int z) ∧ ¬ z = 0 ∧ 0 < A.slots.size ∧ A.slots.size ≤ 536870912 ∧ ∀ i, i < A.slots.size → ¬ 255 < cv A i
def E (a : Addr) (D : Cell) (fV fC : Field) (A : Cell) (r : Option Value) (s u : State) : Prop := Got a D fV fC A 0 A.slots.size r s u
/-- new String(chars), not empty, no char above 255: a Latin-1 String of their low bytes -/
theorem law (l : Launch) (a : Addr) (D : Cell) (fV fC : Field) (b : Addr) (A : Cell) (z : Int32) : Law l yN 2 1 3 52 yB 2 none site (P a D fV fC b A z) (E a D fV fC A) [⟨a, fC.slot⟩, ⟨a, fV.slot⟩] 1 A.slots.size := by
  refine Law.of_walk (plainFor_of_name (by decide +kernel)) (by decide +kernel) (by decide +kernel) (by decide) (fun _ _ h => by rw [h.1]; rfl) (fun _ U U' hal hh h => ⟨h.1, h.2.1.mv hal hh, h.2.2.1.al hal, h.2.2.2.1.al hal, h.2.2.2.2.1.mv hal hh, h.2.2.2.2.2.1.there hal hh, h.2.2.2.2.2.2⟩) (fun r U U' V V' h1 hal h2 h => Got.mv r U U' V V' h1 hal h2 h) ?_
  intro p e s m args below meth c s₁ X0 hexec hbytes hml hret hlk hnm hown hh0 W hP
  obtain ⟨rfl, hB, f1, f2, hA, s1, hz, l0, l2, hp⟩ := hP
  have c1 : Steps p.tables e below (s₁.setTop (entryFrame m #[.ref a, .ref b] 2)) (s₁.setTop (mkF m 0 #[.val (.ref a), .val (.ref b)] [])) := entry rfl
  have c2 : Steps p.tables e below (s₁.setTop (entryFrame m #[.ref a, .ref b] 2)) (s₁.setTop (mkF m 6 #[.val (.ref a), .val (.ref b)] [.null, .int (Int32.ofNat A.slots.size), .int 0, .ref b, .ref a])) := c1.trans (by
    refine XS.aloadN X0.here hexec rfl (hb hbytes d0) rfl rfl ?_
    refine XS.aloadN X0.here hexec rfl (hb hbytes d1) rfl rfl ?_
    refine iconstV X0.here hexec rfl 0 (hb hbytes d2) (by decide) ?_
    refine XS.aloadN X0.here hexec rfl (hb hbytes d3) rfl rfl ?_
    refine X0.alen hexec (hA.1.mv X0.warmed.alike hh0) rfl rfl (hb hbytes d4) ?_
    refine XS.aconstNull X0.here hexec rfl (hb hbytes d5) ?_
    exact Steps.refl _)
  obtain ⟨v3, T3, X3, E3, g3⟩ := X0.callN hexec (New4.law l a D fV fC b A z 0 A.slots.size) rfl hown (wks W (initW "java/lang/String" 27 New4.yN)) (W New4.tab (by simp only [site, List.mem_cons, List.mem_append, true_or, or_true])) (W := 0) (Nat.le_of_ble_eq_true rfl) (Nat.le_of_ble_eq_true rfl) (Nat.le_refl _) (by show 0 + A.slots.size ≤ A.slots.size; omega) (g := (mkF m 6 #[.val (.ref a), .val (.ref b)] [.null, .int (Int32.ofNat A.slots.size), .int (Int32.ofNat 0), .ref b, .ref a])) rfl (by rw [hml]; rfl) c2 (argsL := [.ref b, .int (Int32.ofNat 0), .int (Int32.ofNat A.slots.size), .null]) (rest := []) rfl rfl (by show 2 * 0 + 0 ≤ _; decide) (hb hbytes d6) (⟨rfl, hB.mv X0.warmed.alike hh0, f1.al X0.warmed.alike, f2.al X0.warmed.alike, hA.mv X0.warmed.alike hh0, s1.there X0.warmed.alike hh0, hz, l0, by omega, l2, fun i hi => by rw [Nat.zero_add]; exact hp i hi⟩)
  have e0 := Got.mv _ s₁ s _ _ hh0.symm (Vm.Alike.refl _) rfl E3
  obtain rfl := e0.1
  have c4 : Steps p.tables e below (s₁.setTop (entryFrame m #[.ref a, .ref b] 2)) (T3.setTop (mkF m 9 #[.val (.ref a), .val (.ref b)] [])) := g3
  exact ⟨T3, none, _, _, _, X3, by simp, rfl, by omega, (fun _ => rfl), e0, fun fs hl => c4.trans (X3.returnOut hexec hret (hb hbytes d9) hl)⟩
theorem pays {l : Launch} {R : Room} {p : Program} {e : Env} {below : List Frame} {s : State} {sargs : Array Value} {len W : Nat} (a : Addr) (D : Cell) (fV fC : Field) (b : Addr) (A : Cell) (z : Int32) (htab : tab.before sargs s = true) (hfr : 4 ≤ R.frames) (hlo : W + 65 ≤ R.locals) :
    Back l R p e below s sargs yN len W (fun A₁ a₁ => A₁.cells + 1 ≤ R.cells ∧ A₁.slots + A.slots.size ≤ R.slots ∧ P a D fV fC b A z a₁ A₁.U) (fun A₁ _ v₁ B₁ => E a D fV fC A v₁ A₁.U B₁.U ∧ B₁.locs = A₁.locs ++ [⟨a, fC.slot⟩, ⟨a, fV.slot⟩] ∧ B₁.cells = A₁.cells + 1 ∧ B₁.slots = A₁.slots + A.slots.size) :=
  (law l a D fV fC b A z).pays htab hfr (by omega)
end New1
end StrChars
namespace StrChars.Road
open Jvm Sem ClassFile Op Lib Jvm.Stand Jvm.Free Jvm.Free.XT
open Jvm.Lib.Cold (StaticIs)
abbrev ST : String := "java/lang/String"
/-- every table word that New1's law asks, flat -/
abbrev words : List Jvm.Cond := [.code New1.yN New1.yB 2 none, .initialized ST, .methodLink ST 27 New4.yN, .instanceMethod New4.yN,
  .code New4.yN New4.yB 6 none, .fieldLink ST 38 ST "COMPACT_STRINGS" "Z", .laysFinal ST ST "value" "[B", .fieldLink ST 9 ST "value" "[B", .laysFinal ST ST "coder" "B", .fieldLink ST 15 ST "coder" "B",
  .methodLink ST 1 Lib.objectInit, .instanceMethod Lib.objectInit, .code Lib.objectInit ⟨#[0xb1]⟩ 1 none, .methodLink ST 177 Cmp3.yN, .static Cmp3.yN, .methodLink ST 47 CodL.yN, .static CodL.yN,
  .code Cmp3.yN Cmp3.yB 6 (some (.array .byte)), .initialized U16, .arrayClass .byte, .methodLink U16 115 Cmp5.yN, .static Cmp5.yN, .code Cmp5.yN Cmp5.yB 7 (some .int), .code CodL.yN CodL.yB 2 (some .byte)]
theorem tab_of {a : Array Value} {s : State} (h : ∀ w ∈ words, w.before a s = true) : New1.tab.before a s = true := by
  have h5 : Cmp5.tab.before a s = true := unparts (wk h (.code Cmp5.yN Cmp5.yB 7 (some .int))) (wks h (.initialized Cmp5.yN.cls :: Cmp5.site))
  have hc : CodL.tab.before a s = true := unparts (wk h (.code CodL.yN CodL.yB 2 (some .byte))) (wks h (.initialized CodL.yN.cls :: CodL.site))
  have q5 : ∀ w ∈ Cmp5.tab :: words, w.before a s = true := fun w hw => (List.mem_cons.mp hw).elim (fun e => e ▸ h5) (h w)
  have h3 : Cmp3.tab.before a s = true := unparts (wk q5 (.code Cmp3.yN Cmp3.yB 6 (some (.array .byte)))) (wks q5 (.initialized Cmp3.yN.cls :: Cmp3.site))
  have q3 : ∀ w ∈ Cmp3.tab :: CodL.tab :: words, w.before a s = true := fun w hw => (List.mem_cons.mp hw).elim (fun e => e ▸ h3) fun hw => (List.mem_cons.mp hw).elim (fun e => e ▸ hc) (h w)
  have h4 : New4.tab.before a s = true := unparts (wk q3 (.code New4.yN New4.yB 6 none)) (wks q3 (.initialized New4.yN.cls :: New4.site))
  have q4 : ∀ w ∈ New4.tab :: words, w.before a s = true := fun w hw => (List.mem_cons.mp hw).elim (fun e => e ▸ h4) (h w)
  exact unparts (wk q4 (.code New1.yN New1.yB 2 none)) (wks q4 (.initialized New1.yN.cls :: New1.site))
/-- the words ride from the start Z to the walk's own state -/
theorem moved {Z s : State} {a0 args : Array Value} (hZ : Z.Warmed39 s.vm) (hw : ∀ d ∈ words, d.before a0 Z = true) : ∀ d ∈ words, d.before args s = true := fun d hd => by
  have q := hw d hd
  have t : ∀ d ∈ words, d = .arrayClass .byte ∨ (d.onTables && d.keepsFace) = true := by decide +kernel
  rcases t d hd with rfl | t
  · exact RoadKit.mvA hZ q
  · exact RoadKit.mv hZ q t
/-- WHAT COMES BACK, over the tables of the start Z: h the heap at the call, h' behind it -/
def Q (Z : State) (x : Addr) (A : Cell) (h : Heap) (v : Option Value) (h' : Heap) (L : List Loc) : Prop := v = none ∧ (∀ y ∈ L, y.base = x) ∧ RoadKit.Keep h h' [x] ∧ h'.size = h.size + 1 ∧ RoadKit.Exa Z h' x ST ∧ RoadKit.Fld Z h' x ST "value" "[B" (.ref h.size) ∧ RoadKit.Fld Z h' x ST "coder" "B" (.int 0) ∧
  (∃ V : Cell, RoadKit.Arr Z h' h.size V .byte ∧ V.vm = .none ∧ Z.vm.findClass "[B" = some V.cls ∧ V.slots.size = A.slots.size ∧ ∀ j, j < A.slots.size → V.slots[j]? = some (.int (lo8 (cv A j)))) ∧
  ∀ (O n d : String) (w : Value), RoadKit.Fld Z h x O n d w → RoadKit.slotOf Z O n d ≠ RoadKit.slotOf Z ST "value" "[B" → RoadKit.slotOf Z O n d ≠ RoadKit.slotOf Z ST "coder" "B" → RoadKit.Fld Z h' x O n d w
/-- **new String(chars) AT A CALL, IN THE ROAD'S FORM**: for specialBack behind newO: x the fresh String, b the char[] with the cell A -/
theorem back {p : Program} {l : Launch} {e : Env} {R : Room} {s : State} {args : Array Value} {below : List Frame} {len W : Nat} {Z : State} {a0 : Array Value} {h : Heap} (hZ : Z.Warmed39 s.vm) (hw : ∀ d ∈ words, d.before a0 Z = true) {kI : Nat} (wi : (Jvm.Cond.instantiable ST kI).before a0 Z = true)
    {x b : Addr} {A : Cell} {z : Int32} {v0 c0 : Value} (E : RoadKit.Exa Z h x ST) (V : RoadKit.Fld Z h x ST "value" "[B" v0) (C : RoadKit.Fld Z h x ST "coder" "B" c0) (K : RoadKit.Arr Z h b A .char) (hty : Typed .char A) (S : RoadKit.Sta Z h ST "COMPACT_STRINGS" "Z" (.int z)) (hz : ¬ z = 0)
    (l0 : 0 < A.slots.size) (l2 : A.slots.size ≤ 536870912) (hp : ∀ i, i < A.slots.size → ¬ 255 < cv A i) (hfr : 4 ≤ R.frames) (hlo : W + 65 ≤ R.locals) :
    Back l R p e below s args New1.yN len W (fun P a => a = #[.ref x, .ref b] ∧ P.U.heap = h ∧ P.cells + 1 ≤ R.cells ∧ P.slots + A.slots.size ≤ R.slots)
      (fun P _ v B => ∃ L, Q Z x A h v B.U.heap L ∧ B.locs = P.locs ++ L ∧ B.cells = P.cells + 1 ∧ B.slots = P.slots + A.slots.size) := by
  intro m meth c P g ig mk a X hg hsize hdg hW hn hp'
  obtain ⟨rfl, rfl, r1, r2⟩ := hp'
  have al : Z.vm.Alike P.U.vm := hZ.alike.trans X.warmed.alike
  obtain ⟨D, cfV, kV, iV, fV, hD, gV, stV, knV, obV, asV, slV⟩ := id V
  obtain ⟨D', cfC, kC, iC, fC, hD', gC, stC, -, -, asC, slC⟩ := id C
  cases hD.symm.trans hD'
  obtain ⟨D2, kD, e1, e2, e3, e4, e5⟩ := id E
  cases hD.symm.trans e1
  obtain ⟨c2, k2, i1, i2, i3, -⟩ := Cond.instantiable_spec wi
  cases e2.symm.trans i1
  cases e3.symm.trans i2
  obtain ⟨kU, u1, u2⟩ := al.2.2 _ _ e3
  have hB : Blank ST x D P.U := ⟨hD, ⟨knV, fun q hq => by rw [hq] at obV; cases obV⟩, by rw [al.findClass]; exact e2, kU, u1, by rw [u2]; exact i3, by rw [u2]; exact e5 i3⟩
  have F1 : Found ST "value" "[B" fV P.U := ⟨SBG.found_only al ⟨cfV, kV, iV, gV⟩, stV⟩
  have F2 : Found ST "coder" "B" fC P.U := ⟨SBG.found_only al ⟨cfC, kC, iC, gC⟩, stC⟩
  have hA : Ch b A P.U := ⟨⟨K.1, State.isArrayOf_alike al K.2.1, K.2.2, by omega⟩, hty⟩
  have hS : StaticIs P.U ST "COMPACT_STRINGS" "Z" (.int z) := by
    obtain ⟨cfS, iS, kS, fS, st, cS, t1, t2, t3, t4, t5, t6, t7⟩ := S
    exact StaticIs.there (s := { Z with heap := P.U.heap }) ⟨cfS, iS, kS, fS, st, cS, t1, t2, t3, t4, t5, (fun q => by rw [q] at t6; cases t6), t7⟩ al rfl
  obtain ⟨v, B, X', ⟨⟨hv, E', V', q1, q2, q3, q4, q5, q6, q7, q8, q9, q10, q11⟩, hl, hc, hs⟩, st⟩ := New1.pays x D fV fC b A z (tab_of (moved hZ hw)) hfr hlo m meth c P g ig mk _ X hg hsize hdg hW hn ⟨r1, r2, rfl, hB, F1, F2, hA, hS, hz, l0, l2, hp⟩
  have al' : Z.vm.Alike B.U.vm := hZ.alike.trans X'.warmed.alike
  have hsz : E'.slots.size = D.slots.size := by
    obtain ⟨-, -, -, kB, w1, w2, w3⟩ := q1
    obtain ⟨kB', y1, y2⟩ := al'.2.2 _ _ e3
    rw [q2.2.1] at w1
    cases w1.symm.trans y1
    rw [w3, e5 i3, y2]
  refine ⟨v, B, X', ⟨_, ⟨hv, ?_, ⟨by omega, fun y cy hy hn' => q10 y cy (by simpa using hn') hy, fun y cy hy => ?_⟩, q11, ⟨E', _, q1.1, by rw [q2.2.1]; exact e2, by rw [q2.2.1]; exact e3, by rw [q2.1]; exact obV, fun _ => by rw [hsz]; exact e5 i3⟩,
    ⟨E', cfV, kV, iV, fV, q1.1, gV, stV, by rw [q2.1]; exact knV, by rw [q2.1]; exact obV, by rw [q2.2.1]; exact asV, q3⟩, ⟨E', cfC, kC, iC, fC, q1.1, gC, stC, by rw [q2.1]; exact knV, by rw [q2.1]; exact obV, by rw [q2.2.1]; exact asC, q4⟩,
    ⟨V', ⟨q5.1, State.isArrayOf_alike al'.symm q5.2.1, q5.2.2.1⟩, q6, by rw [← al'.findClass]; exact q7, q8, fun j hj => by have := q9 j hj; rwa [Nat.zero_add] at this⟩, fun O n d w F n1 n2 => ?_⟩, hl, hc, hs⟩, st⟩
  · intro y hy
    simp only [List.mem_cons, List.not_mem_nil, or_false] at hy
    rcases hy with rfl | rfl <;> rfl
  · by_cases q : y = x
    · subst q
      cases hD.symm.trans hy
      exact ⟨E', q1.1, q2.2.1, q2.1, hsz⟩
    · exact ⟨cy, q10 y cy q hy, rfl, rfl, rfl⟩
  · obtain ⟨D3, cf, k, i, f, g1, g2, g3, g4, g5, g6, g7⟩ := F
    cases hD.symm.trans g1
    simp only [RoadKit.slotOf, g2, gV, gC, Option.map_some, Option.getD_some] at n1 n2
    exact ⟨E', cf, k, i, f, q1.1, g2, g3, by rw [q2.1]; exact g4, by rw [q2.1]; exact g5, by rw [q2.2.1]; exact g6, by rw [q2.2.2 f.slot (by simp [n1, n2])]; exact g7⟩
end StrChars.Road
namespace StrChars.Road
open Jvm Sem ClassFile Op Lib Jvm.Stand Jvm.Free Jvm.Free.XT
/-- WHAT COMES BACK, the byte[] as a list of values -/
def QA (Z : State) (x : Addr) (zn : Int32) (cs : List Int32) (h : Heap) (v : Option Value) (h' : Heap) (L : List Loc) : Prop := v = none ∧ (∀ y ∈ L, y.base = x) ∧ RoadKit.Keep h h' [x] ∧ h'.size = h.size + 1 ∧ RoadKit.Exa Z h' x ST ∧ RoadKit.Fld Z h' x ST "value" "[B" (.ref h.size) ∧ RoadKit.Fld Z h' x ST "coder" "B" (.int 0) ∧
  (∃ kb, Z.vm.findClass "[B" = some kb ∧ RoadKit.Arv Z h' h.size kb .byte zn (cs.map fun c => .int (lo8 c)) (.int 0)) ∧
  ∀ (O n d : String) (w : Value), RoadKit.Fld Z h x O n d w → RoadKit.slotOf Z O n d ≠ RoadKit.slotOf Z ST "value" "[B" → RoadKit.slotOf Z O n d ≠ RoadKit.slotOf Z ST "coder" "B" → RoadKit.Fld Z h' x O n d w
/-- **new String(chars) AT A CALL, THE ARRAYS AS LISTS**: the char[] at b holds cs, not empty, no char above 255 -/
theorem backArv {p : Program} {l : Launch} {e : Env} {R : Room} {s : State} {args : Array Value} {below : List Frame} {len W : Nat} {Z : State} {a0 : Array Value} {h : Heap} (hZ : Z.Warmed39 s.vm) (hw : ∀ d ∈ words, d.before a0 Z = true) {kI : Nat} (wi : (Jvm.Cond.instantiable ST kI).before a0 Z = true)
    {x b : Addr} {k : ClassId} {zn z : Int32} {cs : List Int32} {dv v0 c0 : Value} (E : RoadKit.Exa Z h x ST) (V : RoadKit.Fld Z h x ST "value" "[B" v0) (C : RoadKit.Fld Z h x ST "coder" "B" c0) (K : RoadKit.Arv Z h b k .char zn (cs.map Value.int) dv) (S : RoadKit.Sta Z h ST "COMPACT_STRINGS" "Z" (.int z)) (hz : ¬ z = 0)
    (hlen : zn.toNatClampNeg = cs.length) (h0 : 0 < cs.length) (hbig : cs.length ≤ 536870912) (hall : ∀ c ∈ cs, ¬ 255 < c) (hfr : 4 ≤ R.frames) (hlo : W + 65 ≤ R.locals) :
    Back l R p e below s args New1.yN len W (fun P a => a = #[.ref x, .ref b] ∧ P.U.heap = h ∧ P.cells + 1 ≤ R.cells ∧ P.slots + cs.length ≤ R.slots)
      (fun P _ v B => ∃ L, QA Z x zn cs h v B.U.heap L ∧ B.locs = P.locs ++ L ∧ B.cells = P.cells + 1 ∧ B.slots = P.slots + cs.length) := by
  obtain ⟨A, K1, K2, K3, K4, K5, K6⟩ := K
  have e : A.slots.size = cs.length := K3.trans hlen
  have hat : ∀ (i : Nat) (hi : i < cs.length), A.slots[i]? = some (.int cs[i]) := fun i hi => by rw [K5 i (by omega)]; simp [List.getD_eq_getElem?_getD, hi]
  have hcv : ∀ (i : Nat) (hi : i < cs.length), cv A i = cs[i] := fun i hi => by unfold cv; rw [hat i hi]
  have hty : Typed .char A := fun i v hv => by
    have hi : i < A.slots.size := (Array.getElem?_eq_some_iff.mp hv).1
    have q := K5 i hi
    rw [hv] at q
    rw [Option.some.inj q]
    exact K6 i hi
  refine Back.mono (back hZ hw wi E V C K1 hty S hz (by omega) (by omega) (fun i hi => by rw [hcv i (by omega)]; exact hall _ (List.getElem_mem _)) hfr hlo) (fun P a hp => ⟨hp.1, hp.2.1, hp.2.2.1, by rw [e]; exact hp.2.2.2⟩) (fun P a v B hp hq => ?_)
  obtain ⟨L, ⟨q1, q2, q3, q4, q5, q6, q7, ⟨V', v1, v2, v3, v4, v5⟩, q9⟩, hl, hc, hs⟩ := hq
  refine ⟨L, ⟨q1, q2, q3, q4, q5, q6, q7, ⟨V'.cls, v3, V', v1, rfl, by rw [v4, e, hlen], K4, fun i hi => ?_, fun i hi => ?_⟩, q9⟩, hl, hc, by rw [hs, e]⟩
  · have hi' : i < cs.length := by omega
    rw [v5 i (by omega), hcv i hi']; simp [List.getD_eq_getElem?_getD, hi']
  · have hi' : i < cs.length := by omega
    simp only [List.getD_eq_getElem?_getD, List.getElem?_map, List.getElem?_eq_getElem hi', Option.map_some, Option.getD_some]
    exact fits_lo8 _
end StrChars.Road
namespace StrChars.Road
open Jvm Sem ClassFile Op Lib Jvm.Stand Jvm.Free Jvm.Free.XT
/-- WHAT COMES BACK, in the writer's own shape -/
def QV (Z : State) (x : Addr) (N : Int32) (bs : List Int32) (h : Heap) (n0 : Nat) (v : Option Value) (h' : Heap) (L : List Loc) : Prop := v = none ∧ RoadKit.Fr n0 L ∧ RoadKit.Keep h h' [x] ∧ RoadKit.Exa Z h' x ST ∧ RoadKit.Fld Z h' x ST "coder" "B" (.int 0) ∧
  ∃ (t : Addr) (kb : ClassId), n0 ≤ t ∧ h.size ≤ t ∧ ¬ t = x ∧ RoadKit.Fld Z h' x ST "value" "[B" (.ref t) ∧ RoadKit.Arv Z h' t kb .byte N (bs.map Value.int) (.int 0)
/-- **new String(chars) AT A CALL, FOR THE WRITER**: a char[] of n known ints, each 0 to 255 -/
theorem backV {p : Program} {l : Launch} {e : Env} {R : Room} {s : State} {args : Array Value} {below : List Frame} {len W : Nat} {Z : State} {a0 : Array Value} {h : Heap} (hZ : Z.Warmed39 s.vm) (hw : ∀ d ∈ words, d.before a0 Z = true) {kI : Nat} (wi : (Jvm.Cond.instantiable ST kI).before a0 Z = true)
    {x b : Addr} {kC : ClassId} {cs bs : List Int32} {d v0 c0 : Value} {z N : Int32} {n n0 : Nat} (hx0 : n0 ≤ x) (hh0 : n0 ≤ h.size) (E : RoadKit.Exa Z h x ST) (V : RoadKit.Fld Z h x ST "value" "[B" v0) (C : RoadKit.Fld Z h x ST "coder" "B" c0) (K : RoadKit.Arv Z h b kC .char N (cs.map Value.int) d) (S : RoadKit.Sta Z h ST "COMPACT_STRINGS" "Z" (.int z)) (hz : ¬ z = 0)
    (hn : cs.length = n) (hN : N = Int32.ofNat n) (l0 : 0 < n) (l2 : n ≤ 4000) (hp : ∀ c ∈ cs, ¬ c < 0 ∧ ¬ (255 : Int32) < c) (hb : bs = cs.map (fun c => c.toInt8.toInt32)) (hfr : 4 ≤ R.frames) (hlo : W + 65 ≤ R.locals) :
    Back l R p e below s args (⟨"java/lang/String", "<init>", "([C)V"⟩ : MethodName) len W (fun P a => a = #[.ref x, .ref b] ∧ P.U.heap = h ∧ P.cells + 1 ≤ R.cells ∧ P.slots + n ≤ R.slots)
      (fun P _ v B => ∃ L, QV Z x N bs h n0 v B.U.heap L ∧ B.locs = P.locs ++ L ∧ B.cells = P.cells + 1 ∧ B.slots = P.slots + n) := by
  subst hn hN hb
  refine Back.mono (backArv hZ hw wi E V C K S hz (n32 (by omega)) l0 (by omega) (fun c hc => (hp c hc).2) hfr hlo) (fun P a hp => hp) (fun P a v B hp hq => ?_)
  obtain ⟨L, ⟨q1, q2, q3, q4, q5, q6, q7, ⟨kb, v1, v2⟩, q9⟩, hl, hc, hs⟩ := hq
  exact ⟨L, ⟨q1, fun y hy => by rw [q2 y hy]; exact hx0, q3, q5, q7, h.size, kb, hh0, Nat.le_refl _, Nat.ne_of_gt E.lt, q6, by rw [List.map_map]; exact v2⟩, hl, hc, hs⟩
end StrChars.Road
namespace StrChars
open Jvm Sem ClassFile Op Lib Jvm.Stand Jvm.Free.XT Jvm.Free.ALB Jvm.Free.JM Jvm.Free
open Jvm.Lib.Cold (StaticIs)
def hi8 (x : Int32) : Int32 := lo8 (x >>> ((8 : Int32) &&& 31))
end StrChars
namespace StrChars.Road
open Jvm Sem ClassFile Op Lib Jvm.Stand Jvm.Free Jvm.Free.XT
open Jvm.Lib.Cold (StaticIs)
/-- the bytes of the chars cs, low before high -/
def wideBytes : List Int32 → List Value
  | [] => []
  | c :: cs => .int (lo8 c) :: .int (hi8 c) :: wideBytes cs
/-- an array of N2 bytes vs codes the chars cs by the coder cd -/
def CodA (cs : List Int32) (cd N2 : Int32) (vs : List Value) : Prop := (cd = 0 ∧ N2 = Int32.ofNat cs.length ∧ vs = (cs.map fun c => Value.int (lo8 c)) ∧ ∀ c ∈ cs, ¬ 255 < c) ∨ (cd = 1 ∧ N2 = Int32.ofNat (2 * cs.length) ∧ vs = wideBytes cs ∧ ∃ c ∈ cs, 255 < c)
end StrChars.Road
namespace StrChars.Road
open Jvm Sem ClassFile Op Lib Jvm.Stand Jvm.Free Jvm.Free.XT
open Jvm.Lib.Cold (StaticIs)
/-- what backV says of its String, as the contracts of this text ask it: cs's low bytes, coder 0 -/
theorem codOf {cs : List Int32} {n : Nat} (hn : cs.length = n) (hb : ∀ c ∈ cs, ¬ 255 < c) : CodA cs 0 (Int32.ofNat n) ((cs.map lo8).map Value.int) := Or.inl ⟨rfl, by rw [hn], by simp [List.map_map, Function.comp_def], hb⟩
end StrChars.Road
end Jvm.Pilot.@@N@@
namespace Jvm.Pilot.@@N@@
open Jvm Jvm.ClassFile Sem Op Lib Jvm.Free Jvm.Stand Jvm.LawKit Jvm.RoadKit Bundle Jvm.OwnK Jvm.Pilot.@@N@@.Jvm.D
def EL1 : List (String × Nat) := [("com/example/pfortner/pfortner/pdp/Decision", 13), ("java/lang/String", 7)]
def Env1 (Z : State) (a0 : Array Value) : Prop := (∀ d ∈ tables_1, d.before a0 Z = true) ∧ EW Z a0 EL1 ∧ (∃ z : Int32, Sta Z Z.heap "java/lang/String" "COMPACT_STRINGS" "Z" (.int z) ∧ ¬ z = 0) ∧ ((∃ al : Addr, Sta Z Z.heap "com/example/pfortner/pfortner/pdp/Decision" "ALLOW" "Lcom/example/pfortner/pfortner/pdp/Decision;" (.ref al) ∧ Exa Z Z.heap al "com/example/pfortner/pfortner/pdp/Decision" ∧ Fld Z Z.heap al "com/example/pfortner/pfortner/pdp/Decision" "inhibitedBy" "Ljava/lang/String;" .null))
theorem wd {Z : State} {a0 : Array Value} (G : Env1 Z a0) (i : Nat) {d : Jvm.Cond} (h : tables_1[i]? = some d) : d.before a0 Z = true := G.1 d (List.mem_of_getElem? h)
theorem wS_in : ∀ a ∈ Bundle.stringAtoms, a ∈ tables_1 := by decide +kernel
theorem wS {Z : State} {a0 : Array Value} (G : Env1 Z a0) : ∀ a ∈ Bundle.stringAtoms, a.before a0 Z = true := fun a ha => G.1 a (wS_in a ha)
abbrev STN : String := "java/lang/String"
/-- a String that spells the chars cs -/
def Str (Z : State) (h : Heap) (a : Addr) (cs : List Int32) : Prop := ∃ (b : Addr) (kb : ClassId) (cd N2 : Int32) (vs : List Value), Exa Z h a STN ∧ Fld Z h a STN "value" "[B" (.ref b) ∧ Fld Z h a STN "coder" "B" (.int cd) ∧ Arv Z h b kb .byte N2 vs (.int 0) ∧ StrChars.Road.CodA cs cd N2 vs ∧ (∀ c ∈ cs, ¬ c < 0 ∧ ¬ (65535 : Int32) < c) ∧ cs.length ≤ 4000
theorem Str.ext {Z : State} {h h' : Heap} {a : Addr} {cs : List Int32} (F : Str Z h a cs) (E : Ext h h') : Str Z h' a cs := by
  obtain ⟨b, kb, cd, N2, vs, f1, f2, f3, f4, r⟩ := F
  exact ⟨b, kb, cd, N2, vs, f1.ext E, f2.ext E, f3.ext E, f4.ext E, r⟩
theorem Str.exa {Z : State} {h : Heap} {a : Addr} {cs : List Int32} (F : Str Z h a cs) : Exa Z h a STN := by obtain ⟨b, kb, cd, N2, vs, f1, -⟩ := F; exact f1
theorem Str.lt {Z : State} {h : Heap} {a : Addr} {cs : List Int32} (F : Str Z h a cs) : a < h.size := F.exa.lt
theorem le16 {cs : List Int32} (h : ∀ c ∈ cs, ¬ c < 0 ∧ ¬ (255 : Int32) < c) : ∀ c ∈ cs, ¬ c < 0 ∧ ¬ (65535 : Int32) < c := fun c hc => ⟨(h c hc).1, fun q => (h c hc).2 (Int32.lt_trans (by decide) q)⟩
theorem and255 (x : Int32) : ¬ (x &&& 255) < 0 ∧ ¬ (255 : Int32) < (x &&& 255) := by
  have h := c_and x 255 (by decide)
  have e : (255 : Int32).toInt = 255 := by decide
  have e0 : (0 : Int32).toInt = 0 := by decide
  rw [Int32.lt_iff_toInt_lt, Int32.lt_iff_toInt_lt, e, e0]; omega
theorem wBackV : ∀ d ∈ StrChars.Road.words, d ∈ tables_1 := by decide +kernel
theorem pays_str {l : Launch} {R : Room} {Z : State} {a0 : Array Value} {sf : List Addr} {W : Nat} (G : Env1 Z a0) {x b : Addr} {kc : ClassId} (cs : List Int32) {d v0 c0 : Value} {N : Int32} (n : Nat) (h : Heap) (E : Exa Z h x STN) (V : Fld Z h x STN "value" "[B" v0) (C : Fld Z h x STN "coder" "B" c0) (K : Arv Z h b kc .char N (cs.map Value.int) d)
    (hn : cs.length = n) (hN : N = Int32.ofNat n) (l0 : 0 < n) (l2 : n ≤ 4000) (hp : ∀ c ∈ cs, ¬ c < 0 ∧ ¬ (255 : Int32) < c) (hsf : x ∈ sf) (hfr : 4 ≤ R.frames) (hlo : W + 65 ≤ R.locals) :
    Pays l R Z a0 EL1 sf (⟨"java/lang/String", "<init>", "([C)V"⟩ : MethodName) 3 W #[.ref x, .ref b] h 1 n (fun v h' => v = none ∧ Keep h h' [x] ∧ Str Z h' x cs) := by
  obtain ⟨z, hS, hz⟩ := G.2.2.1
  refine Pays.of_back (ws := [x]) (fun p e below s args hZ hE hsz => StrChars.Road.backV (n0 := Z.heap.size) (bs := cs.map (fun c => c.toInt8.toInt32)) hZ (fun d hd => G.1 d (wBackV d hd)) (kI := 4) (wd G 2 rfl) (hsz x hsf) hE.1 E V C K (hS.ext hE) hz hn hN l0 l2 hp rfl hfr hlo) (allS hsf all0) ?_
  intro v h' L hE q
  obtain ⟨q1, q2, q3, q4, q5, t, kb, -, -, -, q6, q7⟩ := q
  refine ⟨q2, q3, q1, q3, t, kb, 0, N, _, q4, q6, q5, q7, ?_, le16 hp, by omega⟩
  subst hN
  exact StrChars.Road.codOf hn (fun c hc => (hp c hc).2)
theorem narrow_obj (C : String) (v : Value) : narrow (.object C) v = v := by cases v <;> rfl
theorem fits_obj {C : String} {v : Value} (h : v.isRef = true) : fits (.object C) v = true := by cases v <;> simp_all [Value.isRef, fits]
theorem narrow_bool {r : Int32} (h : r = 0 ∨ r = 1) : narrow .boolean (.int r) = .int r := by rcases h with rfl | rfl <;> rfl
theorem fits_bool {r : Int32} (h : r = 0 ∨ r = 1) : fits .boolean (.int r) = true := by rcases h with rfl | rfl <;> rfl
theorem toInt_cases {x : Int32} {n : Nat} (h0 : 0 ≤ x.toInt) (h1 : x.toInt < n) (hn : n ≤ 1000) : ∃ i : Nat, i < n ∧ x = Int32.ofNat i := by
  refine ⟨x.toInt.toNat, by omega, Int32.toInt_inj.mp ?_⟩
  rw [Int32.toInt_ofNat_of_lt (by omega)]; omega
theorem and3 (x : Int32) : (x &&& 3) = 0 ∨ (x &&& 3) = 1 ∨ (x &&& 3) = 2 ∨ (x &&& 3) = 3 := by
  have h := c_and x 3 (by decide)
  have e : (3 : Int32).toInt = 3 := by decide
  rw [e] at h
  obtain ⟨i, hi, q⟩ := toInt_cases (n := 4) h.1 (by omega) (by decide)
  rw [q]
  match i, hi with
  | 0, _ => decide
  | 1, _ => decide
  | 2, _ => decide
  | 3, _ => decide
theorem and1 (x : Int32) : (x &&& 1) = 0 ∨ (x &&& 1) = 1 := and_one x
theorem mask31 (x : Int32) : 0 ≤ (x &&& 2147483647).toInt := (c_and x 2147483647 (by decide)).1
theorem rem3 (x : Int32) : ((x &&& 2147483647) % 3) = 0 ∨ ((x &&& 2147483647) % 3) = 1 ∨ ((x &&& 2147483647) % 3) = 2 := by
  have h := (c_iremV (x &&& 2147483647) 3).1 (mask31 x) (by decide)
  have e : (3 : Int32).toInt = 3 := by decide
  rw [e] at h
  obtain ⟨i, hi, q⟩ := toInt_cases (n := 3) h.1 (by omega) (by decide)
  rw [q]
  match i, hi with
  | 0, _ => decide
  | 1, _ => decide
  | 2, _ => decide
theorem nar255 {u : Int32} (h : ¬ u < 0 ∧ ¬ (255 : Int32) < u) : nar .char u = u := by
  have q := c_i2c u
  refine Int32.toInt_inj.mp ?_
  rw [Int32.lt_iff_toInt_lt, Int32.lt_iff_toInt_lt] at h
  have e : (255 : Int32).toInt = 255 := by decide
  have e0 : (0 : Int32).toInt = 0 := by decide
  rw [e, e0] at h
  show u.toUInt32.toUInt16.toUInt32.toInt32.toInt = u.toInt
  omega
theorem d2_0 : decode jdk_42_method_149_code 0 = .ok (.aload_n 0, 1) := by decide +kernel
theorem d2_1 : decode jdk_42_method_149_code 1 = .ok (.invokespecial 1, 3) := by decide +kernel
theorem d2_4 : decode jdk_42_method_149_code 4 = .ok (.iload_n 3, 1) := by decide +kernel
theorem d2_5 : decode jdk_42_method_149_code 5 = .ok (.ifCond .ne 22, 3) := by decide +kernel
theorem d2_8 : decode jdk_42_method_149_code 8 = .ok (.aload_n 0, 1) := by decide +kernel
theorem d2_9 : decode jdk_42_method_149_code 9 = .ok (.ldc 7, 2) := by decide +kernel
theorem d2_11 : decode jdk_42_method_149_code 11 = .ok (.getfield 9, 3) := by decide +kernel
theorem d2_14 : decode jdk_42_method_149_code 14 = .ok (.putfield 9, 3) := by decide +kernel
theorem d2_17 : decode jdk_42_method_149_code 17 = .ok (.aload_n 0, 1) := by decide +kernel
theorem d2_18 : decode jdk_42_method_149_code 18 = .ok (.ldc 7, 2) := by decide +kernel
theorem d2_20 : decode jdk_42_method_149_code 20 = .ok (.getfield 15, 3) := by decide +kernel
theorem d2_23 : decode jdk_42_method_149_code 23 = .ok (.putfield 15, 3) := by decide +kernel
theorem d2_26 : decode jdk_42_method_149_code 26 = .ok (.return_, 1) := by decide +kernel
theorem pn_java_lang_String : plainName "java/lang/String" = true := by first | (simp [plainName, overriddenIn]; done) | decide +kernel
theorem ef_ct_si4e (x : Addr) (b : Addr) (v0 : Value) (c0 : Value) (m : MethodId) : entryFrame m #[(.ref x), (.ref b), (.int (0 : Int32)), (.int (0 : Int32)), Value.null] 6 = mkF m 0 #[.val (.ref x), .val (.ref b), .val (.int (0 : Int32)), .val (.int (0 : Int32)), .val Value.null, .unset] [] := by first | (simp [entryFrame, mkF, argsToLocals, Value.category]; done) | rfl
set_option maxRecDepth 65536 in
set_option maxHeartbeats 4000000 in
theorem ct_si4e {l : Launch} {Z : State} {a0 : Array Value} (G : Env1 Z a0) (x : Addr) (b : Addr) (v0 : Value) (c0 : Value) (h0 : Heap) (A : Exa Z h0 x STN) (F0 : Fld Z h0 x STN "value" "[B" v0) (F1 : Fld Z h0 x STN "coder" "B" c0) :
    Ct l Z EL1 [x] [] (⟨"java/lang/String", "<init>", "([CIILjava/lang/Void;)V"⟩ : MethodName) jdk_42_method_149_code 6 none ({ frames := 1, cells := 4, slots := 8, locals := 12 } : Room) #[(.ref x), (.ref b), (.int (0 : Int32)), (.int (0 : Int32)), Value.null] h0 (fun v h => v = none ∧ Keep h0 h [x] ∧ Str Z h x []) := by
  refine Ct.of_seg (a0 := a0) pn_java_lang_String G.2.1 (ef_ct_si4e x b v0 c0) ?_
  refine Seg.aloadN d2_0 rfl rfl (pc' := 1) rfl ?_
  refine Seg.initO (wd G 12 rfl) (wd G 13 rfl) (wd G 14 rfl) rfl d2_1 (pc' := 4) rfl (by decide) (W := 0) (Nat.le_of_eq rfl) (by decide) ?_
  refine Seg.iloadN d2_4 rfl (pc' := 5) rfl ?_
  refine Seg.ifN d2_5 (by decide) (pc' := 8) rfl ?_
  refine Seg.aloadN d2_8 rfl rfl (pc' := 9) rfl ?_
  refine Seg.ldcS (text := "") (vs := []) (z := 0) (nn := 0) (wd G 65 rfl) (wS G) (by decide) (by decide +kernel) (by decide) (by decide) d2_9 (pc' := 11) rfl (by decide) (by decide) (k' := 2) (n' := 4) rfl rfl (by decide) (by decide) ?_
  intro a1 h10 b2 kb3 E4 A5 F6 F7 A8 ne9
  refine Seg.getF (host := "") (Or.inl (wd G 29 rfl)) Via.refl F7 d2_11 (pc' := 14) rfl ?_
  have F11 := F0.ext E4
  have F12 := A.ext E4
  refine Seg.putF (host := "") (ty := (.array .byte)) (v' := (.ref b2)) (wd G 29 rfl) Via.refl F11 F12 (Or.inr ⟨(wd G 30 rfl), rfl, rfl⟩) (wd G 2 rfl) (by decide) rfl rfl (List.mem_of_getElem? (i := 0) rfl) d2_14 (pc' := 17) rfl ?_
  intro h15 W13 F14
  refine Seg.aloadN d2_17 rfl rfl (pc' := 18) rfl ?_
  refine Seg.ldcS (text := "") (vs := []) (z := 0) (nn := 0) (wd G 65 rfl) (wS G) (by decide) (by decide +kernel) (by decide) (by decide) d2_18 (pc' := 20) rfl (by decide) (by decide) (k' := 4) (n' := 8) rfl rfl (by decide) (by decide) ?_
  intro a16 h25 b17 kb18 E19 A20 F21 F22 A23 ne24
  refine Seg.getF (host := "") (Or.inl (wd G 27 rfl)) Via.refl F21 d2_20 (pc' := 23) rfl ?_
  have F26 := (((F1.ext E4).other W13 (Or.inr (slot_ne (Or.inr (wd G 28 rfl)) (Or.inr (wd G 30 rfl)) (by decide) (t := .byte) (t' := (.array .byte)) (by decide) (by decide)))).ext E19)
  have F27 := ((F12.wr W13).ext E19)
  refine Seg.putF (host := "") (ty := .byte) (v' := (.int (0 : Int32))) (wd G 27 rfl) Via.refl F26 F27 (Or.inr ⟨(wd G 28 rfl), rfl, rfl⟩) (wd G 2 rfl) (by decide) rfl rfl (List.mem_of_getElem? (i := 0) rfl) d2_23 (pc' := 26) rfl ?_
  intro h30 W28 F29
  have F31 := (F27.wr W28)
  have F32 := ((F14.ext E19).other W28 (Or.inr (slot_ne (Or.inr (wd G 30 rfl)) (Or.inr (wd G 28 rfl)) (by decide) (t := (.array .byte)) (t' := .byte) (by decide) (by decide))))
  have F33 := (((A8.keep (Keep.of_wr W13) (ninS (ne9 x (List.mem_of_getElem? (i := 0) rfl)).2.symm nin0)).ext E19).keep (Keep.of_wr W28) (ninS (ne9 x (List.mem_of_getElem? (i := 0) rfl)).2.symm nin0))
  exact Seg.ret0 rfl d2_26 (by decide) (by decide) ⟨rfl, (((((Keep.refl h0 [x]).ext E4).wr W13 (Or.inl (List.mem_of_getElem? (i := 0) rfl))).ext E19).wr W28 (Or.inl (List.mem_of_getElem? (i := 0) rfl))), b2, kb3, 0, 0, [], F31, F32, F29, F33, Or.inl ⟨rfl, rfl, rfl, (fun c q => nomatch q)⟩, (fun c q => nomatch q), (by decide)⟩
theorem d1_0 : decode jdk_42_method_3_code 0 = .ok (.aload_n 0, 1) := by decide +kernel
theorem d1_1 : decode jdk_42_method_3_code 1 = .ok (.aload_n 1, 1) := by decide +kernel
theorem d1_2 : decode jdk_42_method_3_code 2 = .ok (.iconst 0, 1) := by decide +kernel
theorem d1_3 : decode jdk_42_method_3_code 3 = .ok (.aload_n 1, 1) := by decide +kernel
theorem d1_4 : decode jdk_42_method_3_code 4 = .ok (.arraylength, 1) := by decide +kernel
theorem d1_5 : decode jdk_42_method_3_code 5 = .ok (.aconst_null, 1) := by decide +kernel
theorem d1_6 : decode jdk_42_method_3_code 6 = .ok (.invokespecial 27, 3) := by decide +kernel
theorem pd_0 : parseMethodDescriptor "([CIILjava/lang/Void;)V" = some ⟨[(.array .char), .int, .int, (.object "java/lang/Void")], none⟩ := by decide +kernel
theorem d1_9 : decode jdk_42_method_3_code 9 = .ok (.return_, 1) := by decide +kernel
theorem ef_ct_sie (x : Addr) (b : Addr) (v0 : Value) (c0 : Value) (kc : ClassId) (d : Value) (m : MethodId) : entryFrame m #[(.ref x), (.ref b)] 2 = mkF m 0 #[.val (.ref x), .val (.ref b)] [] := by first | (simp [entryFrame, mkF, argsToLocals, Value.category]; done) | rfl
set_option maxRecDepth 65536 in
set_option maxHeartbeats 4000000 in
theorem ct_sie {l : Launch} {Z : State} {a0 : Array Value} (G : Env1 Z a0) (x : Addr) (b : Addr) (v0 : Value) (c0 : Value) (kc : ClassId) (d : Value) (h0 : Heap) (A : Exa Z h0 x STN) (F0 : Fld Z h0 x STN "value" "[B" v0) (F1 : Fld Z h0 x STN "coder" "B" c0) (Ab : Arv Z h0 b kc .char 0 [] d) :
    Ct l Z EL1 [x] [] (⟨"java/lang/String", "<init>", "([C)V"⟩ : MethodName) jdk_42_method_3_code 2 none ({ frames := 2, cells := 4, slots := 8, locals := 29 } : Room) #[(.ref x), (.ref b)] h0 (fun v h => v = none ∧ Keep h0 h [x] ∧ Str Z h x []) := by
  refine Ct.of_seg (a0 := a0) pn_java_lang_String G.2.1 (ef_ct_sie x b v0 c0 kc d) ?_
  refine Seg.aloadN d1_0 rfl rfl (pc' := 1) rfl ?_
  refine Seg.aloadN d1_1 rfl rfl (pc' := 2) rfl ?_
  refine Seg.iconst (v := 0) d1_2 (by decide) (pc' := 3) rfl ?_
  refine Seg.aloadN d1_3 rfl rfl (pc' := 4) rfl ?_
  refine Seg.alen Ab d1_4 (pc' := 5) rfl ?_
  refine Seg.anull d1_5 (pc' := 6) rfl ?_
  refine Seg.callN (y' := (⟨"java/lang/String", "<init>", "([CIILjava/lang/Void;)V"⟩ : MethodName)) (a := x) rfl (wd G 8 rfl) (wd G 9 rfl) (wd G 11 rfl) ⟨by decide, by decide⟩ (Pays.of_ct (W := 0) (ct_si4e G x b v0 c0 h0 A F0 F1) (allS (List.mem_of_getElem? (i := 0) rfl) all0) (wd G 11 rfl) (wd G 3 rfl) (by decide) (by decide) rfl rfl) (argsL := [(.ref b), (.int (0 : Int32)), (.int (0 : Int32)), Value.null]) (rest := []) rfl (lenOf pd_0 rfl) rfl (Nat.le_of_eq rfl) rfl d1_6 (pc' := 9) rfl (k' := 4) (n' := 8) rfl rfl (by decide) (by decide) ?_
  intro v1 h4 sz2 q3
  obtain ⟨rfl, K, F⟩ := q3
  exact Seg.ret0 rfl d1_9 (by decide) (by decide) ⟨rfl, K, F⟩
theorem d11_0 : decode jdk_31_method_11_code 0 = .ok (.aload_n 0, 1) := by decide +kernel
theorem d11_1 : decode jdk_31_method_11_code 1 = .ok (.ifnonnull 12, 3) := by decide +kernel
theorem d11_13 : decode jdk_31_method_11_code 13 = .ok (.aload_n 0, 1) := by decide +kernel
theorem d11_14 : decode jdk_31_method_11_code 14 = .ok (.areturn, 1) := by decide +kernel
theorem pn_java_util_Objects : plainName "java/util/Objects" = true := by first | (simp [plainName, overriddenIn]; done) | decide +kernel
theorem ef_ct_req (a : Addr) (b : Addr) (m : MethodId) : entryFrame m #[(.ref a), (.ref b)] 2 = mkF m 0 #[.val (.ref a), .val (.ref b)] [] := by first | (simp [entryFrame, mkF, argsToLocals, Value.category]; done) | rfl
set_option maxRecDepth 65536 in
set_option maxHeartbeats 4000000 in
theorem ct_req {l : Launch} {Z : State} {a0 : Array Value} (G : Env1 Z a0) (a : Addr) (b : Addr) (h0 : Heap) :
    Ct l Z EL1 [] [] (⟨"java/util/Objects", "requireNonNull", "(Ljava/lang/Object;Ljava/lang/String;)Ljava/lang/Object;"⟩ : MethodName) jdk_31_method_11_code 2 (some (.object "java/lang/Object")) ({ frames := 0, cells := 0, slots := 0, locals := 0 } : Room) #[(.ref a), (.ref b)] h0 (fun v h => v = some (.ref a) ∧ h0 = h) := by
  refine Ct.of_seg (a0 := a0) pn_java_util_Objects G.2.1 (ef_ct_req a b) ?_
  refine Seg.aloadN d11_0 rfl rfl (pc' := 1) rfl ?_
  refine Seg.nonnY (pc' := 13) d11_1 (by decide) (by decide) ?_
  refine Seg.aloadN d11_13 rfl rfl (pc' := 14) rfl ?_
  exact Seg.retA rfl rfl rfl d11_14 (by decide) (by decide) ⟨rfl, rfl⟩
theorem d8_0 : decode jdk_30_method_1_code 0 = .ok (.aload_n 0, 1) := by decide +kernel
theorem d8_1 : decode jdk_30_method_1_code 1 = .ok (.invokespecial 1, 3) := by decide +kernel
theorem d8_4 : decode jdk_30_method_1_code 4 = .ok (.return_, 1) := by decide +kernel
theorem pn_java_lang_Record : plainName "java/lang/Record" = true := by first | (simp [plainName, overriddenIn]; done) | decide +kernel
theorem ef_ct_rec (a : Addr) (m : MethodId) : entryFrame m #[(.ref a)] 1 = mkF m 0 #[.val (.ref a)] [] := by first | (simp [entryFrame, mkF, argsToLocals, Value.category]; done) | rfl
set_option maxRecDepth 65536 in
set_option maxHeartbeats 4000000 in
theorem ct_rec {l : Launch} {Z : State} {a0 : Array Value} (G : Env1 Z a0) (a : Addr) (h0 : Heap) :
    Ct l Z EL1 [] [] (⟨"java/lang/Record", "<init>", "()V"⟩ : MethodName) jdk_30_method_1_code 1 none ({ frames := 1, cells := 0, slots := 0, locals := 12 } : Room) #[(.ref a)] h0 (fun v h => v = none ∧ h0 = h) := by
  refine Ct.of_seg (a0 := a0) pn_java_lang_Record G.2.1 (ef_ct_rec a) ?_
  refine Seg.aloadN d8_0 rfl rfl (pc' := 1) rfl ?_
  refine Seg.initO (wd G 42 rfl) (wd G 13 rfl) (wd G 14 rfl) rfl d8_1 (pc' := 4) rfl (by decide) (W := 0) (Nat.le_of_eq rfl) (by decide) ?_
  exact Seg.ret0 rfl d8_4 (by decide) (by decide) ⟨rfl, rfl⟩
theorem d7_0 : decode prog_12_method_1_code 0 = .ok (.aload_n 0, 1) := by decide +kernel
theorem d7_1 : decode prog_12_method_1_code 1 = .ok (.invokespecial 1, 3) := by decide +kernel
theorem pd_1 : parseMethodDescriptor "()V" = some ⟨[], none⟩ := by decide +kernel
theorem d7_4 : decode prog_12_method_1_code 4 = .ok (.aload_n 0, 1) := by decide +kernel
theorem d7_5 : decode prog_12_method_1_code 5 = .ok (.aload_n 1, 1) := by decide +kernel
theorem d7_6 : decode prog_12_method_1_code 6 = .ok (.putfield 7, 3) := by decide +kernel
theorem d7_9 : decode prog_12_method_1_code 9 = .ok (.return_, 1) := by decide +kernel
theorem pn_com_example_pfortner_pfortner_pdp_Decision : plainName "com/example/pfortner/pfortner/pdp/Decision" = true := by first | (simp [plainName, overriddenIn]; done) | decide +kernel
theorem ef_ct_dinit (a : Addr) (b : Addr) (v0 : Value) (m : MethodId) : entryFrame m #[(.ref a), (.ref b)] 2 = mkF m 0 #[.val (.ref a), .val (.ref b)] [] := by first | (simp [entryFrame, mkF, argsToLocals, Value.category]; done) | rfl
set_option maxRecDepth 65536 in
set_option maxHeartbeats 4000000 in
theorem ct_dinit {l : Launch} {Z : State} {a0 : Array Value} (G : Env1 Z a0) (a : Addr) (b : Addr) (v0 : Value) (h0 : Heap) (A : Exa Z h0 a "com/example/pfortner/pfortner/pdp/Decision") (F0 : Fld Z h0 a "com/example/pfortner/pfortner/pdp/Decision" "inhibitedBy" "Ljava/lang/String;" v0) :
    Ct l Z EL1 [a] [] (⟨"com/example/pfortner/pfortner/pdp/Decision", "<init>", "(Ljava/lang/String;)V"⟩ : MethodName) prog_12_method_1_code 2 none ({ frames := 2, cells := 0, slots := 0, locals := 24 } : Room) #[(.ref a), (.ref b)] h0 (fun v h => v = none ∧ Keep h0 h [a] ∧ Fld Z h a "com/example/pfortner/pfortner/pdp/Decision" "inhibitedBy" "Ljava/lang/String;" (.ref b)) := by
  refine Ct.of_seg (a0 := a0) pn_com_example_pfortner_pfortner_pdp_Decision G.2.1 (ef_ct_dinit a b v0) ?_
  refine Seg.aloadN d7_0 rfl rfl (pc' := 1) rfl ?_
  refine Seg.callN (y' := (⟨"java/lang/Record", "<init>", "()V"⟩ : MethodName)) (a := a) rfl (wd G 37 rfl) (wd G 38 rfl) (wd G 41 rfl) ⟨by decide, by decide⟩ (Pays.of_ct (W := 0) (ct_rec G a h0) all0 (wd G 41 rfl) (wd G 40 rfl) (by decide) (by decide) rfl rfl) (argsL := []) (rest := []) rfl (lenOf pd_1 rfl) rfl (Nat.le_of_eq rfl) rfl d7_1 (pc' := 4) rfl (k' := 0) (n' := 0) rfl rfl (by decide) (by decide) ?_
  intro v1 h4 sz2 q3
  obtain ⟨rfl, rfl⟩ := q3
  refine Seg.aloadN d7_4 rfl rfl (pc' := 5) rfl ?_
  refine Seg.aloadN d7_5 rfl rfl (pc' := 6) rfl ?_
  refine Seg.putF (host := "") (ty := (.object "java/lang/String")) (v' := (.ref b)) (wd G 43 rfl) Via.refl F0 A (Or.inr ⟨(wd G 44 rfl), rfl, rfl⟩) (wd G 32 rfl) (by decide) rfl rfl (List.mem_of_getElem? (i := 0) rfl) d7_6 (pc' := 9) rfl ?_
  intro h7 W5 F6
  exact Seg.ret0 rfl d7_9 (by decide) (by decide) ⟨rfl, Keep.of_wr W5, F6⟩
theorem ef_ct_dinitN (a : Addr) (v0 : Value) (m : MethodId) : entryFrame m #[(.ref a), Value.null] 2 = mkF m 0 #[.val (.ref a), .val Value.null] [] := by first | (simp [entryFrame, mkF, argsToLocals, Value.category]; done) | rfl
set_option maxRecDepth 65536 in
set_option maxHeartbeats 4000000 in
theorem ct_dinitN {l : Launch} {Z : State} {a0 : Array Value} (G : Env1 Z a0) (a : Addr) (v0 : Value) (h0 : Heap) (A : Exa Z h0 a "com/example/pfortner/pfortner/pdp/Decision") (F0 : Fld Z h0 a "com/example/pfortner/pfortner/pdp/Decision" "inhibitedBy" "Ljava/lang/String;" v0) :
    Ct l Z EL1 [a] [] (⟨"com/example/pfortner/pfortner/pdp/Decision", "<init>", "(Ljava/lang/String;)V"⟩ : MethodName) prog_12_method_1_code 2 none ({ frames := 2, cells := 0, slots := 0, locals := 24 } : Room) #[(.ref a), Value.null] h0 (fun v h => v = none ∧ Keep h0 h [a] ∧ Fld Z h a "com/example/pfortner/pfortner/pdp/Decision" "inhibitedBy" "Ljava/lang/String;" .null) := by
  refine Ct.of_seg (a0 := a0) pn_com_example_pfortner_pfortner_pdp_Decision G.2.1 (ef_ct_dinitN a v0) ?_
  refine Seg.aloadN d7_0 rfl rfl (pc' := 1) rfl ?_
  refine Seg.callN (y' := (⟨"java/lang/Record", "<init>", "()V"⟩ : MethodName)) (a := a) rfl (wd G 37 rfl) (wd G 38 rfl) (wd G 41 rfl) ⟨by decide, by decide⟩ (Pays.of_ct (W := 0) (ct_rec G a h0) all0 (wd G 41 rfl) (wd G 40 rfl) (by decide) (by decide) rfl rfl) (argsL := []) (rest := []) rfl (lenOf pd_1 rfl) rfl (Nat.le_of_eq rfl) rfl d7_1 (pc' := 4) rfl (k' := 0) (n' := 0) rfl rfl (by decide) (by decide) ?_
  intro v1 h4 sz2 q3
  obtain ⟨rfl, rfl⟩ := q3
  refine Seg.aloadN d7_4 rfl rfl (pc' := 5) rfl ?_
  refine Seg.aloadN d7_5 rfl rfl (pc' := 6) rfl ?_
  refine Seg.putF (host := "") (ty := (.object "java/lang/String")) (v' := Value.null) (wd G 43 rfl) Via.refl F0 A (Or.inr ⟨(wd G 44 rfl), rfl, rfl⟩) (wd G 32 rfl) (by decide) rfl rfl (List.mem_of_getElem? (i := 0) rfl) d7_6 (pc' := 9) rfl ?_
  intro h7 W5 F6
  exact Seg.ret0 rfl d7_9 (by decide) (by decide) ⟨rfl, Keep.of_wr W5, F6⟩
theorem d10_0 : decode prog_12_method_2_code 0 = .ok (.new 8, 3) := by decide +kernel
theorem d10_3 : decode prog_12_method_2_code 3 = .ok (.dup, 1) := by decide +kernel
theorem d10_4 : decode prog_12_method_2_code 4 = .ok (.aload_n 0, 1) := by decide +kernel
theorem d10_5 : decode prog_12_method_2_code 5 = .ok (.ldc 13, 2) := by decide +kernel
theorem d10_7 : decode prog_12_method_2_code 7 = .ok (.invokestatic 15, 3) := by decide +kernel
theorem pd_2 : parseMethodDescriptor "(Ljava/lang/Object;Ljava/lang/String;)Ljava/lang/Object;" = some ⟨[(.object "java/lang/Object"), (.object "java/lang/String")], some (.object "java/lang/Object")⟩ := by decide +kernel
theorem d10_10 : decode prog_12_method_2_code 10 = .ok (.checkcast 21, 3) := by decide +kernel
theorem d10_13 : decode prog_12_method_2_code 13 = .ok (.invokespecial 23, 3) := by decide +kernel
theorem pd_3 : parseMethodDescriptor "(Ljava/lang/String;)V" = some ⟨[(.object "java/lang/String")], none⟩ := by decide +kernel
theorem d10_16 : decode prog_12_method_2_code 16 = .ok (.areturn, 1) := by decide +kernel
theorem ef_ct_inhibit (b : Addr) (m : MethodId) : entryFrame m #[(.ref b)] 1 = mkF m 0 #[.val (.ref b)] [] := by first | (simp [entryFrame, mkF, argsToLocals, Value.category]; done) | rfl
set_option maxRecDepth 65536 in
set_option maxHeartbeats 4000000 in
theorem ct_inhibit {l : Launch} {Z : State} {a0 : Array Value} (G : Env1 Z a0) (b : Addr) (h0 : Heap) (A : Exa Z h0 b "java/lang/String") :
    Ct l Z EL1 [] [] (⟨"com/example/pfortner/pfortner/pdp/Decision", "inhibit", "(Ljava/lang/String;)Lcom/example/pfortner/pfortner/pdp/Decision;"⟩ : MethodName) prog_12_method_2_code 1 (some (.object "com/example/pfortner/pfortner/pdp/Decision")) ({ frames := 3, cells := 3, slots := 41, locals := 38 } : Room) #[(.ref b)] h0 (fun v h => ∃ r, v = some (.ref r) ∧ Ext h0 h ∧ Exa Z h r "com/example/pfortner/pfortner/pdp/Decision" ∧ Fld Z h r "com/example/pfortner/pfortner/pdp/Decision" "inhibitedBy" "Ljava/lang/String;" (.ref b)) := by
  refine Ct.of_seg (a0 := a0) pn_com_example_pfortner_pfortner_pdp_Decision G.2.1 (ef_ct_inhibit b) ?_
  refine Seg.newO (wd G 53 rfl) (wd G 32 rfl) (wd G 33 rfl) d10_0 (pc' := 3) rfl (k' := 1) (n' := 1) rfl rfl (by decide) (by decide) ?_
  intro b1 h3 E2 e_b1 l_b1 A_b1 D_b1
  have F_inhibitedBy_b1 : Fld Z h3 b1 "com/example/pfortner/pfortner/pdp/Decision" "inhibitedBy" "Ljava/lang/String;" Value.null := D_b1 (Or.inr (wd G 44 rfl)) (ty := (.object "java/lang/String")) (by decide)
  refine Seg.dup d10_3 rfl (pc' := 4) rfl ?_
  refine Seg.aloadN d10_4 rfl rfl (pc' := 5) rfl ?_
  refine Seg.ldcS (text := "mechanism") (vs := [(.int 109), (.int 101), (.int 99), (.int 104), (.int 97), (.int 110), (.int 105), (.int 115), (.int 109)]) (z := 9) (nn := 36) (wd G 54 rfl) (wS G) (by decide) (by decide +kernel) (by decide) (by decide) d10_5 (pc' := 7) rfl (by decide) (by decide) (k' := 3) (n' := 41) rfl rfl (by decide) (by decide) ?_
  intro a4 h13 b5 kb6 E7 A8 F9 F10 A11 ne12
  refine Seg.callS (y' := (⟨"java/util/Objects", "requireNonNull", "(Ljava/lang/Object;Ljava/lang/String;)Ljava/lang/Object;"⟩ : MethodName)) (wd G 57 rfl) (wd G 58 rfl) (wd G 59 rfl) (wd G 60 rfl) ⟨by decide, by decide⟩ (Pays.of_ct (W := 2) (ct_req G b a4 h13) all0 (wd G 60 rfl) (wd G 59 rfl) (by decide) (by decide) rfl rfl) (argsL := [(.ref b), (.ref a4)]) (rest := [(.ref b1), (.ref b1)]) rfl (lenOf pd_2 rfl) rfl (Nat.le_of_eq rfl) rfl d10_7 (pc' := 10) rfl (k' := 3) (n' := 41) rfl rfl (by decide) (by decide) ?_
  intro v14 h17 sz15 q16
  obtain ⟨rfl, rfl⟩ := q16
  have E18 : Ext h0 h13 := ext_tr E2 E7
  have F19 := A.ext E18
  refine Seg.castY (wd G 61 rfl) (Ins.self F19) d10_10 (pc' := 13) rfl ?_
  have F20 := A_b1.ext E7
  have F21 := F_inhibitedBy_b1.ext E7
  refine Seg.callN (y' := (⟨"com/example/pfortner/pfortner/pdp/Decision", "<init>", "(Ljava/lang/String;)V"⟩ : MethodName)) (a := b1) rfl (wd G 62 rfl) (wd G 35 rfl) (wd G 36 rfl) ⟨by decide, by decide⟩ (Pays.of_ct (W := 1) (ct_dinit G b1 b .null h13 F20 F21) (allS (List.mem_of_getElem? (i := 0) rfl) all0) (wd G 36 rfl) (wd G 33 rfl) (by decide) (by decide) rfl rfl) (argsL := [(.ref b)]) (rest := [(.ref b1)]) rfl (lenOf pd_3 rfl) rfl (Nat.le_of_eq rfl) rfl d10_13 (pc' := 16) rfl (k' := 3) (n' := 41) rfl rfl (by decide) (by decide) ?_
  intro v22 h25 sz23 q24
  obtain ⟨rfl, K9, F9⟩ := q24
  have E26 : Ext h0 h25 := ext_kp E18 K9 (allS (Nat.le_trans (ext_rfl _).1 (Nat.le_of_eq e_b1)) all0)
  have F27 := (F20.keep K9)
  exact Seg.retA rfl rfl rfl d10_16 (by decide) (by decide) ⟨b1, rfl, E26, F27, F9⟩
theorem d9_0 : decode prog_12_method_3_code 0 = .ok (.aload_n 0, 1) := by decide +kernel
theorem d9_1 : decode prog_12_method_3_code 1 = .ok (.getfield 7, 3) := by decide +kernel
theorem d9_4 : decode prog_12_method_3_code 4 = .ok (.ifnonnull 7, 3) := by decide +kernel
theorem d9_11 : decode prog_12_method_3_code 11 = .ok (.iconst 0, 1) := by decide +kernel
theorem d9_12 : decode prog_12_method_3_code 12 = .ok (.ireturn, 1) := by decide +kernel
theorem ef_ct_isal (a : Addr) (b : Addr) (m : MethodId) : entryFrame m #[(.ref a)] 1 = mkF m 0 #[.val (.ref a)] [] := by first | (simp [entryFrame, mkF, argsToLocals, Value.category]; done) | rfl
set_option maxRecDepth 65536 in
set_option maxHeartbeats 4000000 in
theorem ct_isal {l : Launch} {Z : State} {a0 : Array Value} (G : Env1 Z a0) (a : Addr) (b : Addr) (h0 : Heap) (F0 : Fld Z h0 a "com/example/pfortner/pfortner/pdp/Decision" "inhibitedBy" "Ljava/lang/String;" (.ref b)) :
    Ct l Z EL1 [] [] (⟨"com/example/pfortner/pfortner/pdp/Decision", "isAllowed", "()Z"⟩ : MethodName) prog_12_method_3_code 1 (some .boolean) ({ frames := 0, cells := 0, slots := 0, locals := 0 } : Room) #[(.ref a)] h0 (fun v h => v = some (.int 0) ∧ h0 = h) := by
  refine Ct.of_seg (a0 := a0) pn_com_example_pfortner_pfortner_pdp_Decision G.2.1 (ef_ct_isal a b) ?_
  refine Seg.aloadN d9_0 rfl rfl (pc' := 1) rfl ?_
  refine Seg.getF (host := "") (Or.inl (wd G 43 rfl)) Via.refl F0 d9_1 (pc' := 4) rfl ?_
  refine Seg.nonnY (pc' := 11) d9_4 (by decide) (by decide) ?_
  refine Seg.iconst (v := 0) d9_11 (by decide) (pc' := 12) rfl ?_
  exact Seg.retN (t := .boolean) (w := (0 : Int32)) rfl (by decide) (by decide) d9_12 (by decide) (by decide) ⟨rfl, rfl⟩
theorem d9_7 : decode prog_12_method_3_code 7 = .ok (.iconst 1, 1) := by decide +kernel
theorem d9_8 : decode prog_12_method_3_code 8 = .ok (.goto 4, 3) := by decide +kernel
theorem ef_ct_isalN (a : Addr) (m : MethodId) : entryFrame m #[(.ref a)] 1 = mkF m 0 #[.val (.ref a)] [] := by first | (simp [entryFrame, mkF, argsToLocals, Value.category]; done) | rfl
set_option maxRecDepth 65536 in
set_option maxHeartbeats 4000000 in
theorem ct_isalN {l : Launch} {Z : State} {a0 : Array Value} (G : Env1 Z a0) (a : Addr) (h0 : Heap) (F0 : Fld Z h0 a "com/example/pfortner/pfortner/pdp/Decision" "inhibitedBy" "Ljava/lang/String;" .null) :
    Ct l Z EL1 [] [] (⟨"com/example/pfortner/pfortner/pdp/Decision", "isAllowed", "()Z"⟩ : MethodName) prog_12_method_3_code 1 (some .boolean) ({ frames := 0, cells := 0, slots := 0, locals := 0 } : Room) #[(.ref a)] h0 (fun v h => v = some (.int 1) ∧ h0 = h) := by
  refine Ct.of_seg (a0 := a0) pn_com_example_pfortner_pfortner_pdp_Decision G.2.1 (ef_ct_isalN a) ?_
  refine Seg.aloadN d9_0 rfl rfl (pc' := 1) rfl ?_
  refine Seg.getF (host := "") (Or.inl (wd G 43 rfl)) Via.refl F0 d9_1 (pc' := 4) rfl ?_
  refine Seg.nonnN d9_4 (pc' := 7) rfl ?_
  refine Seg.iconst (v := 1) d9_7 (by decide) (pc' := 8) rfl ?_
  refine Seg.goto (pc' := 12) d9_8 (by decide) (by decide) ?_
  exact Seg.retN (t := .boolean) (w := (1 : Int32)) rfl (by decide) (by decide) d9_12 (by decide) (by decide) ⟨rfl, rfl⟩
theorem pd_4 : parseMethodDescriptor "(Ljava/lang/String;)Lcom/example/pfortner/pfortner/pdp/Decision;" = some ⟨[(.object "java/lang/String")], some (.object "com/example/pfortner/pfortner/pdp/Decision")⟩ := by decide +kernel
theorem pd_5 : parseMethodDescriptor "()Z" = some ⟨[], some .boolean⟩ := by decide +kernel
set_option maxRecDepth 65536 in
set_option maxHeartbeats 4000000 in
theorem sg149 {l : Launch} {Z : State} {a0 : Array Value} (G : Env1 Z a0) (p1 : Int32) (p2 : Int32) (p3 : Int32) (p4 : Int32) (k : Int32) (u : Int32) (v : Int32) (s : Addr) (f : Int32) (d : Addr) (h : Heap) (A : Exa Z h s STN) :
    Seg l Z a0 EL1 x code maxLocals ret room_1 (fun v h => v = some (.int 1)) h 8 30 [] 149 #[.val (.int p1), .val (.int p2), .val (.int p3), .val (.int p4), .val (.int k), .val (.int u), .val (.int v), .val (.ref s), .val (.int f), .val (.ref d), .val (.int (1 : Int32))] [] := by
  refine Seg.start fun hZ0 => ?_
  obtain ⟨al, Sa, Aa, Fa⟩ := G.2.2.2
  have Aa1 := Aa.ext hZ0
  have Fa1 := Fa.ext hZ0
  refine Seg.iload at_149 rfl (pc' := 151) rfl ?_
  refine Seg.ifN at_151 (by decide) (pc' := 154) rfl ?_
  refine Seg.aload at_154 rfl rfl (pc' := 156) rfl ?_
  refine Seg.callS (y' := (⟨"com/example/pfortner/pfortner/pdp/Decision", "inhibit", "(Ljava/lang/String;)Lcom/example/pfortner/pfortner/pdp/Decision;"⟩ : MethodName)) (wd G 50 rfl) (wd G 51 rfl) (wd G 33 rfl) (wd G 52 rfl) ⟨by decide, by decide⟩ (Pays.of_ct (W := 0) (ct_inhibit G s h A) all0 (wd G 52 rfl) (wd G 33 rfl) (by decide) (by decide) rfl rfl) (argsL := [(.ref s)]) (rest := []) rfl (lenOf pd_4 rfl) rfl (Nat.le_of_eq rfl) rfl at_156 (pc' := 159) rfl (k' := 11) (n' := 71) rfl rfl (by decide) (by decide) ?_
  intro v1 h4 sz2 q3
  obtain ⟨r, rfl, E1, Ar, Fr1⟩ := q3
  refine Seg.callV (y' := (⟨"com/example/pfortner/pfortner/pdp/Decision", "isAllowed", "()Z"⟩ : MethodName)) (z := (⟨"com/example/pfortner/pfortner/pdp/Decision", "isAllowed", "()Z"⟩ : MethodName)) (a := r) (wd G 45 rfl) (wd G 46 rfl) (nf_sel (wd G 48 rfl)) (wd G 48 rfl) (wd G 47 rfl) ⟨by decide, by decide⟩ Ar (Pays.of_ct (W := 0) (ct_isal G r s h4 Fr1) all0 (wd G 49 rfl) (wd G 33 rfl) (by decide) (by decide) rfl rfl) (argsL := []) (rest := []) rfl (lenOf pd_5 rfl) rfl (Nat.le_of_eq rfl) rfl at_159 (pc' := 162) rfl (k' := 11) (n' := 71) rfl rfl (by decide) (by decide) ?_
  intro v5 h8 sz6 q7
  obtain ⟨rfl, rfl⟩ := q7
  refine Seg.ifN at_162 (by decide) (pc' := 165) rfl ?_
  refine Seg.iconst (v := 1) at_165 (by decide) (pc' := 166) rfl ?_
  refine Seg.goto (pc' := 170) at_166 (by decide) (by decide) ?_
  refine Seg.istore (L' := #[.val (.int p1), .val (.int p2), .val (.int p3), .val (.int p4), .val (.int k), .val (.int u), .val (.int v), .val (.ref s), .val (.int f), .val (.ref d), .val (.int (1 : Int32))]) at_170 rfl (pc' := 172) rfl ?_
  refine Seg.iload at_172 rfl (pc' := 174) rfl ?_
  refine Seg.ifN at_174 (by decide) (pc' := 177) rfl ?_
  refine Seg.getS (wd G 63 rfl) Via.refl Sa at_177 (pc' := 180) rfl ?_
  have F9 := Fa1.ext E1
  have F10 := Aa1.ext E1
  refine Seg.callV (y' := (⟨"com/example/pfortner/pfortner/pdp/Decision", "isAllowed", "()Z"⟩ : MethodName)) (z := (⟨"com/example/pfortner/pfortner/pdp/Decision", "isAllowed", "()Z"⟩ : MethodName)) (a := al) (wd G 45 rfl) (wd G 46 rfl) (nf_sel (wd G 48 rfl)) (wd G 48 rfl) (wd G 47 rfl) ⟨by decide, by decide⟩ F10 (Pays.of_ct (W := 0) (ct_isalN G al h4 F9) all0 (wd G 49 rfl) (wd G 33 rfl) (by decide) (by decide) rfl rfl) (argsL := []) (rest := []) rfl (lenOf pd_5 rfl) rfl (Nat.le_of_eq rfl) rfl at_180 (pc' := 183) rfl (k' := 11) (n' := 71) rfl rfl (by decide) (by decide) ?_
  intro v11 h14 sz12 q13
  obtain ⟨rfl, rfl⟩ := q13
  refine Seg.ifN at_183 (by decide) (pc' := 186) rfl ?_
  refine Seg.iconst (v := 1) at_186 (by decide) (pc' := 187) rfl ?_
  refine Seg.goto (pc' := 191) at_187 (by decide) (by decide) ?_
  refine Seg.istore (L' := #[.val (.int p1), .val (.int p2), .val (.int p3), .val (.int p4), .val (.int k), .val (.int u), .val (.int v), .val (.ref s), .val (.int f), .val (.ref d), .val (.int (1 : Int32))]) at_191 rfl (pc' := 193) rfl ?_
  refine Seg.iload at_193 rfl (pc' := 195) rfl ?_
  exact Seg.retN (t := .boolean) (w := (1 : Int32)) rfl (by decide) (by decide) at_195 (by decide) (by decide) rfl
set_option maxRecDepth 65536 in
set_option maxHeartbeats 4000000 in
theorem sg92 {l : Launch} {Z : State} {a0 : Array Value} (G : Env1 Z a0) (p1 : Int32) (p2 : Int32) (p3 : Int32) (p4 : Int32) (k : Int32) (u : Int32) (v : Int32) (s : Addr) (h : Heap) (A : Exa Z h s STN) :
    Seg l Z a0 EL1 x code maxLocals ret room_1 (fun v h => v = some (.int 1)) h 6 20 [] 92 #[.val (.int p1), .val (.int p2), .val (.int p3), .val (.int p4), .val (.int k), .val (.int u), .val (.int v), .val (.ref s), .unset, .unset, .unset] [] := by
  refine Seg.iloadN at_92 rfl (pc' := 93) rfl ?_
  refine Seg.iconst (v := 1) at_93 (by decide) (pc' := 94) rfl ?_
  refine Seg.iand (v := (p1 &&& (1 : Int32))) at_94 rfl (pc' := 95) rfl ?_
  rcases and1 p1 with hf | hf
  · refine Seg.ifY (pc' := 102) at_95 (XT.i0_eq_t (by rw [hf])) (by decide) (by decide) ?_
    refine Seg.iconst (v := 0) at_102 (by decide) (pc' := 103) rfl ?_
    refine Seg.istore (L' := #[.val (.int p1), .val (.int p2), .val (.int p3), .val (.int p4), .val (.int k), .val (.int u), .val (.int v), .val (.ref s), .val (.int (0 : Int32)), .unset, .unset]) at_103 rfl (pc' := 105) rfl ?_
    refine Seg.iload at_105 rfl (pc' := 107) rfl ?_
    refine Seg.ifY (pc' := 121) at_107 (by decide) (by decide) (by decide) ?_
    refine Seg.newO (wd G 31 rfl) (wd G 32 rfl) (wd G 33 rfl) at_121 (pc' := 124) rfl (k' := 7) (n' := 21) rfl rfl (by decide) (by decide) ?_
    intro b1 h3 E2 e_b1 l_b1 A_b1 D_b1
    have F_inhibitedBy_b1 : Fld Z h3 b1 "com/example/pfortner/pfortner/pdp/Decision" "inhibitedBy" "Ljava/lang/String;" Value.null := D_b1 (Or.inr (wd G 44 rfl)) (ty := (.object "java/lang/String")) (by decide)
    refine Seg.dup at_124 rfl (pc' := 125) rfl ?_
    refine Seg.aload at_125 rfl rfl (pc' := 127) rfl ?_
    refine Seg.callN (y' := (⟨"com/example/pfortner/pfortner/pdp/Decision", "<init>", "(Ljava/lang/String;)V"⟩ : MethodName)) (a := b1) rfl (wd G 34 rfl) (wd G 35 rfl) (wd G 36 rfl) ⟨by decide, by decide⟩ (Pays.of_ct (W := 1) (ct_dinit G b1 s .null h3 A_b1 F_inhibitedBy_b1) (allS (List.mem_of_getElem? (i := 0) rfl) all0) (wd G 36 rfl) (wd G 33 rfl) (by decide) (by decide) rfl rfl) (argsL := [(.ref s)]) (rest := [(.ref b1)]) rfl (lenOf pd_3 rfl) rfl (Nat.le_of_eq rfl) rfl at_127 (pc' := 130) rfl (k' := 7) (n' := 21) rfl rfl (by decide) (by decide) ?_
    intro v4 h7 sz5 q6
    obtain ⟨rfl, K9, F9⟩ := q6
    refine Seg.astore (L' := #[.val (.int p1), .val (.int p2), .val (.int p3), .val (.int p4), .val (.int k), .val (.int u), .val (.int v), .val (.ref s), .val (.int (0 : Int32)), .val (.ref b1), .unset]) at_130 rfl rfl (pc' := 132) rfl ?_
    refine Seg.aload at_132 rfl rfl (pc' := 134) rfl ?_
    have F8 := (A_b1.keep K9)
    refine Seg.callV (y' := (⟨"com/example/pfortner/pfortner/pdp/Decision", "isAllowed", "()Z"⟩ : MethodName)) (z := (⟨"com/example/pfortner/pfortner/pdp/Decision", "isAllowed", "()Z"⟩ : MethodName)) (a := b1) (wd G 45 rfl) (wd G 46 rfl) (nf_sel (wd G 48 rfl)) (wd G 48 rfl) (wd G 47 rfl) ⟨by decide, by decide⟩ F8 (Pays.of_ct (W := 0) (ct_isal G b1 s h7 F9) all0 (wd G 49 rfl) (wd G 33 rfl) (by decide) (by decide) rfl rfl) (argsL := []) (rest := []) rfl (lenOf pd_5 rfl) rfl (Nat.le_of_eq rfl) rfl at_134 (pc' := 137) rfl (k' := 7) (n' := 21) rfl rfl (by decide) (by decide) ?_
    intro v9 h12 sz10 q11
    obtain ⟨rfl, rfl⟩ := q11
    refine Seg.iload at_137 rfl (pc' := 139) rfl ?_
    refine Seg.icN at_139 (by decide) (pc' := 142) rfl ?_
    refine Seg.iconst (v := 1) at_142 (by decide) (pc' := 143) rfl ?_
    refine Seg.goto (pc' := 147) at_143 (by decide) (by decide) ?_
    refine Seg.istore (L' := #[.val (.int p1), .val (.int p2), .val (.int p3), .val (.int p4), .val (.int k), .val (.int u), .val (.int v), .val (.ref s), .val (.int (0 : Int32)), .val (.ref b1), .val (.int (1 : Int32))]) at_147 rfl (pc' := 149) rfl ?_
    have E13 : Ext h h7 := ext_kp E2 K9 (allS (Nat.le_trans (ext_rfl _).1 (Nat.le_of_eq e_b1)) all0)
    have F14 := A.ext E13
    exact (sg149 G p1 p2 p3 p4 k u v s (0 : Int32) b1 h7 F14).mono (by decide) (by decide) all0
  · refine Seg.ifN at_95 (XT.i0_eq_f (by rw [hf]; decide)) (pc' := 98) rfl ?_
    refine Seg.iconst (v := 1) at_98 (by decide) (pc' := 99) rfl ?_
    refine Seg.goto (pc' := 103) at_99 (by decide) (by decide) ?_
    refine Seg.istore (L' := #[.val (.int p1), .val (.int p2), .val (.int p3), .val (.int p4), .val (.int k), .val (.int u), .val (.int v), .val (.ref s), .val (.int (1 : Int32)), .unset, .unset]) at_103 rfl (pc' := 105) rfl ?_
    refine Seg.iload at_105 rfl (pc' := 107) rfl ?_
    refine Seg.ifN at_107 (by decide) (pc' := 110) rfl ?_
    refine Seg.newO (wd G 31 rfl) (wd G 32 rfl) (wd G 33 rfl) at_110 (pc' := 113) rfl (k' := 7) (n' := 21) rfl rfl (by decide) (by decide) ?_
    intro b15 h17 E16 e_b15 l_b15 A_b15 D_b15
    have F_inhibitedBy_b15 : Fld Z h17 b15 "com/example/pfortner/pfortner/pdp/Decision" "inhibitedBy" "Ljava/lang/String;" Value.null := D_b15 (Or.inr (wd G 44 rfl)) (ty := (.object "java/lang/String")) (by decide)
    refine Seg.dup at_113 rfl (pc' := 114) rfl ?_
    refine Seg.anull at_114 (pc' := 115) rfl ?_
    refine Seg.callN (y' := (⟨"com/example/pfortner/pfortner/pdp/Decision", "<init>", "(Ljava/lang/String;)V"⟩ : MethodName)) (a := b15) rfl (wd G 34 rfl) (wd G 35 rfl) (wd G 36 rfl) ⟨by decide, by decide⟩ (Pays.of_ct (W := 1) (ct_dinitN G b15 .null h17 A_b15 F_inhibitedBy_b15) (allS (List.mem_of_getElem? (i := 0) rfl) all0) (wd G 36 rfl) (wd G 33 rfl) (by decide) (by decide) rfl rfl) (argsL := [Value.null]) (rest := [(.ref b15)]) rfl (lenOf pd_3 rfl) rfl (Nat.le_of_eq rfl) rfl at_115 (pc' := 118) rfl (k' := 7) (n' := 21) rfl rfl (by decide) (by decide) ?_
    intro v18 h21 sz19 q20
    obtain ⟨rfl, K9, F9⟩ := q20
    refine Seg.goto (pc' := 130) at_118 (by decide) (by decide) ?_
    refine Seg.astore (L' := #[.val (.int p1), .val (.int p2), .val (.int p3), .val (.int p4), .val (.int k), .val (.int u), .val (.int v), .val (.ref s), .val (.int (1 : Int32)), .val (.ref b15), .unset]) at_130 rfl rfl (pc' := 132) rfl ?_
    refine Seg.aload at_132 rfl rfl (pc' := 134) rfl ?_
    have F22 := (A_b15.keep K9)
    refine Seg.callV (y' := (⟨"com/example/pfortner/pfortner/pdp/Decision", "isAllowed", "()Z"⟩ : MethodName)) (z := (⟨"com/example/pfortner/pfortner/pdp/Decision", "isAllowed", "()Z"⟩ : MethodName)) (a := b15) (wd G 45 rfl) (wd G 46 rfl) (nf_sel (wd G 48 rfl)) (wd G 48 rfl) (wd G 47 rfl) ⟨by decide, by decide⟩ F22 (Pays.of_ct (W := 0) (ct_isalN G b15 h21 F9) all0 (wd G 49 rfl) (wd G 33 rfl) (by decide) (by decide) rfl rfl) (argsL := []) (rest := []) rfl (lenOf pd_5 rfl) rfl (Nat.le_of_eq rfl) rfl at_134 (pc' := 137) rfl (k' := 7) (n' := 21) rfl rfl (by decide) (by decide) ?_
    intro v23 h26 sz24 q25
    obtain ⟨rfl, rfl⟩ := q25
    refine Seg.iload at_137 rfl (pc' := 139) rfl ?_
    refine Seg.icN at_139 (by decide) (pc' := 142) rfl ?_
    refine Seg.iconst (v := 1) at_142 (by decide) (pc' := 143) rfl ?_
    refine Seg.goto (pc' := 147) at_143 (by decide) (by decide) ?_
    refine Seg.istore (L' := #[.val (.int p1), .val (.int p2), .val (.int p3), .val (.int p4), .val (.int k), .val (.int u), .val (.int v), .val (.ref s), .val (.int (1 : Int32)), .val (.ref b15), .val (.int (1 : Int32))]) at_147 rfl (pc' := 149) rfl ?_
    have E27 : Ext h h21 := ext_kp E16 K9 (allS (Nat.le_trans (ext_rfl _).1 (Nat.le_of_eq e_b15)) all0)
    have F28 := A.ext E27
    exact (sg149 G p1 p2 p3 p4 k u v s (1 : Int32) b15 h21 F28).mono (by decide) (by decide) all0
theorem pd_6 : parseMethodDescriptor "([C)V" = some ⟨[(.array .char)], none⟩ := by decide +kernel
set_option maxRecDepth 65536 in
set_option maxHeartbeats 4000000 in
theorem sg24 {l : Launch} {Z : State} {a0 : Array Value} (G : Env1 Z a0) (p1 : Int32) (p2 : Int32) (p3 : Int32) (p4 : Int32) (k : Int32) (u : Int32) (v : Int32) (h0 : Heap) (hl : k = 0 ∨ k = 1 ∨ k = 2) (hu : ¬ u < 0 ∧ ¬ (255 : Int32) < u) (hv : ¬ v < 0 ∧ ¬ (255 : Int32) < v) :
    Seg l Z a0 EL1 x code maxLocals ret room_1 (fun v h => v = some (.int 1)) h0 0 0 [] 24 #[.val (.int p1), .val (.int p2), .val (.int p3), .val (.int p4), .val (.int k), .val (.int u), .val (.int v), .unset, .unset, .unset, .unset] [] := by
  rcases hl with rfl | rfl | rfl
  · refine Seg.iload at_24 rfl (pc' := 26) rfl ?_
    refine Seg.ifN at_26 (by decide) (pc' := 29) rfl ?_
    refine Seg.newO (wd G 1 rfl) (wd G 2 rfl) (wd G 3 rfl) at_29 (pc' := 32) rfl (k' := 1) (n' := 4) rfl rfl (by decide) (by decide) ?_
    intro b1 h3 E2 e_b1 l_b1 A_b1 D_b1
    have F_coder_b1 : Fld Z h3 b1 "java/lang/String" "coder" "B" (.int (0 : Int32)) := D_b1 (Or.inr (wd G 28 rfl)) (ty := .byte) (by decide)
    have F_value_b1 : Fld Z h3 b1 "java/lang/String" "value" "[B" Value.null := D_b1 (Or.inr (wd G 30 rfl)) (ty := (.array .byte)) (by decide)
    refine Seg.dup at_32 rfl (pc' := 33) rfl ?_
    refine Seg.iconst (v := 0) at_33 (by decide) (pc' := 34) rfl ?_
    refine Seg.newP (ty := .char) (dv := (.int 0)) rfl rfl (wd G 4 rfl) at_34 (pc' := 36) rfl (by decide) (cap := 0) (by decide) (by decide) (k' := 2) (n' := 4) rfl rfl (by decide) (by decide) ?_
    intro b4 h6 k_b4 E5 e_b4 l_b4 A_b4
    have F7 := A_b1.ext E5
    have F8 := F_value_b1.ext E5
    have F9 := F_coder_b1.ext E5
    refine Seg.callN (y' := (⟨"java/lang/String", "<init>", "([C)V"⟩ : MethodName)) (a := b1) rfl (wd G 5 rfl) (wd G 6 rfl) (wd G 7 rfl) ⟨by decide, by decide⟩ (Pays.of_ct (W := 1) (ct_sie G b1 b4 .null (.int 0) k_b4 (.int 0) h6 F7 F8 F9 A_b4) (allS (List.mem_of_getElem? (i := 1) rfl) all0) (wd G 7 rfl) (wd G 3 rfl) (by decide) (by decide) rfl rfl) (argsL := [(.ref b4)]) (rest := [(.ref b1)]) rfl (lenOf pd_6 rfl) rfl (Nat.le_of_eq rfl) rfl at_36 (pc' := 39) rfl (k' := 6) (n' := 12) rfl rfl (by decide) (by decide) ?_
    intro v10 h13 sz11 q12
    obtain ⟨rfl, K8, F8⟩ := q12
    refine Seg.astore (L' := #[.val (.int p1), .val (.int p2), .val (.int p3), .val (.int p4), .val (.int (0 : Int32)), .val (.int u), .val (.int v), .val (.ref b1), .unset, .unset, .unset]) at_39 rfl rfl (pc' := 41) rfl ?_
    refine Seg.goto (pc' := 92) at_41 (by decide) (by decide) ?_
    exact (sg92 G p1 p2 p3 p4 (0 : Int32) u v b1 h13 F8.exa).mono (by decide) (by decide) all0
  · refine Seg.iload at_24 rfl (pc' := 26) rfl ?_
    refine Seg.ifY (pc' := 44) at_26 (by decide) (by decide) (by decide) ?_
    refine Seg.iload at_44 rfl (pc' := 46) rfl ?_
    refine Seg.iconst (v := 1) at_46 (by decide) (pc' := 47) rfl ?_
    refine Seg.icN at_47 (by decide) (pc' := 50) rfl ?_
    refine Seg.newO (wd G 1 rfl) (wd G 2 rfl) (wd G 3 rfl) at_50 (pc' := 53) rfl (k' := 1) (n' := 4) rfl rfl (by decide) (by decide) ?_
    intro b14 h16 E15 e_b14 l_b14 A_b14 D_b14
    have F_coder_b14 : Fld Z h16 b14 "java/lang/String" "coder" "B" (.int (0 : Int32)) := D_b14 (Or.inr (wd G 28 rfl)) (ty := .byte) (by decide)
    have F_value_b14 : Fld Z h16 b14 "java/lang/String" "value" "[B" Value.null := D_b14 (Or.inr (wd G 30 rfl)) (ty := (.array .byte)) (by decide)
    refine Seg.dup at_53 rfl (pc' := 54) rfl ?_
    refine Seg.iconst (v := 1) at_54 (by decide) (pc' := 55) rfl ?_
    refine Seg.newP (ty := .char) (dv := (.int 0)) rfl rfl (wd G 4 rfl) at_55 (pc' := 57) rfl (by decide) (cap := 1) (by decide) (by decide) (k' := 2) (n' := 5) rfl rfl (by decide) (by decide) ?_
    intro b17 h19 k_b17 E18 e_b17 l_b17 A_b17
    replace A_b17 : Arv Z h19 b17 k_b17 .char (1 : Int32) [(.int (0 : Int32))] (.int 0) := A_b17.pad (pad_rep [] (.int 0) 1)
    refine Seg.dup at_57 rfl (pc' := 58) rfl ?_
    refine Seg.iconst (v := 0) at_58 (by decide) (pc' := 59) rfl ?_
    refine Seg.iload at_59 rfl (pc' := 61) rfl ?_
    refine Seg.castore (v' := u) (i := 0) A_b17 ⟨by decide, by decide⟩ rfl (Nat.le_of_ble_eq_true rfl) (nar255 hu) (List.mem_of_getElem? (i := 0) rfl) at_61 (pc' := 62) rfl ?_
    intro h22 W20 A21
    replace A21 : Arv Z h22 b17 k_b17 .char (1 : Int32) [(.int u)] (.int 0) := A21
    have E23 : Ext h16 h22 := ext_wr E18 W20 (Nat.le_trans (ext_rfl _).1 (Nat.le_of_eq e_b17))
    have F24 := A_b14.ext E23
    have F25 := F_value_b14.ext E23
    have F26 := F_coder_b14.ext E23
    refine Seg.callN (y' := (⟨"java/lang/String", "<init>", "([C)V"⟩ : MethodName)) (a := b14) rfl (wd G 5 rfl) (wd G 6 rfl) (wd G 7 rfl) ⟨by decide, by decide⟩ (pays_str (W := 1) G [u] 1 h22 F24 F25 F26 A21 rfl rfl (by decide) (by decide) (by intro c hc; simp only [List.mem_cons, List.not_mem_nil, or_false] at hc; rcases hc with rfl <;> first | assumption | exact and255 _) (List.mem_of_getElem? (i := 1) rfl) (by decide) (by decide)) (argsL := [(.ref b17)]) (rest := [(.ref b14)]) rfl (lenOf pd_6 rfl) rfl (Nat.le_of_eq rfl) rfl at_62 (pc' := 65) rfl (k' := 3) (n' := 6) rfl rfl (by decide) (by decide) ?_
    intro v27 h30 sz28 q29
    obtain ⟨rfl, K8, F8⟩ := q29
    refine Seg.astore (L' := #[.val (.int p1), .val (.int p2), .val (.int p3), .val (.int p4), .val (.int (1 : Int32)), .val (.int u), .val (.int v), .val (.ref b14), .unset, .unset, .unset]) at_65 rfl rfl (pc' := 67) rfl ?_
    refine Seg.goto (pc' := 92) at_67 (by decide) (by decide) ?_
    exact (sg92 G p1 p2 p3 p4 (1 : Int32) u v b14 h30 F8.exa).mono (by decide) (by decide) all0
  · refine Seg.iload at_24 rfl (pc' := 26) rfl ?_
    refine Seg.ifY (pc' := 44) at_26 (by decide) (by decide) (by decide) ?_
    refine Seg.iload at_44 rfl (pc' := 46) rfl ?_
    refine Seg.iconst (v := 1) at_46 (by decide) (pc' := 47) rfl ?_
    refine Seg.icY (pc' := 70) at_47 (by decide) (by decide) (by decide) ?_
    refine Seg.newO (wd G 1 rfl) (wd G 2 rfl) (wd G 3 rfl) at_70 (pc' := 73) rfl (k' := 1) (n' := 4) rfl rfl (by decide) (by decide) ?_
    intro b31 h33 E32 e_b31 l_b31 A_b31 D_b31
    have F_coder_b31 : Fld Z h33 b31 "java/lang/String" "coder" "B" (.int (0 : Int32)) := D_b31 (Or.inr (wd G 28 rfl)) (ty := .byte) (by decide)
    have F_value_b31 : Fld Z h33 b31 "java/lang/String" "value" "[B" Value.null := D_b31 (Or.inr (wd G 30 rfl)) (ty := (.array .byte)) (by decide)
    refine Seg.dup at_73 rfl (pc' := 74) rfl ?_
    refine Seg.iconst (v := 2) at_74 (by decide) (pc' := 75) rfl ?_
    refine Seg.newP (ty := .char) (dv := (.int 0)) rfl rfl (wd G 4 rfl) at_75 (pc' := 77) rfl (by decide) (cap := 2) (by decide) (by decide) (k' := 2) (n' := 6) rfl rfl (by decide) (by decide) ?_
    intro b34 h36 k_b34 E35 e_b34 l_b34 A_b34
    replace A_b34 : Arv Z h36 b34 k_b34 .char (2 : Int32) [(.int (0 : Int32)), (.int (0 : Int32))] (.int 0) := A_b34.pad (pad_rep [] (.int 0) 2)
    refine Seg.dup at_77 rfl (pc' := 78) rfl ?_
    refine Seg.iconst (v := 0) at_78 (by decide) (pc' := 79) rfl ?_
    refine Seg.iload at_79 rfl (pc' := 81) rfl ?_
    refine Seg.castore (v' := u) (i := 0) A_b34 ⟨by decide, by decide⟩ rfl (Nat.le_of_ble_eq_true rfl) (nar255 hu) (List.mem_of_getElem? (i := 0) rfl) at_81 (pc' := 82) rfl ?_
    intro h39 W37 A38
    replace A38 : Arv Z h39 b34 k_b34 .char (2 : Int32) [(.int u), (.int (0 : Int32))] (.int 0) := A38
    refine Seg.dup at_82 rfl (pc' := 83) rfl ?_
    refine Seg.iconst (v := 1) at_83 (by decide) (pc' := 84) rfl ?_
    refine Seg.iload at_84 rfl (pc' := 86) rfl ?_
    refine Seg.castore (v' := v) (i := 1) A38 ⟨by decide, by decide⟩ rfl (Nat.le_of_ble_eq_true rfl) (nar255 hv) (List.mem_of_getElem? (i := 0) rfl) at_86 (pc' := 87) rfl ?_
    intro h42 W40 A41
    replace A41 : Arv Z h42 b34 k_b34 .char (2 : Int32) [(.int u), (.int v)] (.int 0) := A41
    have E43 : Ext h33 h39 := ext_wr E35 W37 (Nat.le_trans (ext_rfl _).1 (Nat.le_of_eq e_b34))
    have E44 : Ext h33 h42 := ext_wr E43 W40 (Nat.le_trans (ext_rfl _).1 (Nat.le_of_eq e_b34))
    have F45 := A_b31.ext E44
    have F46 := F_value_b31.ext E44
    have F47 := F_coder_b31.ext E44
    refine Seg.callN (y' := (⟨"java/lang/String", "<init>", "([C)V"⟩ : MethodName)) (a := b31) rfl (wd G 5 rfl) (wd G 6 rfl) (wd G 7 rfl) ⟨by decide, by decide⟩ (pays_str (W := 1) G [u, v] 2 h42 F45 F46 F47 A41 rfl rfl (by decide) (by decide) (by intro c hc; simp only [List.mem_cons, List.not_mem_nil, or_false] at hc; rcases hc with rfl | rfl <;> first | assumption | exact and255 _) (List.mem_of_getElem? (i := 1) rfl) (by decide) (by decide)) (argsL := [(.ref b34)]) (rest := [(.ref b31)]) rfl (lenOf pd_6 rfl) rfl (Nat.le_of_eq rfl) rfl at_87 (pc' := 90) rfl (k' := 3) (n' := 8) rfl rfl (by decide) (by decide) ?_
    intro v48 h51 sz49 q50
    obtain ⟨rfl, K8, F8⟩ := q50
    refine Seg.astore (L' := #[.val (.int p1), .val (.int p2), .val (.int p3), .val (.int p4), .val (.int (2 : Int32)), .val (.int u), .val (.int v), .val (.ref b31), .unset, .unset, .unset]) at_90 rfl rfl (pc' := 92) rfl ?_
    exact (sg92 G p1 p2 p3 p4 (2 : Int32) u v b31 h51 F8.exa).mono (by decide) (by decide) all0
set_option maxRecDepth 65536 in
set_option maxHeartbeats 4000000 in
theorem sg0 {l : Launch} {Z : State} {a0 : Array Value} (G : Env1 Z a0) (p1 : Int32) (p2 : Int32) (p3 : Int32) (p4 : Int32) (h0 : Heap) :
    Seg l Z a0 EL1 x code maxLocals ret room_1 (fun v h => v = some (.int 1)) h0 0 0 [] 0 #[.val (.int p1), .val (.int p2), .val (.int p3), .val (.int p4), .unset, .unset, .unset, .unset, .unset, .unset, .unset] [] := by
  refine Seg.iloadN at_0 rfl (pc' := 1) rfl ?_
  refine Seg.ldcI (wd G 0 rfl) at_1 (pc' := 3) rfl ?_
  refine Seg.iand (v := (p4 &&& (2147483647 : Int32))) at_3 rfl (pc' := 4) rfl ?_
  refine Seg.iconst (v := 3) at_4 (by decide) (pc' := 5) rfl ?_
  refine Seg.irem (v := ((p4 &&& (2147483647 : Int32)) % (3 : Int32))) at_5 (by decide) rfl (pc' := 6) rfl ?_
  refine Seg.istore (L' := #[.val (.int p1), .val (.int p2), .val (.int p3), .val (.int p4), .val (.int ((p4 &&& (2147483647 : Int32)) % (3 : Int32))), .unset, .unset, .unset, .unset, .unset, .unset]) at_6 rfl (pc' := 8) rfl ?_
  refine Seg.iloadN at_8 rfl (pc' := 9) rfl ?_
  refine Seg.sipush (v := 255) at_9 (by decide) (pc' := 12) rfl ?_
  refine Seg.iand (v := (p2 &&& (255 : Int32))) at_12 rfl (pc' := 13) rfl ?_
  refine Seg.i2c (v := (p2 &&& (255 : Int32))) at_13 (i2c_mask _) (pc' := 14) rfl ?_
  refine Seg.istore (L' := #[.val (.int p1), .val (.int p2), .val (.int p3), .val (.int p4), .val (.int ((p4 &&& (2147483647 : Int32)) % (3 : Int32))), .val (.int (p2 &&& (255 : Int32))), .unset, .unset, .unset, .unset, .unset]) at_14 rfl (pc' := 16) rfl ?_
  refine Seg.iloadN at_16 rfl (pc' := 17) rfl ?_
  refine Seg.sipush (v := 255) at_17 (by decide) (pc' := 20) rfl ?_
  refine Seg.iand (v := (p3 &&& (255 : Int32))) at_20 rfl (pc' := 21) rfl ?_
  refine Seg.i2c (v := (p3 &&& (255 : Int32))) at_21 (i2c_mask _) (pc' := 22) rfl ?_
  refine Seg.istore (L' := #[.val (.int p1), .val (.int p2), .val (.int p3), .val (.int p4), .val (.int ((p4 &&& (2147483647 : Int32)) % (3 : Int32))), .val (.int (p2 &&& (255 : Int32))), .val (.int (p3 &&& (255 : Int32))), .unset, .unset, .unset, .unset]) at_22 rfl (pc' := 24) rfl ?_
  exact sg24 G p1 p2 p3 p4 _ _ _ h0 (rem3 p4) (and255 p2) (and255 p3)
theorem ef_law (i1 : Int32) (i2 : Int32) (i3 : Int32) (i4 : Int32) (m : MethodId) : entryFrame m #[(.int i1), (.int i2), (.int i3), (.int i4)] maxLocals = mkF m 0 #[.val (.int i1), .val (.int i2), .val (.int i3), .val (.int i4), .unset, .unset, .unset, .unset, .unset, .unset, .unset] [] := by first | (simp [entryFrame, mkF, argsToLocals, Value.category, maxLocals]; done) | rfl
theorem pn_com_example_pfortner_pfortner_pdp_DecisionIsAllowedPinLaw : plainName "com/example/pfortner/pfortner/pdp/DecisionIsAllowedPinLaw" = true := by first | (simp [plainName, overriddenIn]; done) | decide +kernel
set_option maxRecDepth 65536 in
set_option maxHeartbeats 40000000 in
theorem comes_1 {Post : Tables → Env → Array Value → State → Outcome → State → Prop} (hpost : ∀ tb e args s v u, (limb_1_1.after args s (.returned v) u = true ∧ limb_1_2.after args s (.returned v) u = true ∧ True) → Jvm.Pilot.@@N@@.Jvm.D.FramedW s (.returned v) u (Jvm.fieldLocs frame_1_writes args s ++ Jvm.arrayLocs frame_1_arrays args s ++ Jvm.staticLocs frame_1_statics s) 24 2176 → Post tb e args s (.returned v) u) :
    Jvm.Pilot.@@N@@.Jvm.D.ArmFor flags0 classFile x code maxLocals ret World_1 tables_1 room_1 Calls_1 rest_1 Pre_1 Post := by
  intro l hfl _ _ p e ha hc hk s m args below hf hA hF happ hP
  obtain ⟨hcalls, hrest, hpre⟩ := hP
  obtain ⟨-, -, -, hnamed, -, -, -, hat⟩ := (Spec.applies_iff hf).mp happ
  obtain ⟨hg, hn⟩ := and_e (Cond.before_iff.mp (show (Jvm.Cond.and given_1 narrow_1).before args s = true from hpre))
  obtain ⟨hc0, g1⟩ := and_e hg
  obtain ⟨a1, g2⟩ := and_e g1
  obtain ⟨a2, g3⟩ := and_e g2
  obtain ⟨a3, g4⟩ := and_e g3
  obtain ⟨w0, w1, w2, w3, rfl⟩ : ∃ w0 w1 w2 w3 : Value, args = #[w0, w1, w2, w3] := by
    have hs : args.size = 4 := by simpa [Cond.value, given_1] using hc0
    obtain ⟨L⟩ := args
    match L, hs with
    | [w0, w1, w2, w3], _ => exact ⟨w0, w1, w2, w3, rfl⟩
  have hw := fun d (hd : d ∈ tables_1) => atoms_spec (ws := Jvm.Cond.code x code maxLocals ret :: tables_1) hat d (List.mem_cons_of_mem _ hd)
  obtain ⟨hsets, hown0⟩ := atoms_of _ (rest_1_c_eq ▸ (show rest_1_c.before _ s = true from hrest))
  have hfit : Fit s := fun {y c} hc i hi => by
    obtain ⟨ha, rfl⟩ := Array.getElem?_eq_some_iff.mp hc
    have q := List.all_eq_true.mp ((Array.all_eq_true_iff_forall_mem.mp hF) _ (Array.getElem_mem ha)) i (List.mem_range.mpr hi)
    simpa [Array.getElem?_eq_getElem hi] using q
  obtain ⟨i1, u0⟩ := is_v a1
  obtain rfl : w0 = (.int i1) := Option.some.inj u0
  obtain ⟨i2, u1⟩ := is_v a2
  obtain rfl : w1 = (.int i2) := Option.some.inj u1
  obtain ⟨i3, u2⟩ := is_v a3
  obtain rfl : w2 = (.int i3) := Option.some.inj u2
  obtain ⟨i4, u3⟩ := is_v g4
  obtain rfl : w3 = (.int i4) := Option.some.inj u3
  obtain ⟨zc, ec⟩ := is_v (Cond.before_iff.mp (hsets _ (List.mem_of_getElem? (i := 1) rfl)))
  have Sc : Sta s s.heap "java/lang/String" "COMPACT_STRINGS" "Z" (.int zc) := Sta.start ec (Or.inl (hsets _ (List.mem_of_getElem? (i := 0) rfl)))
  have hcw := hsets _ (List.mem_of_getElem? (i := 2) rfl)
  have hzc : ¬ (zc = (0 : Int32)) := gotF (Cond.eq_ints ec (Term.int_eval (0))) (not_v (Cond.before_iff.mp hcw))
  have hEW : EW s #[(.int i1), (.int i2), (.int i3), (.int i4)] EL1 := (EW.cons (hw _ (List.mem_of_getElem? (i := 54) rfl)) (by decide) (EW.cons (hw _ (List.mem_of_getElem? (i := 65) rfl)) (by decide) EW.nil))
  obtain ⟨n1, n2⟩ := and_e hn
  obtain ⟨al, ea⟩ := exa_v n1
  have Aa : Exa s s.heap al "com/example/pfortner/pfortner/pdp/Decision" := Exa.start ea n1
  have Fa : Fld s s.heap al "com/example/pfortner/pfortner/pdp/Decision" "inhibitedBy" "Ljava/lang/String;" .null := Fld.start ((fld_at ea).symm.trans (null_v n2))
  have Sa : Sta s s.heap "com/example/pfortner/pfortner/pdp/Decision" "ALLOW" "Lcom/example/pfortner/pfortner/pdp/Decision;" (.ref al) := Sta.start ea (Or.inr ⟨hw _ (List.mem_of_getElem? (i := 33) rfl), hw _ (List.mem_of_getElem? (i := 64) rfl)⟩)
  have G : Env1 s #[(.int i1), (.int i2), (.int i3), (.int i4)] := ⟨hw, hEW, ⟨zc, Sc, hzc⟩, ⟨al, Sa, Aa, Fa⟩⟩
  have hH : CHv s EL1 s.vm s.heap := CHv.start hEW (fun p hp => hcalls.1 p hp) hcw (hw _ (List.mem_of_getElem? (i := 20) rfl)) (hw _ (List.mem_of_getElem? (i := 2) rfl))
  have ct : Ct l s EL1 [] tables_1 x code maxLocals ret room_1 #[(.int i1), (.int i2), (.int i3), (.int i4)] s.heap (fun v h => v = some (.int 1)) := Ct.of_seg (a0 := #[(.int i1), (.int i2), (.int i3), (.int i4)]) pn_com_example_pfortner_pfortner_pdp_DecisionIsAllowedPinLaw G.2.1 (ef_law i1 i2 i3 i4) (sg0 G i1 i2 i3 i4 s.heap)
  obtain ⟨n, o, h1, h2, h3, v, L, rfl, ⟨N, -, rfl⟩, -, hq⟩ := ct p e ha hc hk s m _ below hf ((Spec.applies_iff_loose hf).mp happ).1 ⟨rfl, State.Warmed39.refl s, rfl, hH, (fun x q => nomatch q), ext_rfl _⟩ trivial
  refine ⟨n, _, h1, h2, h3, hpost _ _ _ _ _ _ ⟨Cond.after_iff.mpr rfl, Cond.after_iff.mpr (eq_i res_at (Term.int_eval (1)) rfl), trivial⟩ ?_⟩
  exact ⟨hq.1, hq.2.1, hq.2.2.1, (hq.2.2.2.sift fun y hy => Or.inr (N y hy)).mono (by decide) (by decide)⟩
theorem main_1_1 : Claimed_1_1 := comes_1 fun _ _ _ _ _ _ h hF => ⟨h.1, hF⟩
theorem main_1_2 : Claimed_1_2 := comes_1 fun _ _ _ _ _ _ h hF => ⟨h.2.1, hF⟩
end Jvm.Pilot.@@N@@
namespace Jvm.Pilot.@@N@@
open Jvm Jvm.ClassFile Sem Op Lib Jvm.Free Jvm.Stand Jvm.Pilot.@@N@@.Jvm.D
/-! MADE BY PROGRAM (witnessworld.py) out of the Statement's table words and the real class files: 22 classes; the members and pool entries that the words name. The judged class is class 1, her method 1. -/
namespace start1
open Jvm.ClassFile
def u (s : String) : CpInfo := .utf8 (stringToUtf16 s)
/-- a pool by its gaps: so many unusable entries, then the entry; so many at the end -/
def gap : Nat → List CpInfo → List CpInfo
  | 0, r => r
  | n + 1, r => .unusable :: gap n r
def poolList (es : List (Nat × CpInfo)) (last : Nat) : List CpInfo := es.foldr (fun e r => gap e.1 (e.2 :: r)) (gap last [])
def pool (es : List (Nat × CpInfo)) (last : Nat) : Array CpInfo := ⟨poolList es last⟩
def fileOf (pool : Array CpInfo) (this : Nat) (attrs : Array Attribute := #[]) (ms : Array MethodInfo := #[]) (fl : Nat := 33) (sup : Nat := 0) (ifs : Array Nat := #[]) (fds : Array FieldInfo := #[]) : ClassFile where
  minorVersion := 0
  majorVersion := 65
  constantPool := pool
  accessFlags := fl
  thisClass := this
  superClass := sup
  interfaces := ifs
  fields := fds
  methods := ms
  attributes := attrs
def plain (name : String) (sup : Option ClassId) : Class where
  name := name
  kind := .ordinary
  loader := none
  accessFlags := 33
  super := sup
  interfaces := #[]
  cf := none
  fields := #[]
  methods := #[]
  instanceTypes := #[]
  staticTypes := #[]
  resolved := #[]
  callSites := []
  init := .initialized
  statics := none
  mirror := none

def pool0 : Array CpInfo := pool [(5, u "<init>"), (0, u "()V"), (1, .class_ 10), (1, u "java/lang/Object")] 113

def k0c0 : Code := { maxStack := 0, maxLocals := 1, code := object_method_1_code, exceptionTable := #[], attributes := #[] }
def k0m0 : Method := { name := "<init>", desc := "()V", sig := { parameters := [], returnType := none }, accessFlags := 1, code := some k0c0 }
/-- java/lang/Object -/
def k0 : Class := { plain "java/lang/Object" none with
  accessFlags := 33
  interfaces := #[]
  cf := some (fileOf pool0 8 #[] #[{ accessFlags := 1, nameIndex := 5, descriptorIndex := 6, attributes := #[] }] 33 0 #[] #[])
  fields := #[]
  methods := #[k0m0]
  instanceTypes := #[]
  staticTypes := #[]
  resolved := Array.replicate 124 none
  statics := none }

def pool1 : Array CpInfo := pool [(2, .class_ 4), (1, u "java/lang/Object"), (0, u "<init>"), (0, u "()V"), (0, .integer 2147483647), (0, .class_ 9), (0, u "java/lang/String"), (0, .methodref 8 11), (0, .nameAndType 5 12), (0, u "([C)V"), (0, .class_ 14), (0, u "com/example/pfortner/pfortner/pdp/Decision"), (0, .methodref 13 16), (0, .nameAndType 5 17), (0, u "(Ljava/lang/String;)V"), (0, .methodref 13 19), (0, .nameAndType 20 21), (0, u "isAllowed"), (0, u "()Z"), (0, .methodref 13 23), (0, .nameAndType 24 25), (0, u "inhibit"), (0, u "(Ljava/lang/String;)Lcom/example/pfortner/pfortner/pdp/Decision;"), (0, .fieldref 13 27), (0, .nameAndType 28 29), (0, u "ALLOW"), (0, u "Lcom/example/pfortner/pfortner/pdp/Decision;"), (0, .class_ 31), (0, u "com/example/pfortner/pfortner/pdp/DecisionIsAllowedPinLaw"), (2, u "law"), (0, u "(IIII)Z")] 3

def k1m0 : Method := { name := "<init>", desc := "()V", sig := { parameters := [], returnType := none }, accessFlags := 1, code := none }
def k1c1 : Code := { maxStack := 6, maxLocals := 11, code := code, exceptionTable := #[], attributes := #[] }
def k1m1 : Method := { name := "law", desc := "(IIII)Z", sig := { parameters := [.int, .int, .int, .int], returnType := some .boolean }, accessFlags := 9, code := some k1c1 }
/-- com/example/pfortner/pfortner/pdp/DecisionIsAllowedPinLaw -/
def k1 : Class := { plain "com/example/pfortner/pfortner/pdp/DecisionIsAllowedPinLaw" (some 0) with
  accessFlags := 49
  interfaces := #[]
  cf := some (fileOf pool1 30 #[] #[{ accessFlags := 1, nameIndex := 5, descriptorIndex := 6, attributes := #[] }, { accessFlags := 9, nameIndex := 34, descriptorIndex := 35, attributes := #[] }] 49 2 #[] #[])
  fields := #[]
  methods := #[k1m0, k1m1]
  instanceTypes := #[]
  staticTypes := #[]
  resolved := Array.replicate 39 none
  statics := none }

def pool2 : Array CpInfo := pool [(1, .class_ 2), (0, u "java/io/Serializable"), (0, .class_ 4), (0, u "java/lang/Object")] 2

/-- java/io/Serializable -/
def k2 : Class := { plain "java/io/Serializable" (some 0) with
  accessFlags := 1537
  interfaces := #[]
  cf := some (fileOf pool2 1 #[] #[] 1537 3 #[] #[])
  fields := #[]
  methods := #[]
  instanceTypes := #[]
  staticTypes := #[]
  resolved := Array.replicate 7 none
  statics := none }

def pool3 : Array CpInfo := pool [(1, .class_ 2), (0, u "java/lang/Comparable"), (0, .class_ 4), (0, u "java/lang/Object")] 7

/-- java/lang/Comparable -/
def k3 : Class := { plain "java/lang/Comparable" (some 0) with
  accessFlags := 1537
  interfaces := #[]
  cf := some (fileOf pool3 1 #[] #[] 1537 3 #[] #[])
  fields := #[]
  methods := #[]
  instanceTypes := #[]
  staticTypes := #[]
  resolved := Array.replicate 12 none
  statics := none }

def pool4 : Array CpInfo := pool [(2, .class_ 4), (1, u "java/lang/CharSequence"), (42, .class_ 48), (0, u "java/lang/CharSequence$1CodePointIterator"), (10, .class_ 60), (0, u "java/lang/CharSequence$1CharIterator"), (5, .class_ 67), (0, u "java/lang/Object")] 63

/-- java/lang/CharSequence -/
def k4 : Class := { plain "java/lang/CharSequence" (some 0) with
  accessFlags := 1537
  interfaces := #[]
  cf := some (fileOf pool4 2 #[.nestMembers #[47, 59]] #[] 1537 66 #[] #[])
  fields := #[]
  methods := #[]
  instanceTypes := #[]
  staticTypes := #[]
  resolved := Array.replicate 131 none
  statics := none }

def pool5 : Array CpInfo := pool [(1, .class_ 2), (0, u "java/lang/constant/Constable"), (0, .class_ 4), (0, u "java/lang/Object")] 6

/-- java/lang/constant/Constable -/
def k5 : Class := { plain "java/lang/constant/Constable" (some 0) with
  accessFlags := 1537
  interfaces := #[]
  cf := some (fileOf pool5 1 #[] #[] 1537 3 #[] #[])
  fields := #[]
  methods := #[]
  instanceTypes := #[]
  staticTypes := #[]
  resolved := Array.replicate 11 none
  statics := none }

def pool6 : Array CpInfo := pool [(1, .class_ 2), (0, u "java/lang/constant/ConstantDesc"), (0, .class_ 4), (0, u "java/lang/Object")] 32

/-- java/lang/constant/ConstantDesc -/
def k6 : Class := { plain "java/lang/constant/ConstantDesc" (some 0) with
  accessFlags := 1537
  interfaces := #[]
  cf := some (fileOf pool6 1 #[] #[] 1537 3 #[] #[])
  fields := #[]
  methods := #[]
  instanceTypes := #[]
  staticTypes := #[]
  resolved := Array.replicate 37 none
  statics := none }

def pool7 : Array CpInfo := pool [(1, .methodref 2 3), (0, .class_ 4), (0, .nameAndType 5 6), (0, u "java/lang/Object"), (0, u "<init>"), (0, u "()V"), (0, .string 8), (0, u ""), (0, .fieldref 10 11), (0, .class_ 12), (0, .nameAndType 13 14), (0, u "java/lang/String"), (0, u "value"), (0, u "[B"), (0, .fieldref 10 16), (0, .nameAndType 17 18), (0, u "coder"), (0, u "B"), (2, u "hash"), (0, u "I"), (2, u "hashIsZero"), (0, u "Z"), (0, .methodref 10 28), (0, .nameAndType 5 29), (0, u "([CIILjava/lang/Void;)V"), (8, .fieldref 10 39), (0, .nameAndType 40 26), (0, u "COMPACT_STRINGS"), (1, .class_ 44), (1, u "java/lang/StringUTF16"), (0, u "compress"), (1, .methodref 42 48), (0, .nameAndType 49 50), (0, u "coderFromArrayLen"), (0, u "([BI)B"), (126, .methodref 42 178), (0, .nameAndType 45 179), (0, u "([CII)[B"), (395, .class_ 576), (0, u "java/lang/CharSequence"), (22, u "CASE_INSENSITIVE_ORDER"), (0, u "Ljava/util/Comparator;"), (409, u "([C)V"), (90, u "serialPersistentFields"), (0, u "[Ljava/io/ObjectStreamField;"), (0, .class_ 1104), (0, u "java/lang/String$CaseInsensitiveComparator"), (1, .class_ 1107), (0, u "java/io/Serializable"), (0, .class_ 1109), (0, u "java/lang/Comparable"), (0, .class_ 1111), (0, u "java/lang/constant/Constable"), (0, .class_ 1113), (0, u "java/lang/constant/ConstantDesc"), (2, u "serialVersionUID"), (0, u "J"), (3, u "REPL"), (0, u "C"), (2, u "LATIN1"), (1, u "UTF16")] 323

def k7m0 : Method := { name := "<init>", desc := "()V", sig := { parameters := [], returnType := none }, accessFlags := 1, code := none }
def k7c1 : Code := { maxStack := 5, maxLocals := 2, code := jdk_42_method_3_code, exceptionTable := #[], attributes := #[] }
def k7m1 : Method := { name := "<init>", desc := "([C)V", sig := { parameters := [(.array .char)], returnType := none }, accessFlags := 1, code := some k7c1 }
def k7c2 : Code := { maxStack := 4, maxLocals := 6, code := jdk_42_method_149_code, exceptionTable := #[], attributes := #[] }
def k7m2 : Method := { name := "<init>", desc := "([CIILjava/lang/Void;)V", sig := { parameters := [(.array .char), .int, .int, (.object "java/lang/Void")], returnType := none }, accessFlags := 2, code := some k7c2 }
/-- java/lang/String -/
def k7 : Class := { plain "java/lang/String" (some 0) with
  accessFlags := 49
  interfaces := #[2, 3, 4, 5, 6]
  cf := some (fileOf pool7 10 #[.nestMembers #[1103]] #[{ accessFlags := 1, nameIndex := 5, descriptorIndex := 6, attributes := #[] }, { accessFlags := 1, nameIndex := 5, descriptorIndex := 1010, attributes := #[] }, { accessFlags := 2, nameIndex := 5, descriptorIndex := 29, attributes := #[] }] 49 2 #[1106, 1108, 575, 1110, 1112] #[{ accessFlags := 18, nameIndex := 13, descriptorIndex := 14, attributes := #[] }, { accessFlags := 18, nameIndex := 17, descriptorIndex := 18, attributes := #[] }, { accessFlags := 2, nameIndex := 21, descriptorIndex := 22, attributes := #[] }, { accessFlags := 2, nameIndex := 25, descriptorIndex := 26, attributes := #[] }, { accessFlags := 26, nameIndex := 1116, descriptorIndex := 1117, attributes := #[] }, { accessFlags := 24, nameIndex := 40, descriptorIndex := 26, attributes := #[] }, { accessFlags := 26, nameIndex := 1101, descriptorIndex := 1102, attributes := #[] }, { accessFlags := 26, nameIndex := 1121, descriptorIndex := 1122, attributes := #[] }, { accessFlags := 25, nameIndex := 599, descriptorIndex := 600, attributes := #[] }, { accessFlags := 24, nameIndex := 1125, descriptorIndex := 18, attributes := #[] }, { accessFlags := 24, nameIndex := 1127, descriptorIndex := 18, attributes := #[] }])
  fields := #[{ name := "value", type := (.array .byte), accessFlags := 18, slot := 0, constantValue := 0 }, { name := "coder", type := .byte, accessFlags := 18, slot := 1, constantValue := 0 }, { name := "hash", type := .int, accessFlags := 2, slot := 2, constantValue := 0 }, { name := "hashIsZero", type := .boolean, accessFlags := 2, slot := 3, constantValue := 0 }, { name := "serialVersionUID", type := .long, accessFlags := 26, slot := 0, constantValue := 0 }, { name := "COMPACT_STRINGS", type := .boolean, accessFlags := 24, slot := 1, constantValue := 0 }, { name := "serialPersistentFields", type := (.array (.object "java/io/ObjectStreamField")), accessFlags := 26, slot := 2, constantValue := 0 }, { name := "REPL", type := .char, accessFlags := 26, slot := 3, constantValue := 0 }, { name := "CASE_INSENSITIVE_ORDER", type := (.object "java/util/Comparator"), accessFlags := 25, slot := 4, constantValue := 0 }, { name := "LATIN1", type := .byte, accessFlags := 24, slot := 5, constantValue := 0 }, { name := "UTF16", type := .byte, accessFlags := 24, slot := 6, constantValue := 0 }]
  methods := #[k7m0, k7m1, k7m2]
  instanceTypes := #[(.array .byte), .byte, .int, .boolean]
  staticTypes := #[.long, .boolean, (.array (.object "java/io/ObjectStreamField")), .char, (.object "java/util/Comparator"), .byte, .byte]
  resolved := Array.replicate 1451 none
  statics := some 0 }

def pool8 : Array CpInfo := pool [(6, .class_ 8), (1, u "java/lang/Object"), (0, u "<init>"), (0, u "()V"), (1, .class_ 14), (1, u "java/lang/StringUTF16"), (31, u "$assertionsDisabled"), (0, u "Z"), (13, u "HI_BYTE_SHIFT"), (0, u "I"), (2, u "LO_BYTE_SHIFT"), (49, .methodref 12 116), (0, .nameAndType 117 118), (0, u "compress"), (0, u "([CI[BII)I"), (3, u "([CII)[B"), (138, u "coderFromArrayLen"), (0, u "([BI)B"), (106, .class_ 371), (1, u "java/lang/StringUTF16$LinesSpliterator"), (58, u "MAX_LENGTH"), (196, .class_ 628), (0, u "java/lang/StringUTF16$CodePointsSpliterator"), (0, .class_ 630), (0, u "java/lang/StringUTF16$CharsSpliterator")] 4

def k8m0 : Method := { name := "<init>", desc := "()V", sig := { parameters := [], returnType := none }, accessFlags := 0, code := none }
def k8c1 : Code := { maxStack := 2, maxLocals := 2, code := jdk_52_method_15_code, exceptionTable := #[], attributes := #[] }
def k8m1 : Method := { name := "coderFromArrayLen", desc := "([BI)B", sig := { parameters := [(.array .byte), .int], returnType := some .byte }, accessFlags := 8, code := some k8c1 }
def k8c2 : Code := { maxStack := 5, maxLocals := 6, code := jdk_52_method_16_code, exceptionTable := #[], attributes := #[] }
def k8m2 : Method := { name := "compress", desc := "([CII)[B", sig := { parameters := [(.array .char), .int, .int], returnType := some (.array .byte) }, accessFlags := 9, code := some k8c2 }
def k8c3 : Code := { maxStack := 3, maxLocals := 7, code := jdk_52_method_21_code, exceptionTable := #[], attributes := #[] }
def k8m3 : Method := { name := "compress", desc := "([CI[BII)I", sig := { parameters := [(.array .char), .int, (.array .byte), .int, .int], returnType := some .int }, accessFlags := 9, code := some k8c3 }
/-- java/lang/StringUTF16 -/
def k8 : Class := { plain "java/lang/StringUTF16" (some 0) with
  accessFlags := 48
  interfaces := #[]
  cf := some (fileOf pool8 12 #[.nestMembers #[627, 629, 369]] #[{ accessFlags := 0, nameIndex := 9, descriptorIndex := 10, attributes := #[] }, { accessFlags := 8, nameIndex := 261, descriptorIndex := 262, attributes := #[] }, { accessFlags := 9, nameIndex := 117, descriptorIndex := 122, attributes := #[] }, { accessFlags := 9, nameIndex := 117, descriptorIndex := 118, attributes := #[] }] 48 6 #[] #[{ accessFlags := 26, nameIndex := 61, descriptorIndex := 62, attributes := #[] }, { accessFlags := 26, nameIndex := 65, descriptorIndex := 62, attributes := #[] }, { accessFlags := 24, nameIndex := 430, descriptorIndex := 62, attributes := #[] }, { accessFlags := 4120, nameIndex := 46, descriptorIndex := 47, attributes := #[] }])
  fields := #[{ name := "HI_BYTE_SHIFT", type := .int, accessFlags := 26, slot := 0, constantValue := 0 }, { name := "LO_BYTE_SHIFT", type := .int, accessFlags := 26, slot := 1, constantValue := 0 }, { name := "MAX_LENGTH", type := .int, accessFlags := 24, slot := 2, constantValue := 0 }, { name := "$assertionsDisabled", type := .boolean, accessFlags := 4120, slot := 3, constantValue := 0 }]
  methods := #[k8m0, k8m1, k8m2, k8m3]
  instanceTypes := #[]
  staticTypes := #[.int, .int, .int, .boolean]
  resolved := Array.replicate 635 none
  statics := none }

def pool9 : Array CpInfo := pool [(1, .methodref 2 3), (0, .class_ 4), (0, .nameAndType 5 6), (0, u "java/lang/Object"), (0, u "<init>"), (0, u "()V"), (0, .class_ 8), (0, u "java/lang/Record")] 13

def k9c0 : Code := { maxStack := 1, maxLocals := 1, code := jdk_30_method_1_code, exceptionTable := #[], attributes := #[] }
def k9m0 : Method := { name := "<init>", desc := "()V", sig := { parameters := [], returnType := none }, accessFlags := 4, code := some k9c0 }
/-- java/lang/Record -/
def k9 : Class := { plain "java/lang/Record" (some 0) with
  accessFlags := 1057
  interfaces := #[]
  cf := some (fileOf pool9 7 #[] #[{ accessFlags := 4, nameIndex := 5, descriptorIndex := 6, attributes := #[] }] 1057 2 #[] #[])
  fields := #[]
  methods := #[k9m0]
  instanceTypes := #[]
  staticTypes := #[]
  resolved := Array.replicate 22 none
  statics := none }

def pool10 : Array CpInfo := pool [(1, .methodref 2 3), (0, .class_ 4), (0, .nameAndType 5 6), (0, u "java/lang/Record"), (0, u "<init>"), (0, u "()V"), (0, .fieldref 8 9), (0, .class_ 10), (0, .nameAndType 11 12), (0, u "com/example/pfortner/pfortner/pdp/Decision"), (0, u "inhibitedBy"), (0, u "Ljava/lang/String;"), (0, .string 14), (0, u "mechanism"), (0, .methodref 16 17), (0, .class_ 18), (0, .nameAndType 19 20), (0, u "java/util/Objects"), (0, u "requireNonNull"), (0, u "(Ljava/lang/Object;Ljava/lang/String;)Ljava/lang/Object;"), (0, .class_ 22), (0, u "java/lang/String"), (0, .methodref 8 24), (0, .nameAndType 5 25), (0, u "(Ljava/lang/String;)V"), (14, u "ALLOW"), (0, u "Lcom/example/pfortner/pfortner/pdp/Decision;"), (3, u "inhibit"), (0, u "(Ljava/lang/String;)Lcom/example/pfortner/pfortner/pdp/Decision;"), (0, u "isAllowed"), (0, u "()Z")] 24

def k10c0 : Code := { maxStack := 2, maxLocals := 2, code := prog_12_method_1_code, exceptionTable := #[], attributes := #[] }
def k10m0 : Method := { name := "<init>", desc := "(Ljava/lang/String;)V", sig := { parameters := [(.object "java/lang/String")], returnType := none }, accessFlags := 1, code := some k10c0 }
def k10c1 : Code := { maxStack := 4, maxLocals := 1, code := prog_12_method_2_code, exceptionTable := #[], attributes := #[] }
def k10m1 : Method := { name := "inhibit", desc := "(Ljava/lang/String;)Lcom/example/pfortner/pfortner/pdp/Decision;", sig := { parameters := [(.object "java/lang/String")], returnType := some (.object "com/example/pfortner/pfortner/pdp/Decision") }, accessFlags := 9, code := some k10c1 }
def k10c2 : Code := { maxStack := 1, maxLocals := 1, code := prog_12_method_3_code, exceptionTable := #[], attributes := #[] }
def k10m2 : Method := { name := "isAllowed", desc := "()Z", sig := { parameters := [], returnType := some .boolean }, accessFlags := 1, code := some k10c2 }
/-- com/example/pfortner/pfortner/pdp/Decision -/
def k10 : Class := { plain "com/example/pfortner/pfortner/pdp/Decision" (some 9) with
  accessFlags := 49
  interfaces := #[]
  cf := some (fileOf pool10 8 #[] #[{ accessFlags := 1, nameIndex := 5, descriptorIndex := 25, attributes := #[] }, { accessFlags := 9, nameIndex := 45, descriptorIndex := 46, attributes := #[] }, { accessFlags := 1, nameIndex := 47, descriptorIndex := 48, attributes := #[] }] 49 2 #[] #[{ accessFlags := 18, nameIndex := 11, descriptorIndex := 12, attributes := #[] }, { accessFlags := 25, nameIndex := 40, descriptorIndex := 41, attributes := #[] }])
  fields := #[{ name := "inhibitedBy", type := (.object "java/lang/String"), accessFlags := 18, slot := 0, constantValue := 0 }, { name := "ALLOW", type := (.object "com/example/pfortner/pfortner/pdp/Decision"), accessFlags := 25, slot := 0, constantValue := 0 }]
  methods := #[k10m0, k10m1, k10m2]
  instanceTypes := #[(.object "java/lang/String")]
  staticTypes := #[(.object "com/example/pfortner/pfortner/pdp/Decision")]
  resolved := Array.replicate 73 none
  statics := some 1 }

def pool11 : Array CpInfo := pool [(2, .class_ 4), (1, u "java/lang/Object"), (0, u "<init>"), (0, u "()V"), (35, .class_ 44), (1, u "java/util/Objects"), (0, u "requireNonNull"), (48, u "(Ljava/lang/Object;Ljava/lang/String;)Ljava/lang/Object;")] 89

def k11m0 : Method := { name := "<init>", desc := "()V", sig := { parameters := [], returnType := none }, accessFlags := 2, code := none }
def k11c1 : Code := { maxStack := 3, maxLocals := 2, code := jdk_31_method_11_code, exceptionTable := #[], attributes := #[] }
def k11m1 : Method := { name := "requireNonNull", desc := "(Ljava/lang/Object;Ljava/lang/String;)Ljava/lang/Object;", sig := { parameters := [(.object "java/lang/Object"), (.object "java/lang/String")], returnType := some (.object "java/lang/Object") }, accessFlags := 9, code := some k11c1 }
/-- java/util/Objects -/
def k11 : Class := { plain "java/util/Objects" (some 0) with
  accessFlags := 49
  interfaces := #[]
  cf := some (fileOf pool11 42 #[] #[{ accessFlags := 2, nameIndex := 5, descriptorIndex := 6, attributes := #[] }, { accessFlags := 9, nameIndex := 45, descriptorIndex := 94, attributes := #[] }] 49 2 #[] #[])
  fields := #[]
  methods := #[k11m0, k11m1]
  instanceTypes := #[]
  staticTypes := #[]
  resolved := Array.replicate 184 none
  statics := none }

def pool12 : Array CpInfo := pool [(4, .class_ 6), (1, u "java/lang/Object"), (0, u "<init>"), (0, u "()V"), (5, .class_ 16), (1, u "java/lang/StringLatin1"), (104, u "$assertionsDisabled"), (0, u "Z"), (98, .class_ 223), (1, u "java/lang/StringLatin1$LinesSpliterator"), (166, .class_ 391), (0, u "java/lang/StringLatin1$CharsSpliterator")] 3

def k12m0 : Method := { name := "<init>", desc := "()V", sig := { parameters := [], returnType := none }, accessFlags := 0, code := none }
/-- java/lang/StringLatin1 -/
def k12 : Class := { plain "java/lang/StringLatin1" (some 0) with
  accessFlags := 48
  interfaces := #[]
  cf := some (fileOf pool12 14 #[.nestMembers #[390, 221]] #[{ accessFlags := 0, nameIndex := 7, descriptorIndex := 8, attributes := #[] }] 48 4 #[] #[{ accessFlags := 4120, nameIndex := 121, descriptorIndex := 122, attributes := #[] }])
  fields := #[{ name := "$assertionsDisabled", type := .boolean, accessFlags := 4120, slot := 0, constantValue := 0 }]
  methods := #[k12m0]
  instanceTypes := #[]
  staticTypes := #[.boolean]
  resolved := Array.replicate 395 none
  statics := none }

def pool13 : Array CpInfo := pool [(2, .class_ 4), (1, u "java/lang/Object"), (0, u "<init>"), (0, u "()V"), (17, .class_ 26), (1, u "jdk/internal/util/Preconditions"), (28, .class_ 56), (0, u "jdk/internal/util/Preconditions$4"), (57, .class_ 115), (0, u "jdk/internal/util/Preconditions$1"), (7, u "SIOOBE_FORMATTER"), (0, u "Ljava/util/function/BiFunction;"), (0, .class_ 126), (0, u "jdk/internal/util/Preconditions$2"), (3, u "AIOOBE_FORMATTER"), (0, .class_ 132), (0, u "jdk/internal/util/Preconditions$3"), (3, u "IOOBE_FORMATTER")] 57

def k13m0 : Method := { name := "<init>", desc := "()V", sig := { parameters := [], returnType := none }, accessFlags := 1, code := none }
/-- jdk/internal/util/Preconditions -/
def k13 : Class := { plain "jdk/internal/util/Preconditions" (some 0) with
  accessFlags := 33
  interfaces := #[]
  cf := some (fileOf pool13 24 #[.nestMembers #[55, 131, 125, 114]] #[{ accessFlags := 1, nameIndex := 5, descriptorIndex := 6, attributes := #[] }] 33 2 #[] #[{ accessFlags := 25, nameIndex := 123, descriptorIndex := 124, attributes := #[] }, { accessFlags := 25, nameIndex := 130, descriptorIndex := 124, attributes := #[] }, { accessFlags := 25, nameIndex := 136, descriptorIndex := 124, attributes := #[] }])
  fields := #[{ name := "SIOOBE_FORMATTER", type := (.object "java/util/function/BiFunction"), accessFlags := 25, slot := 0, constantValue := 0 }, { name := "AIOOBE_FORMATTER", type := (.object "java/util/function/BiFunction"), accessFlags := 25, slot := 1, constantValue := 0 }, { name := "IOOBE_FORMATTER", type := (.object "java/util/function/BiFunction"), accessFlags := 25, slot := 2, constantValue := 0 }]
  methods := #[k13m0]
  instanceTypes := #[]
  staticTypes := #[(.object "java/util/function/BiFunction"), (.object "java/util/function/BiFunction"), (.object "java/util/function/BiFunction")]
  resolved := Array.replicate 194 none
  statics := some 2 }

def pool14 : Array CpInfo := pool [(9, u "<init>"), (6, .class_ 18), (1, u "java/lang/Object"), (0, u "()V"), (1, .class_ 23), (1, u "jdk/internal/util/ArraysSupport"), (0, u "LOG2_ARRAY_LONG_INDEX_SCALE"), (0, u "I"), (2, u "U"), (0, u "Ljdk/internal/misc/Unsafe;"), (8, u "BIG_ENDIAN"), (0, u "Z"), (8, u "LOG2_BYTE_BIT_SIZE"), (4, u "LOG2_ARRAY_INT_INDEX_SCALE"), (54, u "JLA"), (0, u "Ljdk/internal/access/JavaLangAccess;"), (11, u "LOG2_ARRAY_BOOLEAN_INDEX_SCALE"), (9, u "LOG2_ARRAY_BYTE_INDEX_SCALE"), (5, u "LOG2_ARRAY_CHAR_INDEX_SCALE"), (5, u "LOG2_ARRAY_SHORT_INDEX_SCALE"), (18, u "LOG2_ARRAY_FLOAT_INDEX_SCALE"), (24, u "LOG2_ARRAY_DOUBLE_INDEX_SCALE"), (89, u "T_BOOLEAN"), (2, u "T_CHAR"), (1, u "T_FLOAT"), (1, u "T_DOUBLE"), (1, u "T_BYTE"), (1, u "T_SHORT"), (1, u "T_INT"), (1, u "T_LONG"), (1, u "SOFT_MAX_ARRAY_LENGTH")] 83

def k14m0 : Method := { name := "<init>", desc := "()V", sig := { parameters := [], returnType := none }, accessFlags := 2, code := none }
/-- jdk/internal/util/ArraysSupport -/
def k14 : Class := { plain "jdk/internal/util/ArraysSupport" (some 0) with
  accessFlags := 33
  interfaces := #[]
  cf := some (fileOf pool14 21 #[] #[{ accessFlags := 2, nameIndex := 9, descriptorIndex := 19, attributes := #[] }] 33 16 #[] #[{ accessFlags := 24, nameIndex := 28, descriptorIndex := 29, attributes := #[] }, { accessFlags := 26, nameIndex := 38, descriptorIndex := 39, attributes := #[] }, { accessFlags := 25, nameIndex := 121, descriptorIndex := 25, attributes := #[] }, { accessFlags := 25, nameIndex := 131, descriptorIndex := 25, attributes := #[] }, { accessFlags := 25, nameIndex := 137, descriptorIndex := 25, attributes := #[] }, { accessFlags := 25, nameIndex := 143, descriptorIndex := 25, attributes := #[] }, { accessFlags := 25, nameIndex := 53, descriptorIndex := 25, attributes := #[] }, { accessFlags := 25, nameIndex := 24, descriptorIndex := 25, attributes := #[] }, { accessFlags := 25, nameIndex := 162, descriptorIndex := 25, attributes := #[] }, { accessFlags := 25, nameIndex := 187, descriptorIndex := 25, attributes := #[] }, { accessFlags := 26, nameIndex := 48, descriptorIndex := 25, attributes := #[] }, { accessFlags := 25, nameIndex := 277, descriptorIndex := 25, attributes := #[] }, { accessFlags := 25, nameIndex := 280, descriptorIndex := 25, attributes := #[] }, { accessFlags := 25, nameIndex := 282, descriptorIndex := 25, attributes := #[] }, { accessFlags := 25, nameIndex := 284, descriptorIndex := 25, attributes := #[] }, { accessFlags := 25, nameIndex := 286, descriptorIndex := 25, attributes := #[] }, { accessFlags := 25, nameIndex := 288, descriptorIndex := 25, attributes := #[] }, { accessFlags := 25, nameIndex := 290, descriptorIndex := 25, attributes := #[] }, { accessFlags := 25, nameIndex := 292, descriptorIndex := 25, attributes := #[] }, { accessFlags := 26, nameIndex := 108, descriptorIndex := 109, attributes := #[] }, { accessFlags := 25, nameIndex := 294, descriptorIndex := 25, attributes := #[] }])
  fields := #[{ name := "U", type := (.object "jdk/internal/misc/Unsafe"), accessFlags := 24, slot := 0, constantValue := 0 }, { name := "BIG_ENDIAN", type := .boolean, accessFlags := 26, slot := 1, constantValue := 0 }, { name := "LOG2_ARRAY_BOOLEAN_INDEX_SCALE", type := .int, accessFlags := 25, slot := 2, constantValue := 0 }, { name := "LOG2_ARRAY_BYTE_INDEX_SCALE", type := .int, accessFlags := 25, slot := 3, constantValue := 0 }, { name := "LOG2_ARRAY_CHAR_INDEX_SCALE", type := .int, accessFlags := 25, slot := 4, constantValue := 0 }, { name := "LOG2_ARRAY_SHORT_INDEX_SCALE", type := .int, accessFlags := 25, slot := 5, constantValue := 0 }, { name := "LOG2_ARRAY_INT_INDEX_SCALE", type := .int, accessFlags := 25, slot := 6, constantValue := 0 }, { name := "LOG2_ARRAY_LONG_INDEX_SCALE", type := .int, accessFlags := 25, slot := 7, constantValue := 0 }, { name := "LOG2_ARRAY_FLOAT_INDEX_SCALE", type := .int, accessFlags := 25, slot := 8, constantValue := 0 }, { name := "LOG2_ARRAY_DOUBLE_INDEX_SCALE", type := .int, accessFlags := 25, slot := 9, constantValue := 0 }, { name := "LOG2_BYTE_BIT_SIZE", type := .int, accessFlags := 26, slot := 10, constantValue := 0 }, { name := "T_BOOLEAN", type := .int, accessFlags := 25, slot := 11, constantValue := 0 }, { name := "T_CHAR", type := .int, accessFlags := 25, slot := 12, constantValue := 0 }, { name := "T_FLOAT", type := .int, accessFlags := 25, slot := 13, constantValue := 0 }, { name := "T_DOUBLE", type := .int, accessFlags := 25, slot := 14, constantValue := 0 }, { name := "T_BYTE", type := .int, accessFlags := 25, slot := 15, constantValue := 0 }, { name := "T_SHORT", type := .int, accessFlags := 25, slot := 16, constantValue := 0 }, { name := "T_INT", type := .int, accessFlags := 25, slot := 17, constantValue := 0 }, { name := "T_LONG", type := .int, accessFlags := 25, slot := 18, constantValue := 0 }, { name := "JLA", type := (.object "jdk/internal/access/JavaLangAccess"), accessFlags := 26, slot := 19, constantValue := 0 }, { name := "SOFT_MAX_ARRAY_LENGTH", type := .int, accessFlags := 25, slot := 20, constantValue := 0 }]
  methods := #[k14m0]
  instanceTypes := #[]
  staticTypes := #[(.object "jdk/internal/misc/Unsafe"), .boolean, .int, .int, .int, .int, .int, .int, .int, .int, .int, .int, .int, .int, .int, .int, .int, .int, .int, (.object "jdk/internal/access/JavaLangAccess"), .int]
  resolved := Array.replicate 378 none
  statics := none }

def pool15 : Array CpInfo := pool [(1, u "java/lang/Cloneable"), (0, .class_ 1), (0, u "java/lang/Object"), (0, .class_ 3)] 3

/-- java/lang/Cloneable -/
def k15 : Class := { plain "java/lang/Cloneable" (some 0) with
  accessFlags := 1537
  interfaces := #[]
  cf := some (fileOf pool15 2 #[] #[] 1537 4 #[] #[])
  fields := #[]
  methods := #[]
  instanceTypes := #[]
  staticTypes := #[]
  resolved := Array.replicate 8 none
  statics := none }

/-- the primitive byte -/
def k16 : Class := { plain "byte" none with kind := .primitive 'B', accessFlags := 0x411 }
/-- [B -/
def k17 : Class := { plain "[B" (some 0) with kind := .array 16 .byte, interfaces := #[15, 2], accessFlags := 1041 }

/-- the primitive char -/
def k18 : Class := { plain "char" none with kind := .primitive 'C', accessFlags := 0x411 }
/-- [C -/
def k19 : Class := { plain "[C" (some 0) with kind := .array 18 .char, interfaces := #[15, 2], accessFlags := 1041 }

/-- the primitive int -/
def k20 : Class := { plain "int" none with kind := .primitive 'I', accessFlags := 0x411 }
/-- [I -/
def k21 : Class := { plain "[I" (some 0) with kind := .array 20 .int, interfaces := #[15, 2], accessFlags := 1041 }

def heap : Heap := #[{ cls := 7, slots := #[.long 0, .int 1, .null, .int 0, .null, .int 0, .int 0], vm := .statics 7 },
  { cls := 10, slots := #[.ref 3], vm := .statics 10 },
  { cls := 13, slots := #[.null, .null, .null], vm := .statics 13 },
  { cls := 10, slots := #[.null], vm := .none }]
def classes : Array Class := #[k0, k1, k2, k3, k4, k5, k6, k7, k8, k9, k10, k11, k12, k13, k14, k15, k16, k17, k18, k19, k20, k21]
def interned : List (Array UInt16 × Addr) := []
def slotsUsed : Nat := 12
def theMethod : MethodId := ⟨1, 1⟩
def args0 : Array Value := #[.int 5, .int 6, .int 7, .int 8]
def aboutOver (below : List Frame) : State where
  vm := { classes := classes, interned := interned.toArray }
  heap := heap
  slotsUsed := slotsUsed
  threads := #[{ frames := .invoking theMethod args0 :: below }]
def below0 : List Frame := [.native { method := ⟨0, 0⟩, args := #[] }]
def about1 : State := aboutOver below0
def p0 : Program := .bare "" "" ""
def e0 : Env := launch0.env 0 0 0
theorem w_frames : about1.frames = Frame.invoking theMethod args0 :: below0 := rfl
set_option maxRecDepth 65536 in
theorem w_args : argsFit about1.vm theMethod args0 = true := by decide +kernel
set_option maxRecDepth 65536 in
theorem w_heap : heapFits about1 = true := by decide +kernel
set_option maxRecDepth 65536 in
theorem w_runnable : about1.curStatus? = some .runnable := by decide +kernel
set_option maxRecDepth 65536 in
theorem w_alone : about1.alone = true := by decide +kernel
set_option maxRecDepth 65536 in
theorem w_named : about1.methodNamed? x = some theMethod := by decide +kernel
set_option maxRecDepth 65536 in
theorem w_hears : about1.hears theMethod below0 = true := by decide +kernel
set_option maxRecDepth 65536 in
theorem w_ripe : about1.ripe theMethod args0 below0 = true := by decide +kernel
theorem w_running : about1.status = .running := rfl
set_option maxRecDepth 65536 in
theorem w_room : about1.hasRoom e0.platform room_1 = true :=
  launch0.hasRoom_least _ room_1 (by decide +kernel) (by decide +kernel) (by decide +kernel) (by decide +kernel) (by decide +kernel) (by decide +kernel)
theorem allAtoms_all (ts : List Jvm.Cond) (a : Array Jvm.Value) (st : Jvm.State) : (allAtoms ts).before a st = ts.all (fun c => c.before a st) := by
  induction ts with
  | nil => rfl
  | cons c t ih =>
    show (Jvm.Cond.and c (allAtoms t)).before a st = _
    rw [Jvm.Cond.before_and, ih, List.all_cons]
def words1 : List Jvm.Cond := Jvm.Cond.code x code maxLocals ret :: tables_1
/-- a 'code' word, met by the world's own term for the bytes: nothing is compared byte by byte -/
theorem code_word {y : MethodName} {bytes : ByteArray} {mx : Nat} {rt : Option FieldType} {a : Array Value} {s : State} {m : MethodId} {meth : Method} {c : Code} (h1 : s.methodNamed? y = some m) (h2 : s.vm.method? m = some meth) (h3 : meth.code = some c) (h4 : c.code = bytes)
    (h5 : (c.maxLocals == mx && c.exceptionTable.isEmpty && decide (c.maxStack ≤ mostOperands) && decide (meth.sig.returnType = rt) && !meth.locks && decide (parseMethodDescriptor y.desc = some meth.sig)) = true) : (Jvm.Cond.code y bytes mx rt).before a s = true := by
  simp only [Bool.and_eq_true, beq_iff_eq, Bool.not_eq_true', decide_eq_true_eq] at h5
  obtain ⟨⟨⟨⟨⟨g1, g2⟩, g3⟩, g4⟩, g5⟩, g6⟩ := h5
  simp [Cond.before, Cond.holds, Cond.value, h1, h2, h3, h4, g1, g2, g3, g4, g5, g6]
def isCode : Jvm.Cond → Bool
  | .code _ _ _ _ => true
  | _ => false
theorem all_split {L : List Jvm.Cond} {P : Jvm.Cond → Bool} (h1 : L.all (fun c => isCode c || P c) = true) (h2 : ∀ c ∈ L.filter isCode, P c = true) : L.all P = true := by
  refine List.all_eq_true.mpr fun c hc => ?_
  have h := List.all_eq_true.mp h1 c hc
  rcases Bool.eq_false_or_eq_true (isCode c) with hi | hi
  · exact h2 c (List.mem_filter.mpr ⟨hc, hi⟩)
  · simpa [hi] using h
set_option maxRecDepth 65536 in
theorem w_c0 : (Jvm.Cond.code x code maxLocals ret).before args0 about1 = true := code_word (m := ⟨1, 1⟩) (meth := k1m1) (c := k1c1) (by decide +kernel) rfl rfl rfl (by decide +kernel)
set_option maxRecDepth 65536 in
theorem w_c1 : (Jvm.Cond.code ({ cls := "java/lang/String", name := "<init>", desc := "([C)V" } : Jvm.MethodName) jdk_42_method_3_code (2 : Nat) (Option.none : Option Jvm.ClassFile.FieldType)).before args0 about1 = true := code_word (m := ⟨7, 1⟩) (meth := k7m1) (c := k7c1) (by decide +kernel) rfl rfl rfl (by decide +kernel)
set_option maxRecDepth 65536 in
theorem w_c2 : (Jvm.Cond.code ({ cls := "java/lang/String", name := "<init>", desc := "([CIILjava/lang/Void;)V" } : Jvm.MethodName) jdk_42_method_149_code (6 : Nat) (Option.none : Option Jvm.ClassFile.FieldType)).before args0 about1 = true := code_word (m := ⟨7, 2⟩) (meth := k7m2) (c := k7c2) (by decide +kernel) rfl rfl rfl (by decide +kernel)
set_option maxRecDepth 65536 in
theorem w_c3 : (Jvm.Cond.code ({ cls := "java/lang/Object", name := "<init>", desc := "()V" } : Jvm.MethodName) object_method_1_code (1 : Nat) (Option.none : Option Jvm.ClassFile.FieldType)).before args0 about1 = true := code_word (m := ⟨0, 0⟩) (meth := k0m0) (c := k0c0) (by decide +kernel) rfl rfl rfl (by decide +kernel)
set_option maxRecDepth 65536 in
theorem w_c4 : (Jvm.Cond.code ({ cls := "java/lang/StringUTF16", name := "compress", desc := "([CII)[B" } : Jvm.MethodName) jdk_52_method_16_code (6 : Nat) (Option.some (Jvm.ClassFile.FieldType.array Jvm.ClassFile.FieldType.byte))).before args0 about1 = true := code_word (m := ⟨8, 2⟩) (meth := k8m2) (c := k8c2) (by decide +kernel) rfl rfl rfl (by decide +kernel)
set_option maxRecDepth 65536 in
theorem w_c5 : (Jvm.Cond.code ({ cls := "java/lang/StringUTF16", name := "compress", desc := "([CI[BII)I" } : Jvm.MethodName) jdk_52_method_21_code (7 : Nat) (Option.some Jvm.ClassFile.FieldType.int)).before args0 about1 = true := code_word (m := ⟨8, 3⟩) (meth := k8m3) (c := k8c3) (by decide +kernel) rfl rfl rfl (by decide +kernel)
set_option maxRecDepth 65536 in
theorem w_c6 : (Jvm.Cond.code ({ cls := "java/lang/StringUTF16", name := "coderFromArrayLen", desc := "([BI)B" } : Jvm.MethodName) jdk_52_method_15_code (2 : Nat) (Option.some Jvm.ClassFile.FieldType.byte)).before args0 about1 = true := code_word (m := ⟨8, 1⟩) (meth := k8m1) (c := k8c1) (by decide +kernel) rfl rfl rfl (by decide +kernel)
set_option maxRecDepth 65536 in
theorem w_c7 : (Jvm.Cond.code ({ cls := "com/example/pfortner/pfortner/pdp/Decision", name := "<init>", desc := "(Ljava/lang/String;)V" } : Jvm.MethodName) prog_12_method_1_code (2 : Nat) (Option.none : Option Jvm.ClassFile.FieldType)).before args0 about1 = true := code_word (m := ⟨10, 0⟩) (meth := k10m0) (c := k10c0) (by decide +kernel) rfl rfl rfl (by decide +kernel)
set_option maxRecDepth 65536 in
theorem w_c8 : (Jvm.Cond.code ({ cls := "java/lang/Record", name := "<init>", desc := "()V" } : Jvm.MethodName) jdk_30_method_1_code (1 : Nat) (Option.none : Option Jvm.ClassFile.FieldType)).before args0 about1 = true := code_word (m := ⟨9, 0⟩) (meth := k9m0) (c := k9c0) (by decide +kernel) rfl rfl rfl (by decide +kernel)
set_option maxRecDepth 65536 in
theorem w_c9 : (Jvm.Cond.code ({ cls := "com/example/pfortner/pfortner/pdp/Decision", name := "isAllowed", desc := "()Z" } : Jvm.MethodName) prog_12_method_3_code (1 : Nat) (Option.some Jvm.ClassFile.FieldType.boolean)).before args0 about1 = true := code_word (m := ⟨10, 2⟩) (meth := k10m2) (c := k10c2) (by decide +kernel) rfl rfl rfl (by decide +kernel)
set_option maxRecDepth 65536 in
theorem w_c10 : (Jvm.Cond.code ({ cls := "com/example/pfortner/pfortner/pdp/Decision", name := "inhibit", desc := "(Ljava/lang/String;)Lcom/example/pfortner/pfortner/pdp/Decision;" } : Jvm.MethodName) prog_12_method_2_code (1 : Nat) (Option.some (Jvm.ClassFile.FieldType.object "com/example/pfortner/pfortner/pdp/Decision"))).before args0 about1 = true := code_word (m := ⟨10, 1⟩) (meth := k10m1) (c := k10c1) (by decide +kernel) rfl rfl rfl (by decide +kernel)
set_option maxRecDepth 65536 in
theorem w_c11 : (Jvm.Cond.code ({ cls := "java/util/Objects", name := "requireNonNull", desc := "(Ljava/lang/Object;Ljava/lang/String;)Ljava/lang/Object;" } : Jvm.MethodName) jdk_31_method_11_code (2 : Nat) (Option.some (Jvm.ClassFile.FieldType.object "java/lang/Object"))).before args0 about1 = true := code_word (m := ⟨11, 1⟩) (meth := k11m1) (c := k11c1) (by decide +kernel) rfl rfl rfl (by decide +kernel)
def codes1 : List Jvm.Cond := [Jvm.Cond.code x code maxLocals ret, Jvm.Cond.code ({ cls := "java/lang/String", name := "<init>", desc := "([C)V" } : Jvm.MethodName) jdk_42_method_3_code (2 : Nat) (Option.none : Option Jvm.ClassFile.FieldType), Jvm.Cond.code ({ cls := "java/lang/String", name := "<init>", desc := "([CIILjava/lang/Void;)V" } : Jvm.MethodName) jdk_42_method_149_code (6 : Nat) (Option.none : Option Jvm.ClassFile.FieldType), Jvm.Cond.code ({ cls := "java/lang/Object", name := "<init>", desc := "()V" } : Jvm.MethodName) object_method_1_code (1 : Nat) (Option.none : Option Jvm.ClassFile.FieldType), Jvm.Cond.code ({ cls := "java/lang/StringUTF16", name := "compress", desc := "([CII)[B" } : Jvm.MethodName) jdk_52_method_16_code (6 : Nat) (Option.some (Jvm.ClassFile.FieldType.array Jvm.ClassFile.FieldType.byte)), Jvm.Cond.code ({ cls := "java/lang/StringUTF16", name := "compress", desc := "([CI[BII)I" } : Jvm.MethodName) jdk_52_method_21_code (7 : Nat) (Option.some Jvm.ClassFile.FieldType.int), Jvm.Cond.code ({ cls := "java/lang/StringUTF16", name := "coderFromArrayLen", desc := "([BI)B" } : Jvm.MethodName) jdk_52_method_15_code (2 : Nat) (Option.some Jvm.ClassFile.FieldType.byte), Jvm.Cond.code ({ cls := "com/example/pfortner/pfortner/pdp/Decision", name := "<init>", desc := "(Ljava/lang/String;)V" } : Jvm.MethodName) prog_12_method_1_code (2 : Nat) (Option.none : Option Jvm.ClassFile.FieldType), Jvm.Cond.code ({ cls := "java/lang/Record", name := "<init>", desc := "()V" } : Jvm.MethodName) jdk_30_method_1_code (1 : Nat) (Option.none : Option Jvm.ClassFile.FieldType), Jvm.Cond.code ({ cls := "com/example/pfortner/pfortner/pdp/Decision", name := "isAllowed", desc := "()Z" } : Jvm.MethodName) prog_12_method_3_code (1 : Nat) (Option.some Jvm.ClassFile.FieldType.boolean), Jvm.Cond.code ({ cls := "com/example/pfortner/pfortner/pdp/Decision", name := "inhibit", desc := "(Ljava/lang/String;)Lcom/example/pfortner/pfortner/pdp/Decision;" } : Jvm.MethodName) prog_12_method_2_code (1 : Nat) (Option.some (Jvm.ClassFile.FieldType.object "com/example/pfortner/pfortner/pdp/Decision")), Jvm.Cond.code ({ cls := "java/util/Objects", name := "requireNonNull", desc := "(Ljava/lang/Object;Ljava/lang/String;)Ljava/lang/Object;" } : Jvm.MethodName) jdk_31_method_11_code (2 : Nat) (Option.some (Jvm.ClassFile.FieldType.object "java/lang/Object"))]
set_option maxRecDepth 65536 in
theorem codes_eq : words1.filter isCode = codes1 := rfl
theorem w_codes : ∀ c ∈ words1.filter isCode, c.before args0 about1 = true := by
  rw [codes_eq]
  intro c hc
  simp only [codes1, List.mem_cons, List.not_mem_nil, or_false] at hc
  rcases hc with rfl | rfl | rfl | rfl | rfl | rfl | rfl | rfl | rfl | rfl | rfl | rfl
  · exact w_c0
  · exact w_c1
  · exact w_c2
  · exact w_c3
  · exact w_c4
  · exact w_c5
  · exact w_c6
  · exact w_c7
  · exact w_c8
  · exact w_c9
  · exact w_c10
  · exact w_c11
set_option maxRecDepth 65536 in
theorem w_t1 : (words1.take 24).all (fun c => isCode c || c.before args0 about1) = true := by decide +kernel
set_option maxRecDepth 65536 in
theorem w_t2 : ((words1.drop 24).take 24).all (fun c => isCode c || c.before args0 about1) = true := by decide +kernel
set_option maxRecDepth 65536 in
theorem w_t3 : ((words1.drop 24).drop 24).all (fun c => isCode c || c.before args0 about1) = true := by decide +kernel
theorem w_tables : (allAtoms (Jvm.Cond.code x code maxLocals ret :: tables_1)).before args0 about1 = true := by
  rw [allAtoms_all]
  show words1.all (fun c => c.before args0 about1) = true
  refine all_split ?_ w_codes
  rw [← List.take_append_drop 24 words1, List.all_append, w_t1, ← List.take_append_drop 24 (words1.drop 24), List.all_append, w_t2, w_t3]
  rfl
set_option maxRecDepth 65536 in
theorem w_rest : rest_1_c.before args0 about1 = true := by decide +kernel
set_option maxRecDepth 65536 in
theorem w_case : (Jvm.Cond.and given_1 narrow_1).before args0 about1 = true := by decide +kernel
set_option maxRecDepth 65536 in
theorem w_consts : constsHeld consts_1 about1 := Jvm.Lit.constsHeldB_iff.mp (by decide +kernel)
theorem w_applies : (headSpec (Jvm.Cond.code x code maxLocals ret :: tables_1) room_1).applies x e0.platform about1 = true :=
  (Spec.applies_iff w_frames).mpr ⟨w_running, w_runnable, w_alone, w_named, w_hears, w_ripe, w_room, w_tables⟩
theorem atStart : AtStart classFile x code maxLocals ret World_1 tables_1 room_1 Calls_1 rest_1 Pre_1 launch0 p0 e0 about1 theMethod args0 below0 :=
  ⟨lists_1, trivial, launch0.admits_env _ _ _, launch0.least_env, fairChoices_fair.cas, fairChoices_fair.clock, w_frames, w_args, w_heap, w_applies, ⟨w_consts, trivial⟩, w_rest, w_case⟩
end start1
theorem witness_1 : WitnessClaimed_1 := ⟨start1.p0, start1.e0, start1.about1, start1.theMethod, start1.args0, start1.below0, start1.atStart⟩
end Jvm.Pilot.@@N@@
