import JvmDerived
import JvmDerived.Pilot.@@N@@Statement
import JvmDerived.Pilot.@@N@@Code
set_option linter.unusedVariables false
set_option linter.unusedSimpArgs false
namespace Jvm.OwnK
open Jvm Jvm.ClassFile Sem Op Lib Jvm.Free Jvm.Stand Jvm.LawKit Jvm.RoadKit Bundle
/-! own kit, narrow variant (laid ahead of Kit1, with Kit3 less its ldc rows): nothing is interned on the way: the relation CHr keeps State.WarmedH besides -/
def WN (vm vm' : Vm) : Prop := ∀ s : State, s.vm = vm → s.WarmedH vm'
theorem WN.of {s : State} {vm' : Vm} (h : s.WarmedH vm') : WN s.vm vm' := fun u hu => State.WarmedH.of_rootvm hu h
theorem WN.refl (vm : Vm) : WN vm vm := fun s hs => by subst hs; exact State.WarmedH.refl s
theorem WN.trans {vm vm1 vm2 : Vm} (A : WN vm vm1) (B : WN vm1 vm2) : WN vm vm2 := fun s hs => State.WarmedH.trans (t := s.setVm vm1) (A s hs) (B _ rfl)
section N
variable {Z : State} {EL : List (String × Nat)} {vm vm1 vm2 : Vm} {h h' h2 : Heap} {a0 : Array Value}
variable {p : Program} {l : Launch} {e : Env} {R : Room} {s : State} {m : MethodId} {args : Array Value} {below : List Frame} {meth : Method} {c : Code} {T : State} {locs : List Loc} {cells slots : Nat} {vm0 : Vm}
def CHr (Z : State) (EL : List (String × Nat)) (vm : Vm) (h : Heap) (vm1 : Vm) (h' : Heap) : Prop := CHv Z EL vm1 h' ∧ h.size ≤ h'.size ∧ Jvm.RoadKit.CHr Z EL vm h vm1 h' ∧ WN vm vm1
theorem CHr.of (A : Jvm.RoadKit.CHr Z EL vm h vm1 h') (W : WN vm vm1) : CHr Z EL vm h vm1 h' := ⟨A.1, A.2.1, A, W⟩
theorem CHr.refl (H : CHv Z EL vm h) : CHr Z EL vm h vm h := CHr.of (Jvm.RoadKit.CHr.refl H) (WN.refl _)
theorem CHr.trans (A : CHr Z EL vm h vm1 h') (B : CHr Z EL vm1 h' vm2 h2) : CHr Z EL vm h vm2 h2 := CHr.of (Jvm.RoadKit.CHr.trans A.2.2.1 B.2.2.1) (A.2.2.2.trans B.2.2.2)
theorem CHr.safe (A : CHr Z EL vm h vm1 h') {x : Addr} (hx : x < h.size) (S : Safe Z EL vm h x) : Safe Z EL vm1 h' x := Jvm.RoadKit.CHr.safe A.2.2.1 hx S
theorem CHr.ext (E : Ext h h') (H : CHv Z EL vm h) : CHr Z EL vm h vm h' := CHr.of (Jvm.RoadKit.CHr.ext E H) (WN.refl _)
theorem CHr.keep {ws : List Addr} (K : Keep h h' ws) (hs : ∀ x ∈ ws, Safe Z EL vm h x) (H : CHv Z EL vm h) : CHr Z EL vm h vm h' := CHr.of (Jvm.RoadKit.CHr.keep K hs H) (WN.refl _)
theorem CHr.wr {a : Addr} {sl : Nat} {v : Value} (W : Wr h h' a sl v) (S : Safe Z EL vm h a) (H : CHv Z EL vm h) : CHr Z EL vm h vm h' := CHr.of (Jvm.RoadKit.CHr.wr W S H) (WN.refl _)
theorem CHv.at (X : Stand p l e R (s.setVm vm0) m args below meth c T locs cells slots) (hZ : Z.Warmed39 vm0) (w : EW Z a0 EL) (H : CHv Z EL vm0 h) : CHr Z EL vm0 h T.vm h := CHr.of (Jvm.RoadKit.CHv.at X hZ w H) (WN.of (s := s.setVm vm0) X.warmed)
end N
end Jvm.OwnK
namespace Jvm.OwnK
open Jvm Jvm.ClassFile Sem Op Lib Jvm.Free Jvm.Stand Jvm.LawKit Jvm.RoadKit Bundle
/-! own kit, part 1: a walk as a triple on (heap, pc, locals, stack): Seg; contracts: Ct; who pays a call: Pays -/
def SfOk (Z : State) (EL : List (String × Nat)) (vm : Vm) (h : Heap) (sf : List Addr) : Prop := ∀ x ∈ sf, Z.heap.size ≤ x ∧ x < h.size ∧ Safe Z EL vm h x
def Wk (p : Program) (l : Launch) (e : Env) (R : Room) (s : State) (m : MethodId) (args : Array Value) (below : List Frame) (meth : Method) (c : Code) (Z : State) (a0 : Array Value) (EL : List (String × Nat)) (own : String) (sf : List Addr) (k n : Nat) (T : State) (h : Heap) : Prop :=
  ∃ (vm0 : Vm) (locs : List Loc) (k0 : Nat), Stand p l e R (s.setVm vm0) m args below meth c T locs k n ∧ T.heap = h ∧ s.Since vm0 k0 ∧ k0 ≤ h.size ∧ Z.Warmed39 vm0 ∧ vm0.findClass own = some m.cls ∧ CHr Z EL s.vm s.heap vm0 h ∧ Fr Z.heap.size locs ∧ Ext Z.heap h ∧ EW Z a0 EL ∧ SfOk Z EL vm0 h sf
def Cx (p : Program) (meth : Method) (c : Code) (y : MethodName) (bytes : ByteArray) (maxL : Nat) (ret : Option FieldType) : Prop :=
  p.tables.exec = Jvm.exec ∧ c.code = bytes ∧ c.maxLocals = maxL ∧ meth.sig.returnType = ret ∧ meth.locks = false ∧ meth.name = y.name
def Gl (p : Program) (e : Env) (below : List Frame) (s Z : State) (EL : List (String × Nat)) (Q : Option Value → Heap → Prop) (rc rs : Nat) (u : State) : Prop :=
  ∃ (s₂ : State) (o : Outcome), Steps p.tables e below u s₂ ∧ s₂.status = .running ∧ Ended s₂ below o ∧ ∃ v L, o = .returned v ∧ (Fr Z.heap.size L ∧ Ext Z.heap s₂.heap ∧ Q v s₂.heap) ∧ CHr Z EL s.vm s.heap s₂.vm s₂.heap ∧ ReturnedEndW s o s₂ L rc rs
def Seg (l : Launch) (Z : State) (a0 : Array Value) (EL : List (String × Nat)) (y : MethodName) (bytes : ByteArray) (maxL : Nat) (ret : Option FieldType) (rm : Room) (Q : Option Value → Heap → Prop) (h : Heap) (k n : Nat) (sf : List Addr) (pc : Nat) (L : Array Slot) (S : List Value) : Prop :=
  ∀ (p : Program) (e : Env) (s : State) (m : MethodId) (args : Array Value) (below : List Frame) (meth : Method) (c : Code) (T : State), Cx p meth c y bytes maxL ret → Wk p l e rm s m args below meth c Z a0 EL y.cls sf k n T h → Gl p e below s Z EL Q rm.cells rm.slots (T.setTop (mkF m pc L S))
/-- a contract -/
def Ct (l : Launch) (Z : State) (EL : List (String × Nat)) (sf : List Addr) (ws : List Jvm.Cond) (y : MethodName) (bytes : ByteArray) (maxL : Nat) (ret : Option FieldType) (rm : Room) (as' : Array Value) (h : Heap) (Q : Option Value → Heap → Prop) : Prop :=
  MetFree l y (head1 (Jvm.Cond.code y bytes maxL ret :: ws) rm) (fun a U => a = as' ∧ Z.Warmed39 U.vm ∧ U.heap = h ∧ CHv Z EL U.vm h ∧ SfOk Z EL U.vm h sf ∧ Ext Z.heap h) (fun _ _ _ _ _ => True)
    (fun _ U o U' => ∃ v L, o = .returned v ∧ (Fr Z.heap.size L ∧ Ext Z.heap U'.heap ∧ Q v U'.heap) ∧ CHr Z EL U.vm U.heap U'.vm U'.heap ∧ ReturnedEndW U o U' L rm.cells rm.slots)
section Facts
variable {Z : State} {EL : List (String × Nat)} {vm vm1 : Vm} {h h1 h2 h' : Heap} {sf sf' : List Addr} {ws : List Addr} {a x : Addr} {sl : Nat} {v : Value}
theorem ext_rfl (h : Heap) : Ext h h := ⟨Nat.le_refl _, fun _ _ q => q⟩
theorem ext_tr (A : Ext h h1) (B : Ext h1 h2) : Ext h h2 := ⟨Nat.le_trans A.1 B.1, fun x c q => B.2 x c (A.2 x c q)⟩
theorem ext_kp (A : Ext h h1) (K : Keep h1 h2 ws) (q : ∀ x ∈ ws, h.size ≤ x) : Ext h h2 := ⟨Nat.le_trans A.1 K.1, fun x c r => K.2.1 x c (A.2 x c r) fun z => absurd (Array.getElem?_eq_some_iff.mp r).1 (Nat.not_lt.mpr (q x z))⟩
theorem ext_wr (A : Ext h h1) (W : Wr h1 h2 a sl v) (q : h.size ≤ a) : Ext h h2 := ext_kp A (Keep.of_wr W) (allS q all0)
theorem keep_ext (E : Ext h h1) : Keep h h1 [] := (Keep.refl h []).ext E
theorem ext_keep (K : Keep h h1 []) : Ext h h1 := ⟨K.1, fun x c q => K.2.1 x c q (fun z => nomatch z)⟩
theorem keep_mono {ws' : List Addr} (K : Keep h h1 ws) (q : ∀ x ∈ ws, x ∈ ws' ∨ h.size ≤ x) : Keep h h1 ws' := (Keep.refl h ws').trans K q
theorem SfOk.sub (S : SfOk Z EL vm h sf) (q : ∀ x ∈ sf', x ∈ sf) : SfOk Z EL vm h sf' := fun x hx => S x (q x hx)
theorem SfOk.chr (S : SfOk Z EL vm h sf) (A : CHr Z EL vm h vm1 h') : SfOk Z EL vm1 h' sf := fun x hx => by
  obtain ⟨q1, q2, q3⟩ := S x hx
  exact ⟨q1, Nat.lt_of_lt_of_le q2 A.2.1, A.safe q2 q3⟩
theorem SfOk.cons (S : SfOk Z EL vm h sf) (q1 : Z.heap.size ≤ x) (q2 : x < h.size) (q3 : Safe Z EL vm h x) : SfOk Z EL vm h (x :: sf) := fun y hy => by
  rcases List.mem_cons.mp hy with rfl | hy
  · exact ⟨q1, q2, q3⟩
  · exact S y hy
theorem SfOk.safes (S : SfOk Z EL vm h sf) (q : ∀ x ∈ ws, x ∈ sf) : ∀ x ∈ ws, Safe Z EL vm h x := fun x hx => (S x (q x hx)).2.2
end Facts
section Core
variable {l : Launch} {Z : State} {a0 : Array Value} {EL : List (String × Nat)} {y : MethodName} {bytes : ByteArray} {maxL : Nat} {ret : Option FieldType} {rm : Room} {Q : Option Value → Heap → Prop} {h : Heap} {k n k' n' : Nat} {sf sf' : List Addr} {pc pc' : Nat} {L : Array Slot} {S : List Value}
variable {p : Program} {e : Env} {R : Room} {s : State} {m : MethodId} {args : Array Value} {below : List Frame} {meth : Method} {c : Code} {T : State} {own : String}
theorem Wk.here (w : Wk p l e R s m args below meth c Z a0 EL own sf k n T h) : At T m c below := by obtain ⟨_, _, _, X, -⟩ := w; exact X.here
theorem Wk.mono (w : Wk p l e R s m args below meth c Z a0 EL own sf k n T h) (hk : k ≤ k') (hn : n ≤ n') (q : ∀ x ∈ sf', x ∈ sf) : Wk p l e R s m args below meth c Z a0 EL own sf' k' n' T h := by
  obtain ⟨vm0, locs, k0, X, r1, r2, r3, r4, r5, r6, r7, r8, r9, r10⟩ := w
  exact ⟨vm0, locs, k0, X.mono hk hn, r1, r2, r3, r4, r5, r6, r7, r8, r9, r10.sub q⟩
theorem Seg.mono (hk : k ≤ k') (hn : n ≤ n') (q : ∀ x ∈ sf', x ∈ sf) (g : Seg l Z a0 EL y bytes maxL ret rm Q h k' n' sf' pc L S) : Seg l Z a0 EL y bytes maxL ret rm Q h k n sf pc L S :=
  fun p e s m args below meth c T C w => g p e s m args below meth c T C (w.mono hk hn q)
theorem Seg.post {Q' : Option Value → Heap → Prop} (q : ∀ v h, Q' v h → Q v h) (g : Seg l Z a0 EL y bytes maxL ret rm Q' h k n sf pc L S) : Seg l Z a0 EL y bytes maxL ret rm Q h k n sf pc L S :=
  fun p e s m args below meth c T C w => by
    obtain ⟨s₂, o, h1, h2, h3, v, Ls, h4, ⟨h5, h6, h7⟩, h8⟩ := g p e s m args below meth c T C w
    exact ⟨s₂, o, h1, h2, h3, v, Ls, h4, ⟨h5, h6, q _ _ h7⟩, h8⟩
theorem Gl.st {u u' : State} (hs : ∀ t, Steps p.tables e below u' t → Steps p.tables e below u t) (g : Gl p e below s Z EL Q k n u') : Gl p e below s Z EL Q k n u := by
  obtain ⟨s₂, o, h1, r⟩ := g
  exact ⟨s₂, o, hs _ h1, r⟩
theorem Seg.start (g : Ext Z.heap h → Seg l Z a0 EL y bytes maxL ret rm Q h k n sf pc L S) : Seg l Z a0 EL y bytes maxL ret rm Q h k n sf pc L S :=
  fun p e s m args below meth c T C w => by
    obtain ⟨vm0, locs, k0, X, r1, r2, r3, r4, r5, r6, r7, r8, r9, r10⟩ := w
    exact g r8 p e s m args below meth c T C ⟨vm0, locs, k0, X, r1, r2, r3, r4, r5, r6, r7, r8, r9, r10⟩
/-- a plain step -/
theorem Seg.plain {L' : Array Slot} {S' : List Value} (hs : ∀ (p : Program) (e : Env) (m : MethodId) (below : List Frame) (c : Code) (T : State) (t : State), p.tables.exec = Jvm.exec → c.code = bytes → At T m c below → Steps p.tables e below (T.setTop (mkF m pc' L' S')) t → Steps p.tables e below (T.setTop (mkF m pc L S)) t)
    (g : Seg l Z a0 EL y bytes maxL ret rm Q h k n sf pc' L' S') : Seg l Z a0 EL y bytes maxL ret rm Q h k n sf pc L S :=
  fun p e s m args below meth c T C w => Gl.st (fun t => hs p e m below c T t C.1 C.2.1 w.here) (g p e s m args below meth c T C w)
theorem Ct.of_seg {as' : Array Value} {ws : List Jvm.Cond} (hpn : plainFor y = true) (hEL : EW Z a0 EL) (hent : ∀ m, entryFrame m as' maxL = mkF m 0 L []) (g : Seg l Z a0 EL y bytes maxL ret rm Q h 0 0 sf 0 L []) :
    Ct l Z EL sf ws y bytes maxL ret rm as' h Q := by
  refine MetFree.of_bodySF hpn hisR ?_
  intro p e s m args below meth c s₁ Bd hml0 hP hK
  obtain ⟨rfl, hZ, hh, hC, hSf, hZ0⟩ := hP
  subst hh
  have X0 : Stand p l e rm (s.setVm s.vm) m _ below meth c s₁ [] 0 0 := Stand.of_body Bd
  have e0 : s₁.heap = s.heap := by rw [Bd.state]; rfl
  have hown : s.vm.findClass y.cls = some m.cls := findClass_of_methodNamed Bd.named
  rw [hent m]
  exact g p e s m _ below meth c s₁ ⟨Bd.exec, Bd.bytes, hml0, Bd.returns, Bd.notSynchronized, (name_of_methodNamed Bd.named Bd.method).1⟩ ⟨s.vm, [], 0, X0, e0, (State.WarmedH.refl s).since 0, Nat.zero_le _, hZ, hown, CHr.refl hC, Fr.nil _, hZ0, hEL, hSf⟩
theorem Wk.out (w : Wk p l e R s m args below meth c Z a0 EL own sf k n T h) (C : Cx p meth c y bytes maxL ret) {v : Option Value} (hv : ret = none → v = none) (hQ : Q v h) (hk : k ≤ R.cells) (hn : n ≤ R.slots) {u : State}
    (hs : ∀ (vm0 : Vm) (locs : List Loc), Stand p l e R (s.setVm vm0) m args below meth c T locs k n → ∀ fs, (∀ (f : JFrame) (acts : List Action), f.method = m → f.locked = none → f.entered = [] → (doReturn e (T.setTop f) acts v).1 = T.setFrames fs) → Steps p.tables e below u (T.setFrames fs)) : Gl p e below s Z EL Q R.cells R.slots u := by
  obtain ⟨vm0, locs, k0, X, rfl, r2, r3, r4, r5, r6, r7, r8, r9, r10⟩ := w
  obtain ⟨C1, C2, C3, C4, C5, C6⟩ := C
  obtain ⟨fs, h1, h2, h3, ⟨-, e1, e2, e3⟩⟩ := X.leaveW r2 r3 (v := v) (fun q => hv (C4 ▸ q)) C5
  refine ⟨_, _, hs vm0 locs X fs h1, h2, h3, v, locs, rfl, ⟨r7, r8, hQ⟩, ?_, ⟨v, rfl⟩, e1, e2, e3.mono hk hn⟩
  have A := CHv.at X r4 r9 r6.1
  exact r6.trans A
/-- returns -/
theorem Seg.retI {v : Int32} (hret : ret = some .int) (hd : decode bytes pc = .ok (.ireturn, 1)) (hk : k ≤ rm.cells) (hn : n ≤ rm.slots) (hQ : Q (some (.int v)) h) : Seg l Z a0 EL y bytes maxL ret rm Q h k n sf pc L [.int v] :=
  fun p e s m args below meth c T C w => w.out C (fun q => by rw [hret] at q; cases q) hQ hk hn fun vm0 locs X fs hl => X.ireturnOut C.1 (t := .int) (C.2.2.2.1.trans hret) rfl (Or.inl rfl) (hb C.2.1 hd) hl
theorem Seg.retN {v w : Int32} {t : FieldType} (hret : ret = some t) (ht : t = .boolean ∨ t = .byte ∨ t = .char ∨ t = .short) (hv : nar t v = w) (hd : decode bytes pc = .ok (.ireturn, 1)) (hk : k ≤ rm.cells) (hn : n ≤ rm.slots) (hQ : Q (some (.int w)) h) : Seg l Z a0 EL y bytes maxL ret rm Q h k n sf pc L [.int v] :=
  fun p e s m args below meth c T C w' => by
    subst hv
    exact w'.out C (fun q => by rw [hret] at q; cases q) hQ hk hn fun vm0 locs X fs hl => RoadKit.retN X C.1 (t := t) (C.2.2.2.1.trans hret) ht (hb C.2.1 hd) hl
theorem Seg.retA {v : Value} {t : FieldType} (hret : ret = some t) (ht : t.isReference = true) (hv : v.isRef = true) (hd : decode bytes pc = .ok (.areturn, 1)) (hk : k ≤ rm.cells) (hn : n ≤ rm.slots) (hQ : Q (some v) h) : Seg l Z a0 EL y bytes maxL ret rm Q h k n sf pc L [v] :=
  fun p e s m args below meth c T C w => w.out C (fun q => by rw [hret] at q; cases q) hQ hk hn fun vm0 locs X fs hl => X.areturnOut C.1 hv (C.2.2.2.1.trans hret) ht (hb C.2.1 hd) hl
theorem Seg.retL {v : Int64} (hret : ret = some .long) (hd : decode bytes pc = .ok (.lreturn, 1)) (hk : k ≤ rm.cells) (hn : n ≤ rm.slots) (hQ : Q (some (.long v)) h) : Seg l Z a0 EL y bytes maxL ret rm Q h k n sf pc L [.long v] :=
  fun p e s m args below meth c T C w => w.out C (fun q => by rw [hret] at q; cases q) hQ hk hn fun vm0 locs X fs hl => X.lreturnOut C.1 (C.2.2.2.1.trans hret) (hb C.2.1 hd) hl
theorem Seg.ret0 (hret : ret = none) (hd : decode bytes pc = .ok (.return_, 1)) (hk : k ≤ rm.cells) (hn : n ≤ rm.slots) (hQ : Q none h) : Seg l Z a0 EL y bytes maxL ret rm Q h k n sf pc L [] :=
  fun p e s m args below meth c T C w => w.out C (fun _ => rfl) hQ hk hn fun vm0 locs X fs hl => X.returnOut C.1 (C.2.2.2.1.trans hret) (hb C.2.1 hd) hl
end Core
section Plain
variable {l : Launch} {Z : State} {a0 : Array Value} {EL : List (String × Nat)} {y : MethodName} {bytes : ByteArray} {maxL : Nat} {ret : Option FieldType} {rm : Room} {Q : Option Value → Heap → Prop} {h : Heap} {k n : Nat} {sf : List Addr} {pc pc' : Nat} {L : Array Slot} {S : List Value}
theorem Seg.iloadN {i : Fin 4} {v : Int32} (hd : decode bytes pc = .ok (.iload_n i, 1)) (hl : L[i.val]? = some (.val (.int v))) (hp : pc + 1 = pc') (g : Seg l Z a0 EL y bytes maxL ret rm Q h k n sf pc' L (.int v :: S)) : Seg l Z a0 EL y bytes maxL ret rm Q h k n sf pc L S := by
  subst hp
  exact Seg.plain (fun p e m below c T t hx hc ha hr => XS.iloadN ha hx rfl (hb hc hd) hl hr) g
theorem Seg.iload {i : Nat} {v : Int32} (hd : decode bytes pc = .ok (.iload i, 2)) (hl : L[i]? = some (.val (.int v))) (hp : pc + 2 = pc') (g : Seg l Z a0 EL y bytes maxL ret rm Q h k n sf pc' L (.int v :: S)) : Seg l Z a0 EL y bytes maxL ret rm Q h k n sf pc L S := by
  subst hp
  exact Seg.plain (fun p e m below c T t hx hc ha hr => XS.iload ha hx rfl (hb hc hd) hl hr) g
theorem Seg.lloadN {i : Fin 4} {v : Int64} (hd : decode bytes pc = .ok (.lload_n i, 1)) (hl : L[i.val]? = some (.val (.long v))) (hp : pc + 1 = pc') (g : Seg l Z a0 EL y bytes maxL ret rm Q h k n sf pc' L (.long v :: S)) : Seg l Z a0 EL y bytes maxL ret rm Q h k n sf pc L S := by
  subst hp
  exact Seg.plain (fun p e m below c T t hx hc ha hr => XT.lloadN ha hx rfl (hb hc hd) hl hr) g
theorem Seg.lload {i : Nat} {v : Int64} (hd : decode bytes pc = .ok (.lload i, 2)) (hl : L[i]? = some (.val (.long v))) (hp : pc + 2 = pc') (g : Seg l Z a0 EL y bytes maxL ret rm Q h k n sf pc' L (.long v :: S)) : Seg l Z a0 EL y bytes maxL ret rm Q h k n sf pc L S := by
  subst hp
  exact Seg.plain (fun p e m below c T t hx hc ha hr => XT.lload ha hx rfl (hb hc hd) hl hr) g
theorem Seg.aloadN {i : Fin 4} {v : Value} (hd : decode bytes pc = .ok (.aload_n i, 1)) (hl : L[i.val]? = some (.val v)) (hv : v.isRef = true) (hp : pc + 1 = pc') (g : Seg l Z a0 EL y bytes maxL ret rm Q h k n sf pc' L (v :: S)) : Seg l Z a0 EL y bytes maxL ret rm Q h k n sf pc L S := by
  subst hp
  exact Seg.plain (fun p e m below c T t hx hc ha hr => XS.aloadN ha hx rfl (hb hc hd) hl hv hr) g
theorem Seg.aload {i : Nat} {v : Value} (hd : decode bytes pc = .ok (.aload i, 2)) (hl : L[i]? = some (.val v)) (hv : v.isRef = true) (hp : pc + 2 = pc') (g : Seg l Z a0 EL y bytes maxL ret rm Q h k n sf pc' L (v :: S)) : Seg l Z a0 EL y bytes maxL ret rm Q h k n sf pc L S := by
  subst hp
  exact Seg.plain (fun p e m below c T t hx hc ha hr => XS.aload ha hx rfl (hb hc hd) hl hv hr) g
theorem Seg.istoreN {i : Fin 4} {v : Int32} {L' : Array Slot} (hd : decode bytes pc = .ok (.istore_n i, 1)) (hl : storeLocals L i.val (.int v) = some L') (hp : pc + 1 = pc') (g : Seg l Z a0 EL y bytes maxL ret rm Q h k n sf pc' L' S) : Seg l Z a0 EL y bytes maxL ret rm Q h k n sf pc L (.int v :: S) := by
  subst hp
  exact Seg.plain (fun p e m below c T t hx hc ha hr => XS.istoreN ha hx rfl (hb hc hd) rfl hl hr) g
theorem Seg.istore {i : Nat} {v : Int32} {L' : Array Slot} (hd : decode bytes pc = .ok (.istore i, 2)) (hl : storeLocals L i (.int v) = some L') (hp : pc + 2 = pc') (g : Seg l Z a0 EL y bytes maxL ret rm Q h k n sf pc' L' S) : Seg l Z a0 EL y bytes maxL ret rm Q h k n sf pc L (.int v :: S) := by
  subst hp
  exact Seg.plain (fun p e m below c T t hx hc ha hr => XS.istore ha hx rfl (hb hc hd) rfl hl hr) g
theorem Seg.lstoreN {i : Fin 4} {v : Int64} {L' : Array Slot} (hd : decode bytes pc = .ok (.lstore_n i, 1)) (hl : storeLocals L i.val (.long v) = some L') (hp : pc + 1 = pc') (g : Seg l Z a0 EL y bytes maxL ret rm Q h k n sf pc' L' S) : Seg l Z a0 EL y bytes maxL ret rm Q h k n sf pc L (.long v :: S) := by
  subst hp
  exact Seg.plain (fun p e m below c T t hx hc ha hr => XT.lstoreN ha hx rfl (hb hc hd) rfl hl hr) g
theorem Seg.lstore {i : Nat} {v : Int64} {L' : Array Slot} (hd : decode bytes pc = .ok (.lstore i, 2)) (hl : storeLocals L i (.long v) = some L') (hp : pc + 2 = pc') (g : Seg l Z a0 EL y bytes maxL ret rm Q h k n sf pc' L' S) : Seg l Z a0 EL y bytes maxL ret rm Q h k n sf pc L (.long v :: S) := by
  subst hp
  exact Seg.plain (fun p e m below c T t hx hc ha hr => XT.lstore ha hx rfl (hb hc hd) rfl hl hr) g
theorem Seg.astoreN {i : Fin 4} {v : Value} {L' : Array Slot} (hd : decode bytes pc = .ok (.astore_n i, 1)) (hv : v.isRef = true) (hl : storeLocals L i.val v = some L') (hp : pc + 1 = pc') (g : Seg l Z a0 EL y bytes maxL ret rm Q h k n sf pc' L' S) : Seg l Z a0 EL y bytes maxL ret rm Q h k n sf pc L (v :: S) := by
  subst hp
  exact Seg.plain (fun p e m below c T t hx hc ha hr => XS.astoreN ha hx rfl (hb hc hd) rfl hv hl hr) g
theorem Seg.astore {i : Nat} {v : Value} {L' : Array Slot} (hd : decode bytes pc = .ok (.astore i, 2)) (hv : v.isRef = true) (hl : storeLocals L i v = some L') (hp : pc + 2 = pc') (g : Seg l Z a0 EL y bytes maxL ret rm Q h k n sf pc' L' S) : Seg l Z a0 EL y bytes maxL ret rm Q h k n sf pc L (v :: S) := by
  subst hp
  exact Seg.plain (fun p e m below c T t hx hc ha hr => XS.astore ha hx rfl (hb hc hd) rfl hv hl hr) g
theorem Seg.iconst {i : Int} {v : Int32} (hd : decode bytes pc = .ok (.iconst i, 1)) (hv : Int32.ofInt i = v) (hp : pc + 1 = pc') (g : Seg l Z a0 EL y bytes maxL ret rm Q h k n sf pc' L (.int v :: S)) : Seg l Z a0 EL y bytes maxL ret rm Q h k n sf pc L S := by
  subst hp
  exact Seg.plain (fun p e m below c T t hx hc ha hr => XT.iconstV ha hx rfl v (hb hc hd) hv hr) g
theorem Seg.bipush {i : Int} {v : Int32} (hd : decode bytes pc = .ok (.bipush i, 2)) (hv : (Int8.ofInt i).toInt32 = v) (hp : pc + 2 = pc') (g : Seg l Z a0 EL y bytes maxL ret rm Q h k n sf pc' L (.int v :: S)) : Seg l Z a0 EL y bytes maxL ret rm Q h k n sf pc L S := by
  subst hp
  exact Seg.plain (fun p e m below c T t hx hc ha hr => XT.bipushV ha hx rfl v (hb hc hd) hv hr) g
theorem Seg.sipush {i : Int} {v : Int32} (hd : decode bytes pc = .ok (.sipush i, 3)) (hv : (Int16.ofInt i).toInt32 = v) (hp : pc + 3 = pc') (g : Seg l Z a0 EL y bytes maxL ret rm Q h k n sf pc' L (.int v :: S)) : Seg l Z a0 EL y bytes maxL ret rm Q h k n sf pc L S := by
  subst hp
  exact Seg.plain (fun p e m below c T t hx hc ha hr => XT.sipushV ha hx rfl v (hb hc hd) hv hr) g
theorem Seg.lconst {i : Fin 2} {v : Int64} (hd : decode bytes pc = .ok (.lconst i, 1)) (hv : Int64.ofNat i = v) (hp : pc + 1 = pc') (g : Seg l Z a0 EL y bytes maxL ret rm Q h k n sf pc' L (.long v :: S)) : Seg l Z a0 EL y bytes maxL ret rm Q h k n sf pc L S := by
  subst hp
  exact Seg.plain (fun p e m below c T t hx hc ha hr => XT.lconstV ha hx rfl v (hb hc hd) hv hr) g
theorem Seg.anull  (hd : decode bytes pc = .ok (.aconst_null, 1))  (hp : pc + 1 = pc') (g : Seg l Z a0 EL y bytes maxL ret rm Q h k n sf pc' L (.null :: S)) : Seg l Z a0 EL y bytes maxL ret rm Q h k n sf pc L S := by
  subst hp
  exact Seg.plain (fun p e m below c T t hx hc ha hr => XS.aconstNull ha hx rfl (hb hc hd) hr) g
theorem Seg.iadd {x z v : Int32} (hd : decode bytes pc = .ok (.iadd, 1)) (hv : x + z = v) (hp : pc + 1 = pc') (g : Seg l Z a0 EL y bytes maxL ret rm Q h k n sf pc' L (.int v :: S)) : Seg l Z a0 EL y bytes maxL ret rm Q h k n sf pc L (.int z :: .int x :: S) := by
  subst hp
  exact Seg.plain (fun p e m below c T t hx hc ha hr => XS.iadd ha hx rfl (hb hc hd) rfl (by subst hv; exact hr)) g
theorem Seg.isub {x z v : Int32} (hd : decode bytes pc = .ok (.isub, 1)) (hv : x - z = v) (hp : pc + 1 = pc') (g : Seg l Z a0 EL y bytes maxL ret rm Q h k n sf pc' L (.int v :: S)) : Seg l Z a0 EL y bytes maxL ret rm Q h k n sf pc L (.int z :: .int x :: S) := by
  subst hp
  exact Seg.plain (fun p e m below c T t hx hc ha hr => XS.isub ha hx rfl (hb hc hd) rfl (by subst hv; exact hr)) g
theorem Seg.imul {x z v : Int32} (hd : decode bytes pc = .ok (.imul, 1)) (hv : x * z = v) (hp : pc + 1 = pc') (g : Seg l Z a0 EL y bytes maxL ret rm Q h k n sf pc' L (.int v :: S)) : Seg l Z a0 EL y bytes maxL ret rm Q h k n sf pc L (.int z :: .int x :: S) := by
  subst hp
  exact Seg.plain (fun p e m below c T t hx hc ha hr => XS.imul ha hx rfl (hb hc hd) rfl (by subst hv; exact hr)) g
theorem Seg.iand {x z v : Int32} (hd : decode bytes pc = .ok (.iand, 1)) (hv : x &&& z = v) (hp : pc + 1 = pc') (g : Seg l Z a0 EL y bytes maxL ret rm Q h k n sf pc' L (.int v :: S)) : Seg l Z a0 EL y bytes maxL ret rm Q h k n sf pc L (.int z :: .int x :: S) := by
  subst hp
  exact Seg.plain (fun p e m below c T t hx hc ha hr => XS.iand ha hx rfl (hb hc hd) rfl (by subst hv; exact hr)) g
theorem Seg.ior {x z v : Int32} (hd : decode bytes pc = .ok (.ior, 1)) (hv : x ||| z = v) (hp : pc + 1 = pc') (g : Seg l Z a0 EL y bytes maxL ret rm Q h k n sf pc' L (.int v :: S)) : Seg l Z a0 EL y bytes maxL ret rm Q h k n sf pc L (.int z :: .int x :: S) := by
  subst hp
  exact Seg.plain (fun p e m below c T t hx hc ha hr => XT.ior ha hx rfl (hb hc hd) rfl (by subst hv; exact hr)) g
theorem Seg.ixor {x z v : Int32} (hd : decode bytes pc = .ok (.ixor, 1)) (hv : x ^^^ z = v) (hp : pc + 1 = pc') (g : Seg l Z a0 EL y bytes maxL ret rm Q h k n sf pc' L (.int v :: S)) : Seg l Z a0 EL y bytes maxL ret rm Q h k n sf pc L (.int z :: .int x :: S) := by
  subst hp
  exact Seg.plain (fun p e m below c T t hx hc ha hr => XT.ixor ha hx rfl (hb hc hd) rfl (by subst hv; exact hr)) g
theorem Seg.ishl {x z v : Int32} (hd : decode bytes pc = .ok (.ishl, 1)) (hv : x <<< (z &&& 31) = v) (hp : pc + 1 = pc') (g : Seg l Z a0 EL y bytes maxL ret rm Q h k n sf pc' L (.int v :: S)) : Seg l Z a0 EL y bytes maxL ret rm Q h k n sf pc L (.int z :: .int x :: S) := by
  subst hp
  exact Seg.plain (fun p e m below c T t hx hc ha hr => XT.ishl ha hx rfl (hb hc hd) rfl (by subst hv; exact hr)) g
theorem Seg.ishr {x z v : Int32} (hd : decode bytes pc = .ok (.ishr, 1)) (hv : x >>> (z &&& 31) = v) (hp : pc + 1 = pc') (g : Seg l Z a0 EL y bytes maxL ret rm Q h k n sf pc' L (.int v :: S)) : Seg l Z a0 EL y bytes maxL ret rm Q h k n sf pc L (.int z :: .int x :: S) := by
  subst hp
  exact Seg.plain (fun p e m below c T t hx hc ha hr => XT.ishr ha hx rfl (hb hc hd) rfl (by subst hv; exact hr)) g
theorem Seg.iushr {x z v : Int32} (hd : decode bytes pc = .ok (.iushr, 1)) (hv : (x.toUInt32 >>> (z &&& 31).toUInt32).toInt32 = v) (hp : pc + 1 = pc') (g : Seg l Z a0 EL y bytes maxL ret rm Q h k n sf pc' L (.int v :: S)) : Seg l Z a0 EL y bytes maxL ret rm Q h k n sf pc L (.int z :: .int x :: S) := by
  subst hp
  exact Seg.plain (fun p e m below c T t hx hc ha hr => XT.iushr ha hx rfl (hb hc hd) rfl (by subst hv; exact hr)) g
theorem Seg.ladd {x z v : Int64} (hd : decode bytes pc = .ok (.ladd, 1)) (hv : x + z = v) (hp : pc + 1 = pc') (g : Seg l Z a0 EL y bytes maxL ret rm Q h k n sf pc' L (.long v :: S)) : Seg l Z a0 EL y bytes maxL ret rm Q h k n sf pc L (.long z :: .long x :: S) := by
  subst hp
  exact Seg.plain (fun p e m below c T t hx hc ha hr => XT.ladd ha hx rfl (hb hc hd) rfl (by subst hv; exact hr)) g
theorem Seg.lsub {x z v : Int64} (hd : decode bytes pc = .ok (.lsub, 1)) (hv : x - z = v) (hp : pc + 1 = pc') (g : Seg l Z a0 EL y bytes maxL ret rm Q h k n sf pc' L (.long v :: S)) : Seg l Z a0 EL y bytes maxL ret rm Q h k n sf pc L (.long z :: .long x :: S) := by
  subst hp
  exact Seg.plain (fun p e m below c T t hx hc ha hr => XT.lsub ha hx rfl (hb hc hd) rfl (by subst hv; exact hr)) g
theorem Seg.lmul {x z v : Int64} (hd : decode bytes pc = .ok (.lmul, 1)) (hv : x * z = v) (hp : pc + 1 = pc') (g : Seg l Z a0 EL y bytes maxL ret rm Q h k n sf pc' L (.long v :: S)) : Seg l Z a0 EL y bytes maxL ret rm Q h k n sf pc L (.long z :: .long x :: S) := by
  subst hp
  exact Seg.plain (fun p e m below c T t hx hc ha hr => XT.lmul ha hx rfl (hb hc hd) rfl (by subst hv; exact hr)) g
theorem Seg.land {x z v : Int64} (hd : decode bytes pc = .ok (.land, 1)) (hv : x &&& z = v) (hp : pc + 1 = pc') (g : Seg l Z a0 EL y bytes maxL ret rm Q h k n sf pc' L (.long v :: S)) : Seg l Z a0 EL y bytes maxL ret rm Q h k n sf pc L (.long z :: .long x :: S) := by
  subst hp
  exact Seg.plain (fun p e m below c T t hx hc ha hr => XT.land ha hx rfl (hb hc hd) rfl (by subst hv; exact hr)) g
theorem Seg.lushr {x v : Int64} {z : Int32} (hd : decode bytes pc = .ok (.lushr, 1)) (hv : XT.ushrL x z = v) (hp : pc + 1 = pc') (g : Seg l Z a0 EL y bytes maxL ret rm Q h k n sf pc' L (.long v :: S)) : Seg l Z a0 EL y bytes maxL ret rm Q h k n sf pc L (.int z :: .long x :: S) := by
  subst hp
  exact Seg.plain (fun p e m below c T t hx hc ha hr => XT.lushr ha hx rfl (hb hc hd) rfl (by subst hv; exact hr)) g
theorem Seg.lrem {x z v : Int64} (hd : decode bytes pc = .ok (.lrem, 1)) (hz : z ≠ 0) (hv : x - (x / z) * z = v) (hp : pc + 1 = pc') (g : Seg l Z a0 EL y bytes maxL ret rm Q h k n sf pc' L (.long v :: S)) : Seg l Z a0 EL y bytes maxL ret rm Q h k n sf pc L (.long z :: .long x :: S) := by
  subst hp
  exact Seg.plain (fun p e m below c T t hx hc ha hr => XT.lrem ha hx rfl (hb hc hd) rfl hz (by subst hv; exact hr)) g
theorem Seg.i2l {x : Int32} {v : Int64} (hd : decode bytes pc = .ok (.i2l, 1)) (hv : x.toInt64 = v) (hp : pc + 1 = pc') (g : Seg l Z a0 EL y bytes maxL ret rm Q h k n sf pc' L (.long v :: S)) : Seg l Z a0 EL y bytes maxL ret rm Q h k n sf pc L (.int x :: S) := by
  subst hp
  exact Seg.plain (fun p e m below c T t hx hc ha hr => XT.i2l ha hx rfl (hb hc hd) rfl (by subst hv; exact hr)) g
theorem Seg.l2i {x : Int64} {v : Int32} (hd : decode bytes pc = .ok (.l2i, 1)) (hv : x.toInt32 = v) (hp : pc + 1 = pc') (g : Seg l Z a0 EL y bytes maxL ret rm Q h k n sf pc' L (.int v :: S)) : Seg l Z a0 EL y bytes maxL ret rm Q h k n sf pc L (.long x :: S) := by
  subst hp
  exact Seg.plain (fun p e m below c T t hx hc ha hr => XT.l2i ha hx rfl (hb hc hd) rfl (by subst hv; exact hr)) g
theorem Seg.i2b {x : Int32} {v : Int32} (hd : decode bytes pc = .ok (.i2b, 1)) (hv : x.toInt8.toInt32 = v) (hp : pc + 1 = pc') (g : Seg l Z a0 EL y bytes maxL ret rm Q h k n sf pc' L (.int v :: S)) : Seg l Z a0 EL y bytes maxL ret rm Q h k n sf pc L (.int x :: S) := by
  subst hp
  exact Seg.plain (fun p e m below c T t hx hc ha hr => XT.i2b ha hx rfl (hb hc hd) rfl (by subst hv; exact hr)) g
theorem Seg.i2c {x : Int32} {v : Int32} (hd : decode bytes pc = .ok (.i2c, 1)) (hv : x.toUInt32.toUInt16.toUInt32.toInt32 = v) (hp : pc + 1 = pc') (g : Seg l Z a0 EL y bytes maxL ret rm Q h k n sf pc' L (.int v :: S)) : Seg l Z a0 EL y bytes maxL ret rm Q h k n sf pc L (.int x :: S) := by
  subst hp
  exact Seg.plain (fun p e m below c T t hx hc ha hr => XT.i2c ha hx rfl (hb hc hd) rfl (by subst hv; exact hr)) g
theorem Seg.irem {x z v : Int32} (hd : decode bytes pc = .ok (.irem, 1)) (hz : z ≠ 0) (hv : x % z = v) (hp : pc + 1 = pc') (g : Seg l Z a0 EL y bytes maxL ret rm Q h k n sf pc' L (.int v :: S)) : Seg l Z a0 EL y bytes maxL ret rm Q h k n sf pc L (.int z :: .int x :: S) := by
  subst hp
  exact Seg.plain (fun p e m below c T t hx hc ha hr => XS.irem ha hx rfl (hb hc hd) rfl hz (by subst hv; rw [irem_eq_mod]; exact hr)) g
theorem Seg.lcmp {x z : Int64} {v : Int32} (hd : decode bytes pc = .ok (.lcmp, 1)) (hv : lcmpW x z = v) (hp : pc + 1 = pc') (g : Seg l Z a0 EL y bytes maxL ret rm Q h k n sf pc' L (.int v :: S)) : Seg l Z a0 EL y bytes maxL ret rm Q h k n sf pc L (.long z :: .long x :: S) := by
  subst hp
  exact Seg.plain (fun p e m below c T t hx hc ha hr => XT.lcmp ha hx rfl (hb hc hd) rfl (by subst hv; exact hr)) g
theorem Seg.dup {v : Value} (hd : decode bytes pc = .ok (.dup, 1)) (hv : v.category = 1) (hp : pc + 1 = pc') (g : Seg l Z a0 EL y bytes maxL ret rm Q h k n sf pc' L (v :: v :: S)) : Seg l Z a0 EL y bytes maxL ret rm Q h k n sf pc L (v :: S) := by
  subst hp
  exact Seg.plain (fun p e m below c T t hx hc ha hr => XS.dup ha hx rfl (hb hc hd) rfl hv hr) g
theorem Seg.dupX1 {v w : Value} (hd : decode bytes pc = .ok (.dup_x1, 1)) (hv : v.category = 1) (hw : w.category = 1) (hp : pc + 1 = pc') (g : Seg l Z a0 EL y bytes maxL ret rm Q h k n sf pc' L (v :: w :: v :: S)) : Seg l Z a0 EL y bytes maxL ret rm Q h k n sf pc L (v :: w :: S) := by
  subst hp
  exact Seg.plain (fun p e m below c T t hx hc ha hr => XT.dupX1 ha hx rfl (hb hc hd) rfl hv hw hr) g
theorem Seg.pop {v : Value} (hd : decode bytes pc = .ok (.pop, 1)) (hv : v.category = 1) (hp : pc + 1 = pc') (g : Seg l Z a0 EL y bytes maxL ret rm Q h k n sf pc' L S) : Seg l Z a0 EL y bytes maxL ret rm Q h k n sf pc L (v :: S) := by
  subst hp
  exact Seg.plain (fun p e m below c T t hx hc ha hr => XT.pop ha hx rfl (hb hc hd) rfl hv hr) g
theorem Seg.iinc {i : Nat} {d : Int} {x v : Int32} {L' : Array Slot} (hd : decode bytes pc = .ok (.iinc i d, 3)) (hv : Int32.ofInt d = v) (hl : L[i]? = some (.val (.int x))) {z : Int32} (hz : x + v = z) (hl' : storeLocals L i (.int z) = some L') (hp : pc + 3 = pc') (g : Seg l Z a0 EL y bytes maxL ret rm Q h k n sf pc' L' S) : Seg l Z a0 EL y bytes maxL ret rm Q h k n sf pc L S := by
  subst hp
  exact Seg.plain (fun p e m below c T t hx hc ha hr => XT.iincV ha hx rfl v (hb hc hd) hv hl (by rw [hz]; exact hl') hr) g
theorem Seg.goto {o : Int} (hd : decode bytes pc = .ok (.goto o, 3))  (ho : 0 ≤ (pc : Int) + o) (hp : ((pc : Int) + o).toNat = pc') (g : Seg l Z a0 EL y bytes maxL ret rm Q h k n sf pc' L S) : Seg l Z a0 EL y bytes maxL ret rm Q h k n sf pc L S := by
  subst hp
  exact Seg.plain (fun p e m below c T t hx hc ha hr => XS.goto ha hx rfl rfl (hb hc hd) ho rfl hr) g
theorem Seg.ifY {cd : ClassFile.Cond} {o : Int} {x : Int32} (hd : decode bytes pc = .ok (.ifCond cd o, 3)) (hc' : ifCond.holds cd x = true) (ho : 0 ≤ (pc : Int) + o) (hp : ((pc : Int) + o).toNat = pc') (g : Seg l Z a0 EL y bytes maxL ret rm Q h k n sf pc' L S) : Seg l Z a0 EL y bytes maxL ret rm Q h k n sf pc L (.int x :: S) := by
  subst hp
  exact Seg.plain (fun p e m below c T t hx hc ha hr => XS.ifYes ha hx rfl rfl (hb hc hd) rfl hc' ho rfl hr) g
theorem Seg.ifN {cd : ClassFile.Cond} {o : Int} {x : Int32} (hd : decode bytes pc = .ok (.ifCond cd o, 3)) (hc' : ifCond.holds cd x = false) (hp : pc + 3 = pc') (g : Seg l Z a0 EL y bytes maxL ret rm Q h k n sf pc' L S) : Seg l Z a0 EL y bytes maxL ret rm Q h k n sf pc L (.int x :: S) := by
  subst hp
  exact Seg.plain (fun p e m below c T t hx hc ha hr => XS.ifNo ha hx rfl (hb hc hd) rfl hc' hr) g
theorem Seg.icY {cd : ClassFile.Cond} {o : Int} {x z : Int32} (hd : decode bytes pc = .ok (.if_icmp cd o, 3)) (hc' : if_icmp.holds cd x z = true) (ho : 0 ≤ (pc : Int) + o) (hp : ((pc : Int) + o).toNat = pc') (g : Seg l Z a0 EL y bytes maxL ret rm Q h k n sf pc' L S) : Seg l Z a0 EL y bytes maxL ret rm Q h k n sf pc L (.int z :: .int x :: S) := by
  subst hp
  exact Seg.plain (fun p e m below c T t hx hc ha hr => XS.icmpYes ha hx rfl rfl (hb hc hd) rfl hc' ho rfl hr) g
theorem Seg.icN {cd : ClassFile.Cond} {o : Int} {x z : Int32} (hd : decode bytes pc = .ok (.if_icmp cd o, 3)) (hc' : if_icmp.holds cd x z = false) (hp : pc + 3 = pc') (g : Seg l Z a0 EL y bytes maxL ret rm Q h k n sf pc' L S) : Seg l Z a0 EL y bytes maxL ret rm Q h k n sf pc L (.int z :: .int x :: S) := by
  subst hp
  exact Seg.plain (fun p e m below c T t hx hc ha hr => XS.icmpNo ha hx rfl (hb hc hd) rfl hc' hr) g
theorem Seg.nullY {o : Int} (hd : decode bytes pc = .ok (.ifnull o, 3))  (ho : 0 ≤ (pc : Int) + o) (hp : ((pc : Int) + o).toNat = pc') (g : Seg l Z a0 EL y bytes maxL ret rm Q h k n sf pc' L S) : Seg l Z a0 EL y bytes maxL ret rm Q h k n sf pc L (.null :: S) := by
  subst hp
  exact Seg.plain (fun p e m below c T t hx hc ha hr => XS.ifnullYes ha hx rfl rfl (hb hc hd) rfl ho rfl hr) g
theorem Seg.nullN {o : Int} {a : Addr} (hd : decode bytes pc = .ok (.ifnull o, 3))  (hp : pc + 3 = pc') (g : Seg l Z a0 EL y bytes maxL ret rm Q h k n sf pc' L S) : Seg l Z a0 EL y bytes maxL ret rm Q h k n sf pc L (.ref a :: S) := by
  subst hp
  exact Seg.plain (fun p e m below c T t hx hc ha hr => XS.ifnullNo ha hx rfl (hb hc hd) rfl hr) g
theorem Seg.nonnY {o : Int} {a : Addr} (hd : decode bytes pc = .ok (.ifnonnull o, 3))  (ho : 0 ≤ (pc : Int) + o) (hp : ((pc : Int) + o).toNat = pc') (g : Seg l Z a0 EL y bytes maxL ret rm Q h k n sf pc' L S) : Seg l Z a0 EL y bytes maxL ret rm Q h k n sf pc L (.ref a :: S) := by
  subst hp
  exact Seg.plain (fun p e m below c T t hx hc ha hr => XT.ifnonnullYes ha hx rfl rfl (hb hc hd) rfl ho rfl hr) g
theorem Seg.nonnN {o : Int} (hd : decode bytes pc = .ok (.ifnonnull o, 3))  (hp : pc + 3 = pc') (g : Seg l Z a0 EL y bytes maxL ret rm Q h k n sf pc' L S) : Seg l Z a0 EL y bytes maxL ret rm Q h k n sf pc L (.null :: S) := by
  subst hp
  exact Seg.plain (fun p e m below c T t hx hc ha hr => XT.ifnonnullNo ha hx rfl (hb hc hd) rfl hr) g
theorem Seg.acY {cd : ClassFile.ACond} {o : Int} {x z : Value} (hd : decode bytes pc = .ok (.if_acmp cd o, 3)) (hx' : x.isRef = true) (hz' : z.isRef = true) (hc' : XT.acmp cd x z = true) (ho : 0 ≤ (pc : Int) + o) (hp : ((pc : Int) + o).toNat = pc') (g : Seg l Z a0 EL y bytes maxL ret rm Q h k n sf pc' L S) : Seg l Z a0 EL y bytes maxL ret rm Q h k n sf pc L (z :: x :: S) := by
  subst hp
  exact Seg.plain (fun p e m below c T t hx hc ha hr => XT.acmpYes ha hx rfl rfl (hb hc hd) rfl hx' hz' hc' ho rfl hr) g
theorem Seg.acN {cd : ClassFile.ACond} {o : Int} {x z : Value} (hd : decode bytes pc = .ok (.if_acmp cd o, 3)) (hx' : x.isRef = true) (hz' : z.isRef = true) (hc' : XT.acmp cd x z = false) (hp : pc + 3 = pc') (g : Seg l Z a0 EL y bytes maxL ret rm Q h k n sf pc' L S) : Seg l Z a0 EL y bytes maxL ret rm Q h k n sf pc L (z :: x :: S) := by
  subst hp
  exact Seg.plain (fun p e m below c T t hx hc ha hr => XT.acmpNo ha hx rfl (hb hc hd) rfl hx' hz' hc' hr) g
end Plain
section Heap
variable {l : Launch} {Z : State} {a0 : Array Value} {EL : List (String × Nat)} {y : MethodName} {bytes : ByteArray} {maxL : Nat} {ret : Option FieldType} {rm : Room} {Q : Option Value → Heap → Prop} {h : Heap} {k n : Nat} {sf : List Addr} {pc pc' : Nat} {L : Array Slot} {S : List Value}
variable {p : Program} {e : Env} {R : Room} {s : State} {m : MethodId} {args : Array Value} {below : List Frame} {meth : Method} {c : Code} {T : State} {own : String}
theorem Seg.newO {C : String} {idx sz : Nat} (w : (Cond.classLink y.cls idx C).before a0 Z = true) (wi : (Cond.instantiable C sz).before a0 Z = true) (wz : (Cond.initialized C).before a0 Z = true) (hd : decode bytes pc = .ok (.new idx, 3)) (hp : pc + 3 = pc') {k' n' : Nat} (hk : k + 1 = k') (hn : n + sz = n') (hk2 : k' ≤ rm.cells) (hn2 : n' ≤ rm.slots)
    (g : ∀ (x : Addr) (h' : Heap), Ext h h' → h.size = x → x < h'.size → Exa Z h' x C → (∀ {O nm d : String} {ty : FieldType}, Laid Z a0 C O nm d → parseFieldDescriptor d = some ty → Fld Z h' x O nm d (defaultValue ty)) → Seg l Z a0 EL y bytes maxL ret rm Q h' k' n' (x :: sf) pc' L (.ref x :: S)) :
    Seg l Z a0 EL y bytes maxL ret rm Q h k n sf pc L S := by
  subst hp hk hn
  intro p e s m args below meth c T C' w'
  obtain ⟨vm0, locs, k0, X, r1, r2, r3, r4, r5, r6, r7, r8, r9, r10⟩ := w'
  obtain ⟨T', h', X', e', E, A, D, -, st⟩ := RoadKit.newO X C'.1 r4 r5 w wi wz r1 (g := mkF m pc L S) rfl (hb C'.2.1 hd) hk2 hn2
  refine Gl.st st (g _ h' E rfl A.lt A D p e s m args below meth c T' C' ⟨vm0, locs, k0, X', e', r2, Nat.le_trans r3 E.1, r4, r5, r6.trans (CHr.ext E r6.1), r7, ext_tr r8 E, r9, ?_⟩)
  exact (r10.chr (CHr.ext E r6.1)).cons r8.1 A.lt ((Safe.new (Nat.le_refl _)).ext E r6.1)
theorem Seg.newP {aty : ArrayType} {ty : FieldType} {dv : Value} {z : Int32} (hty : newarray.typeOf aty = ty) (hdv : defaultValue ty = dv) (w : (Cond.arrayClass ty).before a0 Z = true) (hd : decode bytes pc = .ok (.newarray aty, 2)) (hp : pc + 2 = pc') (hz : ¬ z < 0) {cap : Nat} (hcap : z.toNatClampNeg ≤ cap) (hb8 : cap * 8 ≤ 536870912) {k' n' : Nat} (hk : k + 1 = k') (hn : n + cap = n') (hk2 : k' ≤ rm.cells) (hn2 : n' ≤ rm.slots)
    (g : ∀ (x : Addr) (h' : Heap) (kc : ClassId), Ext h h' → h.size = x → x < h'.size → Arv Z h' x kc ty z [] dv → Seg l Z a0 EL y bytes maxL ret rm Q h' k' n' (x :: sf) pc' L (.ref x :: S)) :
    Seg l Z a0 EL y bytes maxL ret rm Q h k n sf pc L (.int z :: S) := by
  subst hp hk hn hty hdv
  intro p e s m args below meth c T C' w'
  obtain ⟨vm0, locs, k0, X, r1, r2, r3, r4, r5, r6, r7, r8, r9, r10⟩ := w'
  obtain ⟨T', h', cA, X', e', E, A, st⟩ := RoadKit.newP X C'.1 r4 w r1 (g := mkF m pc L (.int z :: S)) rfl (hb C'.2.1 hd) rfl hz hcap hb8 hk2 hn2
  have V := Arv.new A hz
  refine Gl.st st (g _ h' cA E rfl A.lt V p e s m args below meth c T' C' ⟨vm0, locs, k0, X', e', r2, Nat.le_trans r3 E.1, r4, r5, r6.trans (CHr.ext E r6.1), r7, ext_tr r8 E, r9, ?_⟩)
  exact (r10.chr (CHr.ext E r6.1)).cons r8.1 A.lt ((Safe.new (Nat.le_refl _)).ext E r6.1)
theorem Seg.getF {R0 O nm d host : String} {idx : Nat} {a : Addr} {v : Value} (w : (Cond.fieldLink y.cls idx R0 nm d).before a0 Z = true ∨ (Cond.fieldLinkNest y.cls idx R0 nm d host).before a0 Z = true) (via : Via Z R0 O nm d) (F : Fld Z h a O nm d v) (hd : decode bytes pc = .ok (.getfield idx, 3)) (hp : pc + 3 = pc')
    (g : Seg l Z a0 EL y bytes maxL ret rm Q h k n sf pc' L (v :: S)) : Seg l Z a0 EL y bytes maxL ret rm Q h k n sf pc L (.ref a :: S) := by
  subst hp
  intro p e s m args below meth c T C' w'
  obtain ⟨vm0, locs, k0, X, r1, r2, r3, r4, r5, r⟩ := w'
  obtain ⟨T', X', e', st⟩ := RoadKit.getF X C'.1 r4 r5 w via r1 F (g := mkF m pc L (.ref a :: S)) rfl rfl (hb C'.2.1 hd)
  exact Gl.st st (g p e s m args below meth c T' C' ⟨vm0, locs, k0, X', e', r2, r3, r4, r5, r⟩)
theorem Seg.getS {R0 O nm d : String} {idx : Nat} {v : Value} (w : (Cond.fieldLink y.cls idx R0 nm d).before a0 Z = true) (via : Via Z R0 O nm d) (F : Sta Z Z.heap O nm d v) (hd : decode bytes pc = .ok (.getstatic idx, 3)) (hp : pc + 3 = pc')
    (g : Seg l Z a0 EL y bytes maxL ret rm Q h k n sf pc' L (v :: S)) : Seg l Z a0 EL y bytes maxL ret rm Q h k n sf pc L S := by
  subst hp
  intro p e s m args below meth c T C' w'
  obtain ⟨vm0, locs, k0, X, r1, r2, r3, r4, r5, r6, r7, r8, r⟩ := w'
  obtain ⟨T', X', e', st⟩ := RoadKit.getS X C'.1 r4 (host := "") r5 w via r1 (F.ext r8) (g := mkF m pc L S) rfl (hb C'.2.1 hd)
  exact Gl.st st (g p e s m args below meth c T' C' ⟨vm0, locs, k0, X', e', r2, r3, r4, r5, r6, r7, r8, r⟩)
theorem Seg.castY {K : String} {idx : Nat} {a : Addr} (w : (Cond.classLink y.cls idx K).before a0 Z = true) (F : Ins Z h a K true) (hd : decode bytes pc = .ok (.checkcast idx, 3)) (hp : pc + 3 = pc')
    (g : Seg l Z a0 EL y bytes maxL ret rm Q h k n sf pc' L (.ref a :: S)) : Seg l Z a0 EL y bytes maxL ret rm Q h k n sf pc L (.ref a :: S) := by
  subst hp
  intro p e s m args below meth c T C' w'
  obtain ⟨vm0, locs, k0, X, r1, r2, r3, r4, r5, r⟩ := w'
  obtain ⟨T', X', e', st⟩ := RoadKit.castY X C'.1 r4 r5 w r1 F (g := mkF m pc L (.ref a :: S)) rfl rfl (hb C'.2.1 hd)
  exact Gl.st st (g p e s m args below meth c T' C' ⟨vm0, locs, k0, X', e', r2, r3, r4, r5, r⟩)
theorem Seg.castNull {idx : Nat} (hd : decode bytes pc = .ok (.checkcast idx, 3)) (hp : pc + 3 = pc')
    (g : Seg l Z a0 EL y bytes maxL ret rm Q h k n sf pc' L (.null :: S)) : Seg l Z a0 EL y bytes maxL ret rm Q h k n sf pc L (.null :: S) := by
  subst hp
  intro p e s m args below meth c T C' w'
  obtain ⟨vm0, locs, k0, X, r⟩ := w'
  exact Gl.st (X.checkcastNull C'.1 (g := mkF m pc L (.null :: S)) rfl rfl (hb C'.2.1 hd)) (g p e s m args below meth c T C' ⟨vm0, locs, k0, X, r⟩)
theorem Seg.instNull {idx : Nat} (hd : decode bytes pc = .ok (.instanceof idx, 3)) (hp : pc + 3 = pc')
    (g : Seg l Z a0 EL y bytes maxL ret rm Q h k n sf pc' L (.int 0 :: S)) : Seg l Z a0 EL y bytes maxL ret rm Q h k n sf pc L (.null :: S) := by
  subst hp
  intro p e s m args below meth c T C' w'
  obtain ⟨vm0, locs, k0, X, r⟩ := w'
  exact Gl.st (X.instanceofNull C'.1 (g := mkF m pc L (.null :: S)) rfl rfl (hb C'.2.1 hd)) (g p e s m args below meth c T C' ⟨vm0, locs, k0, X, r⟩)
theorem Seg.instY {K : String} {idx : Nat} {a : Addr} (w : (Cond.classLink y.cls idx K).before a0 Z = true) (F : Ins Z h a K true) (hd : decode bytes pc = .ok (.instanceof idx, 3)) (hp : pc + 3 = pc')
    (g : Seg l Z a0 EL y bytes maxL ret rm Q h k n sf pc' L (.int 1 :: S)) : Seg l Z a0 EL y bytes maxL ret rm Q h k n sf pc L (.ref a :: S) := by
  subst hp
  intro p e s m args below meth c T C' w'
  obtain ⟨vm0, locs, k0, X, r1, r2, r3, r4, r5, r⟩ := w'
  obtain ⟨T', X', e', st⟩ := RoadKit.instY X C'.1 r4 r5 w r1 F (g := mkF m pc L (.ref a :: S)) rfl rfl (hb C'.2.1 hd)
  exact Gl.st st (g p e s m args below meth c T' C' ⟨vm0, locs, k0, X', e', r2, r3, r4, r5, r⟩)
theorem Seg.instNo {K C : String} {idx : Nat} {a : Addr} (w : (Cond.classLink y.cls idx K).before a0 Z = true) (E : Exa Z h a C) (F : ∃ c t, Z.vm.findClass C = some c ∧ Z.vm.findClass K = some t ∧ Z.vm.assignable c t = false) (hd : decode bytes pc = .ok (.instanceof idx, 3)) (hp : pc + 3 = pc')
    (g : Seg l Z a0 EL y bytes maxL ret rm Q h k n sf pc' L (.int 0 :: S)) : Seg l Z a0 EL y bytes maxL ret rm Q h k n sf pc L (.ref a :: S) := by
  subst hp
  intro p e s m args below meth c T C' w'
  obtain ⟨vm0, locs, k0, X, r1, r2, r3, r4, r5, r⟩ := w'
  obtain ⟨T', X', e', st⟩ := RoadKit.instNo X C'.1 r4 r5 w r1 E F (g := mkF m pc L (.ref a :: S)) rfl rfl (hb C'.2.1 hd)
  exact Gl.st st (g p e s m args below meth c T' C' ⟨vm0, locs, k0, X', e', r2, r3, r4, r5, r⟩)
theorem Seg.initO {idx : Nat} {a : Addr} (w1 : (Cond.methodLink y.cls idx Lib.objectInit).before a0 Z = true) (w2 : (Cond.instanceMethod Lib.objectInit).before a0 Z = true) (w3 : (Cond.code Lib.objectInit ⟨#[0xb1]⟩ 1 none).before a0 Z = true) (hsz : L.size = maxL) (hd : decode bytes pc = .ok (.invokespecial idx, 3)) (hp : pc + 3 = pc') (hf : 1 ≤ rm.frames) {W : Nat} (hW : (S.map fun v => v.category).sum ≤ W) (hl : W + 12 ≤ rm.locals)
    (g : Seg l Z a0 EL y bytes maxL ret rm Q h k n sf pc' L S) : Seg l Z a0 EL y bytes maxL ret rm Q h k n sf pc L (.ref a :: S) := by
  subst hp
  intro p e s m args below meth c T C' w'
  obtain ⟨vm0, locs, k0, X, r1, r2, r3, r4, r5, r⟩ := w'
  obtain ⟨T', X', e', st⟩ := RoadKit.initO X C'.1 r4 r5 w1 w2 w3 r1 (g := mkF m pc L (.ref a :: S)) rfl (hsz.trans C'.2.2.1.symm) rfl (hb C'.2.1 hd) hf (W := W) (by show 2 * 0 + _ ≤ _; omega) hl
  exact Gl.st st (g p e s m args below meth c T' C' ⟨vm0, locs, k0, X', e', r2, r3, r4, r5, r⟩)
theorem wkWr {h' : Heap} {a : Addr} {sl : Nat} {v : Value} {T' : State} {vm0 : Vm} {locs : List Loc} {k0 : Nat} (W : Wr h h' a sl v) (hsf : a ∈ sf) (X' : Stand p l e R (s.setVm vm0) m args below meth c T' (locs ++ [⟨a, sl⟩]) k n) (e' : T'.heap = h')
    (r : s.Since vm0 k0 ∧ k0 ≤ h.size ∧ Z.Warmed39 vm0 ∧ vm0.findClass own = some m.cls ∧ CHr Z EL s.vm s.heap vm0 h ∧ Fr Z.heap.size locs ∧ Ext Z.heap h ∧ EW Z a0 EL ∧ SfOk Z EL vm0 h sf) : Wk p l e R s m args below meth c Z a0 EL own sf k n T' h' := by
  obtain ⟨r2, r3, r4, r5, r6, r7, r8, r9, r10⟩ := r
  obtain ⟨q1, q2, q3⟩ := r10 a hsf
  have A := CHr.wr W q3 r6.1
  exact ⟨vm0, _, k0, X', e', r2, Nat.le_trans r3 A.2.1, r4, r5, r6.trans A, Fr.snoc X' r7 q1, ext_wr r8 W q1, r9, r10.chr A⟩
theorem Seg.putF {R0 O nm d host C : String} {idx kk : Nat} {ty : FieldType} {a : Addr} {v v' old : Value} (w : (Cond.fieldLink y.cls idx R0 nm d).before a0 Z = true) (via : Via Z R0 O nm d) (F : Fld Z h a O nm d old) (E : Exa Z h a C) (Lw : (Cond.lays C O nm d).before a0 Z = true ∨ ((Cond.laysFinal C O nm d).before a0 Z = true ∧ y.cls = O ∧ y.name = "<init>")) (wi : (Cond.instantiable C kk).before a0 Z = true)
    (hty : parseFieldDescriptor d = some ty) (hnw : narrow ty v = v') (hf : fits ty v' = true) (hsf : a ∈ sf) (hd : decode bytes pc = .ok (.putfield idx, 3)) (hp : pc + 3 = pc')
    (g : ∀ h', Wr h h' a (RoadKit.slotOf Z O nm d) v' → Fld Z h' a O nm d v' → Seg l Z a0 EL y bytes maxL ret rm Q h' k n sf pc' L S) : Seg l Z a0 EL y bytes maxL ret rm Q h k n sf pc L (v :: .ref a :: S) := by
  subst hp
  intro p e s m args below meth c T C' w'
  obtain ⟨vm0, locs, k0, X, r1, r2, r3, r4, r5, r⟩ := w'
  obtain ⟨T', h', X', e', W, st⟩ := RoadKit.putFN X C'.1 r4 r5 w via r1 F E (Lw.imp id fun q => ⟨q.1, q.2.1, C'.2.2.2.2.2.trans q.2.2⟩) wi hty hnw hf (g := mkF m pc L (v :: .ref a :: S)) rfl rfl (hb C'.2.1 hd)
  exact Gl.st st (g h' W (F.same W) p e s m args below meth c T' C' (wkWr W hsf X' e' ⟨r2, r3, r4, r5, r⟩))
theorem Seg.castore {a : Addr} {kc : ClassId} {z j v v' : Int32} {vs : List Value} {dv : Value} {i : Nat} (F : Arv Z h a kc .char z vs dv) (hj : ¬ j < 0 ∧ j < z) (hi : j.toNatClampNeg = i) (hil : i < vs.length) (hv : nar .char v = v') (hsf : a ∈ sf) (hd : decode bytes pc = .ok (.castore, 1)) (hp : pc + 1 = pc')
    (g : ∀ h', Wr h h' a i (.int v') → Arv Z h' a kc .char z (vs.set i (.int v')) dv → Seg l Z a0 EL y bytes maxL ret rm Q h' k n sf pc' L S) : Seg l Z a0 EL y bytes maxL ret rm Q h k n sf pc L (.int v :: .int j :: .ref a :: S) := by
  subst hp hv hi
  intro p e s m args below meth c T C' w'
  obtain ⟨vm0, locs, k0, X, r1, r2, r3, r4, r5, r⟩ := w'
  obtain ⟨cl, A, q, Sz, N, H, G⟩ := F
  obtain ⟨T', h', X', e', W, st⟩ := RoadKit.stC X C'.1 r4 r1 A (inb_of Sz hj) (g := mkF m pc L (.int v :: .int j :: .ref a :: S)) rfl rfl (hb C'.2.1 hd)
  exact Gl.st st (g h' W (Arv.set A q Sz N H G (fits_nar_char _) W _ rfl hil) p e s m args below meth c T' C' (wkWr W hsf X' e' ⟨r2, r3, r4, r5, r⟩))
theorem Seg.bastore {a : Addr} {kc : ClassId} {z j v v' : Int32} {vs : List Value} {dv : Value} {i : Nat} (F : Arv Z h a kc .byte z vs dv) (hj : ¬ j < 0 ∧ j < z) (hi : j.toNatClampNeg = i) (hil : i < vs.length) (hv : nar .byte v = v') (hsf : a ∈ sf) (hd : decode bytes pc = .ok (.bastore, 1)) (hp : pc + 1 = pc')
    (g : ∀ h', Wr h h' a i (.int v') → Arv Z h' a kc .byte z (vs.set i (.int v')) dv → Seg l Z a0 EL y bytes maxL ret rm Q h' k n sf pc' L S) : Seg l Z a0 EL y bytes maxL ret rm Q h k n sf pc L (.int v :: .int j :: .ref a :: S) := by
  subst hp hv hi
  intro p e s m args below meth c T C' w'
  obtain ⟨vm0, locs, k0, X, r1, r2, r3, r4, r5, r⟩ := w'
  obtain ⟨cl, A, q, Sz, N, H, G⟩ := F
  obtain ⟨T', h', X', e', W, st⟩ := RoadKit.stB X C'.1 r4 r1 A (inb_of Sz hj) (g := mkF m pc L (.int v :: .int j :: .ref a :: S)) rfl rfl (hb C'.2.1 hd)
  exact Gl.st st (g h' W (Arv.set A q Sz N H G (fits_nar_byte _) W _ rfl hil) p e s m args below meth c T' C' (wkWr W hsf X' e' ⟨r2, r3, r4, r5, r⟩))
theorem Seg.iastore {a : Addr} {kc : ClassId} {z j v : Int32} {vs : List Value} {dv : Value} {i : Nat} (F : Arv Z h a kc .int z vs dv) (hj : ¬ j < 0 ∧ j < z) (hi : j.toNatClampNeg = i) (hil : i < vs.length) (hsf : a ∈ sf) (hd : decode bytes pc = .ok (.iastore, 1)) (hp : pc + 1 = pc')
    (g : ∀ h', Wr h h' a i (.int v) → Arv Z h' a kc .int z (vs.set i (.int v)) dv → Seg l Z a0 EL y bytes maxL ret rm Q h' k n sf pc' L S) : Seg l Z a0 EL y bytes maxL ret rm Q h k n sf pc L (.int v :: .int j :: .ref a :: S) := by
  subst hp hi
  intro p e s m args below meth c T C' w'
  obtain ⟨vm0, locs, k0, X, r1, r2, r3, r4, r5, r⟩ := w'
  obtain ⟨cl, A, q, Sz, N, H, G⟩ := F
  obtain ⟨T', h', X', e', W, st⟩ := RoadKit.stI X C'.1 r4 r1 A (inb_of Sz hj) (g := mkF m pc L (.int v :: .int j :: .ref a :: S)) rfl rfl (hb C'.2.1 hd)
  exact Gl.st st (g h' W (Arv.set A q Sz N H G rfl W _ rfl hil) p e s m args below meth c T' C' (wkWr W hsf X' e' ⟨r2, r3, r4, r5, r⟩))
theorem Seg.caload {a : Addr} {kc : ClassId} {z j : Int32} {vs : List Value} {dv v : Value} (F : Arv Z h a kc .char z vs dv) (hj : ¬ j < 0 ∧ j < z) (hv : vs.getD j.toNatClampNeg dv = v) (hd : decode bytes pc = .ok (.caload, 1)) (hp : pc + 1 = pc')
    (g : Seg l Z a0 EL y bytes maxL ret rm Q h k n sf pc' L (v :: S)) : Seg l Z a0 EL y bytes maxL ret rm Q h k n sf pc L (.int j :: .ref a :: S) := by
  subst hp
  intro p e s m args below meth c T C' w'
  obtain ⟨vm0, locs, k0, X, r1, r2, r3, r4, r⟩ := w'
  obtain ⟨cl, A, q, Sz, N, H, G⟩ := F
  exact Gl.st (X.caload C'.1 (by rw [r1]; exact A.1) (State.isArrayOf_alike r4.alike A.2.1) A.2.2 (inb_of Sz hj) (H.at (inb_of Sz hj) hv) (g := mkF m pc L (.int j :: .ref a :: S)) rfl rfl (hb C'.2.1 hd)) (g p e s m args below meth c T C' ⟨vm0, locs, k0, X, r1, r2, r3, r4, r⟩)
theorem Seg.baload {a : Addr} {kc : ClassId} {z j : Int32} {vs : List Value} {dv v : Value} (F : Arv Z h a kc .byte z vs dv) (hj : ¬ j < 0 ∧ j < z) (hv : vs.getD j.toNatClampNeg dv = v) (hd : decode bytes pc = .ok (.baload, 1)) (hp : pc + 1 = pc')
    (g : Seg l Z a0 EL y bytes maxL ret rm Q h k n sf pc' L (v :: S)) : Seg l Z a0 EL y bytes maxL ret rm Q h k n sf pc L (.int j :: .ref a :: S) := by
  subst hp
  intro p e s m args below meth c T C' w'
  obtain ⟨vm0, locs, k0, X, r1, r2, r3, r4, r⟩ := w'
  obtain ⟨cl, A, q, Sz, N, H, G⟩ := F
  exact Gl.st (X.baloadBytes C'.1 (by rw [r1]; exact A.1) (State.isArrayOf_alike r4.alike A.2.1) A.2.2 (inb_of Sz hj) (H.at (inb_of Sz hj) hv) (g := mkF m pc L (.int j :: .ref a :: S)) rfl rfl (hb C'.2.1 hd)) (g p e s m args below meth c T C' ⟨vm0, locs, k0, X, r1, r2, r3, r4, r⟩)
theorem Seg.iaload {a : Addr} {kc : ClassId} {z j : Int32} {vs : List Value} {dv v : Value} (F : Arv Z h a kc .int z vs dv) (hj : ¬ j < 0 ∧ j < z) (hv : vs.getD j.toNatClampNeg dv = v) (hd : decode bytes pc = .ok (.iaload, 1)) (hp : pc + 1 = pc')
    (g : Seg l Z a0 EL y bytes maxL ret rm Q h k n sf pc' L (v :: S)) : Seg l Z a0 EL y bytes maxL ret rm Q h k n sf pc L (.int j :: .ref a :: S) := by
  subst hp
  intro p e s m args below meth c T C' w'
  obtain ⟨vm0, locs, k0, X, r1, r2, r3, r4, r⟩ := w'
  obtain ⟨cl, A, q, Sz, N, H, G⟩ := F
  exact Gl.st (X.iaload C'.1 (by rw [r1]; exact A.1) (State.isArrayOf_alike r4.alike A.2.1) A.2.2 (inb_of Sz hj) (H.at (inb_of Sz hj) hv) (g := mkF m pc L (.int j :: .ref a :: S)) rfl rfl (hb C'.2.1 hd)) (g p e s m args below meth c T C' ⟨vm0, locs, k0, X, r1, r2, r3, r4, r⟩)
theorem Seg.aaload {a : Addr} {kc : ClassId} {z j : Int32} {ty : FieldType} {vs : List Value} {dv v : Value} (hty : ty.isReference = true) (F : Arv Z h a kc ty z vs dv) (hj : ¬ j < 0 ∧ j < z) (hv : vs.getD j.toNatClampNeg dv = v) (hd : decode bytes pc = .ok (.aaload, 1)) (hp : pc + 1 = pc')
    (g : Seg l Z a0 EL y bytes maxL ret rm Q h k n sf pc' L (v :: S)) : Seg l Z a0 EL y bytes maxL ret rm Q h k n sf pc L (.int j :: .ref a :: S) := by
  subst hp
  intro p e s m args below meth c T C' w'
  obtain ⟨vm0, locs, k0, X, r1, r2, r3, r4, r⟩ := w'
  obtain ⟨cl, A, q, Sz, N, H, G⟩ := F
  exact Gl.st (X.aaload C'.1 (by rw [r1]; exact A.1) (State.isArrayOf_alike r4.alike A.2.1) hty A.2.2 (inb_of Sz hj) (H.at (inb_of Sz hj) hv) (g := mkF m pc L (.int j :: .ref a :: S)) rfl rfl (hb C'.2.1 hd)) (g p e s m args below meth c T C' ⟨vm0, locs, k0, X, r1, r2, r3, r4, r⟩)
theorem Seg.alen {a : Addr} {kc : ClassId} {z : Int32} {ty : FieldType} {vs : List Value} {dv : Value} (F : Arv Z h a kc ty z vs dv) (hd : decode bytes pc = .ok (.arraylength, 1)) (hp : pc + 1 = pc')
    (g : Seg l Z a0 EL y bytes maxL ret rm Q h k n sf pc' L (.int z :: S)) : Seg l Z a0 EL y bytes maxL ret rm Q h k n sf pc L (.ref a :: S) := by
  subst hp
  intro p e s m args below meth c T C' w'
  obtain ⟨vm0, locs, k0, X, r1, r2, r3, r4, r⟩ := w'
  obtain ⟨cl, A, q, Sz, N, H, G⟩ := F
  refine Gl.st (fun t hr => X.arraylength C'.1 (by rw [r1]; exact A.1) (State.isArrayOf_alike r4.alike A.2.1) (g := mkF m pc L (.ref a :: S)) rfl rfl (hb C'.2.1 hd) t ?_) (g p e s m args below meth c T C' ⟨vm0, locs, k0, X, r1, r2, r3, r4, r⟩)
  rw [len_of Sz N]; exact hr
theorem Seg.ldcI {idx : Nat} {v : Int32} (w : (Cond.constant y.cls idx v).before a0 Z = true) (hd : decode bytes pc = .ok (.ldc idx, 2)) (hp : pc + 2 = pc')
    (g : Seg l Z a0 EL y bytes maxL ret rm Q h k n sf pc' L (.int v :: S)) : Seg l Z a0 EL y bytes maxL ret rm Q h k n sf pc L S := by
  subst hp
  intro p e s m args below meth c T C' w'
  obtain ⟨vm0, locs, k0, X, r1, r2, r3, r4, r5, r⟩ := w'
  exact Gl.st (fun t hr => X.ldcI C'.1 r5 (mv r4 w) (g := mkF m pc L S) rfl (hb C'.2.1 hd) hr) (g p e s m args below meth c T C' ⟨vm0, locs, k0, X, r1, r2, r3, r4, r5, r⟩)
theorem Seg.ldcWI {idx : Nat} {v : Int32} (w : (Cond.constant y.cls idx v).before a0 Z = true) (hd : decode bytes pc = .ok (.ldc_w idx, 3)) (hp : pc + 3 = pc')
    (g : Seg l Z a0 EL y bytes maxL ret rm Q h k n sf pc' L (.int v :: S)) : Seg l Z a0 EL y bytes maxL ret rm Q h k n sf pc L S := by
  subst hp
  intro p e s m args below meth c T C' w'
  obtain ⟨vm0, locs, k0, X, r1, r2, r3, r4, r5, r⟩ := w'
  exact Gl.st (fun t hr => X.ldcWI C'.1 r5 (mv r4 w) (g := mkF m pc L S) rfl (hb C'.2.1 hd) hr) (g p e s m args below meth c T C' ⟨vm0, locs, k0, X, r1, r2, r3, r4, r5, r⟩)
theorem Seg.ldc2J {idx : Nat} {v : Int64} (w : (Cond.constantLong y.cls idx v).before a0 Z = true) (hd : decode bytes pc = .ok (.ldc2_w idx, 3)) (hp : pc + 3 = pc')
    (g : Seg l Z a0 EL y bytes maxL ret rm Q h k n sf pc' L (.long v :: S)) : Seg l Z a0 EL y bytes maxL ret rm Q h k n sf pc L S := by
  subst hp
  intro p e s m args below meth c T C' w'
  obtain ⟨vm0, locs, k0, X, r1, r2, r3, r4, r5, r⟩ := w'
  exact Gl.st (fun t hr => X.ldc2J C'.1 r5 (mv r4 w) (g := mkF m pc L S) rfl (hb C'.2.1 hd) hr) (g p e s m args below meth c T C' ⟨vm0, locs, k0, X, r1, r2, r3, r4, r5, r⟩)
end Heap
section Calls
variable {l : Launch} {Z : State} {a0 : Array Value} {EL : List (String × Nat)} {y : MethodName} {bytes : ByteArray} {maxL : Nat} {ret : Option FieldType} {rm : Room} {Q : Option Value → Heap → Prop} {h : Heap} {k n : Nat} {sf : List Addr} {pc pc' : Nat} {L : Array Slot} {S : List Value}
/-- WHO PAYS a call of y with the arguments as' at the heap h -/
def Pays (l : Launch) (R : Room) (Z : State) (a0 : Array Value) (EL : List (String × Nat)) (sf : List Addr) (y : MethodName) (len W : Nat) (as' : Array Value) (h : Heap) (rc rs : Nat) (Q : Option Value → Heap → Prop) : Prop :=
  ∀ (p : Program) (e : Env) (below : List Frame) (s : State) (args : Array Value) (vm0 : Vm), Z.Warmed39 vm0 → CHv Z EL vm0 h → SfOk Z EL vm0 h sf → Ext Z.heap h → EW Z a0 EL →
    BackS l R p e below (s.setVm vm0) args y len W (fun A a => a = as' ∧ A.U.heap = h ∧ A.cells + rc ≤ R.cells ∧ A.slots + rs ≤ R.slots)
      (fun A _ v B => ∃ L, (Fr Z.heap.size L ∧ Ext Z.heap B.U.heap ∧ Q v B.U.heap) ∧ B.locs = A.locs ++ L ∧ B.cells = A.cells + rc ∧ B.slots = A.slots + rs ∧ CHr Z EL vm0 h B.U.vm B.U.heap)
theorem Pays.of_ct {R : Room} {as' : Array Value} {rc rs len W : Nat} {sf' : List Addr} (hM : Ct l Z EL sf' [] y bytes maxL ret rm as' h Q) (hsf : ∀ x ∈ sf', x ∈ sf) (wc : (Jvm.Cond.code y bytes maxL ret).before a0 Z = true) (wz : (Jvm.Cond.initialized y.cls).before a0 Z = true) (hf : rm.frames + 1 ≤ R.frames) (hl : W + (maxL + 11) + rm.locals ≤ R.locals) (hrc : rm.cells = rc) (hrs : rm.slots = rs) :
    Pays l R Z a0 EL sf y len W as' h rc rs Q := by
  subst hrc hrs
  intro p e below s args vm0 hZ H hS hE hEL
  refine BackS.of_freeW (bytes := bytes) (maxL := maxL) (ret := ret) (E := fun _ first o t L k n => k = rm.cells ∧ n = rm.slots ∧ (∃ v, o = .returned v ∧ (Fr Z.heap.size L ∧ Ext Z.heap t.heap ∧ Q v t.heap)) ∧ CHr Z EL first.vm first.heap t.vm t.heap) hM hf hl
    (fun m meth c A a Y hp => have hU : Z.Warmed39 A.U.vm := wtrans (s := s.setVm vm0) hZ Y.warmed
      ⟨by show (Cond.and _ .tt).before a A.U = true; rw [Cond.before_and, mv hU wc]; rfl, mv hU wc, mv hU wz, hp.2.2.1, hp.2.2.2⟩)
    (fun m meth c A a g mk Y hp => have q := CHv.at Y hZ hEL H; ⟨hp.1, wtrans (s := s.setVm vm0) hZ Y.warmed, hp.2.1, q.1, (hS.sub hsf).chr q, hE⟩) (fun _ _ _ _ _ _ _ _ _ => trivial)
    (fun _ _ _ _ ⟨v, L, h1, h2, h3, h4⟩ => ⟨L, _, _, h4, rfl, rfl, ⟨v, h1, h2⟩, h3⟩)
    (fun m meth c A a g mk v t L k n Y hp _ _ ⟨e1, e2, ⟨v', e3, e4⟩, e5⟩ => ?_)
  cases e3; subst e1 e2
  refine ⟨L, e4, rfl, rfl, rfl, (CHv.at Y hZ hEL H).trans ?_⟩
  rw [← hp.2.1]; exact e5
theorem Pays.of_back {R : Room} {as' : Array Value} {rc rs len W : Nat} {ws : List Addr} {QL : Option Value → Heap → List Loc → Prop}
    (hK : ∀ (p : Program) (e : Env) (below : List Frame) (s : State) (args : Array Value), Z.Warmed39 s.vm → Ext Z.heap h → (∀ x ∈ sf, Z.heap.size ≤ x) → Back l R p e below s args y len W (fun A a => a = as' ∧ A.U.heap = h ∧ A.cells + rc ≤ R.cells ∧ A.slots + rs ≤ R.slots) (fun A _ v B => ∃ L, QL v B.U.heap L ∧ B.locs = A.locs ++ L ∧ B.cells = A.cells + rc ∧ B.slots = A.slots + rs))
    (hws : ∀ x ∈ ws, x ∈ sf) (hQ : ∀ v h' L, Ext Z.heap h → QL v h' L → Fr Z.heap.size L ∧ Keep h h' ws ∧ Q v h') :
    Pays l R Z a0 EL sf y len W as' h rc rs Q := by
  intro p e below s args vm0 hZ H hS hE hEL m meth c A g ig mk a X hg hsize hdg hW hn hp
  obtain ⟨v, B, X', ⟨L, q, hl, hc, hs⟩, hsteps⟩ := hK p e below (s.setVm vm0) args hZ hE (fun x hx => (hS x hx).1) m meth c A g ig mk a X hg hsize hdg hW hn hp
  obtain ⟨q1, q2, q3⟩ := hQ _ _ _ hE q
  have A1 := CHr.keep q2 (hS.safes hws) H
  have A2 := CHv.at X' hZ hEL A1.1
  refine ⟨v, B, X'.retabled X'.warmed.wide, X'.warmed.since _, by rw [hp.2.1]; exact q2.1, ⟨L, ⟨q1, ext_kp hE q2 (fun x hx => (hS x (hws x hx)).1), q3⟩, hl, hc, hs, A1.trans A2⟩, hsteps⟩
theorem Pays.post {R : Room} {as' : Array Value} {rc rs len W : Nat} {Q' : Option Value → Heap → Prop} (hP : Pays l R Z a0 EL sf y len W as' h rc rs Q) (q : ∀ v h', Q v h' → Q' v h') : Pays l R Z a0 EL sf y len W as' h rc rs Q' := by
  intro p e below s args vm0 hZ H hS hE hEL m meth c A g ig mk a X hg hsize hdg hW hn hp
  obtain ⟨v, B, X', hS', hgr, ⟨L, ⟨q1, q2, q3⟩, hl, hc, hs, hr⟩, hsteps⟩ := hP p e below s args vm0 hZ H hS hE hEL m meth c A g ig mk a X hg hsize hdg hW hn hp
  exact ⟨v, B, X', hS', hgr, ⟨L, ⟨q1, q2, q _ _ q3⟩, hl, hc, hs, hr⟩, hsteps⟩
section Use
variable {y' : MethodName} {as' : Array Value} {rc rs W : Nat} {Q' : Option Value → Heap → Prop} {idx : Nat} {argsL rest : List Value} {k' n' : Nat}
theorem wkBack {p : Program} {e : Env} {R : Room} {s : State} {m : MethodId} {args : Array Value} {below : List Frame} {meth : Method} {c : Code} {own : String} {vm0 : Vm} {locs L0 : List Loc} {k0 : Nat} {B : Pt}
    (r : s.Since vm0 k0 ∧ k0 ≤ h.size ∧ Z.Warmed39 vm0 ∧ vm0.findClass own = some m.cls ∧ CHr Z EL s.vm s.heap vm0 h ∧ Fr Z.heap.size locs ∧ Ext Z.heap h ∧ EW Z a0 EL ∧ SfOk Z EL vm0 h sf)
    (X' : Stand p l e R ((s.setVm vm0).setVm B.U.vm) m args below meth c B.U B.locs B.cells B.slots) (hS : (s.setVm vm0).Since B.U.vm B.U.heap.size) (hg : h.size ≤ B.U.heap.size) (q1 : Fr Z.heap.size L0 ∧ Ext Z.heap B.U.heap) (hl : B.locs = locs ++ L0) (hc : B.cells = k') (hs : B.slots = n') (q : CHr Z EL vm0 h B.U.vm B.U.heap) :
    Wk p l e R s m args below meth c Z a0 EL own sf k' n' B.U B.U.heap := by
  obtain ⟨r2, r3, r4, r5, r6, r7, r8, r9, r10⟩ := r
  obtain ⟨X1, S1, Z1, o1⟩ := rebS r2 r3 X' hS hg r4 r5
  rw [hl, hc, hs] at X1
  exact ⟨B.U.vm, _, _, X1, rfl, S1, Nat.le_refl _, Z1, o1, r6.trans q, r7.app q1.1, q1.2, r9, r10.chr q⟩
theorem Seg.callS {bytes' : ByteArray} {maxL' : Nat} {ret' : Option FieldType} (w1 : (Cond.methodLink y.cls idx y').before a0 Z = true) (w2 : (Cond.static y').before a0 Z = true) (w3 : (Cond.initialized y'.cls).before a0 Z = true) (w4 : (Cond.code y' bytes' maxL' ret').before a0 Z = true) (hy : y'.cls ≠ "java/lang/invoke/MethodHandle" ∧ y'.cls ≠ "java/lang/invoke/VarHandle")
    (hP : Pays l rm Z a0 EL sf y' 3 W as' h rc rs Q') (has : argsL.toArray = as') (hlen : ∀ sig, parseMethodDescriptor y'.desc = some sig → argsL.length = sig.parameters.length) (hst : S = argsL.reverse ++ rest) (hW : (rest.map fun v => v.category).sum ≤ W) (hsz : L.size = maxL) (hd : decode bytes pc = .ok (.invokestatic idx, 3)) (hp : pc + 3 = pc')
    (hk : k + rc = k') (hn : n + rs = n') (hk2 : k' ≤ rm.cells) (hn2 : n' ≤ rm.slots)
    (g : ∀ (v : Option Value) (h' : Heap), h.size ≤ h'.size → Q' v h' → Seg l Z a0 EL y bytes maxL ret rm Q h' k' n' sf pc' L (v.toList ++ rest)) : Seg l Z a0 EL y bytes maxL ret rm Q h k n sf pc L S := by
  subst hp hk hn hst has
  intro p e s m args below meth c T C' w'
  obtain ⟨vm0, locs, k0, X, r1, r2, r3, r4, r5, r6, r7, r8, r9, r10⟩ := w'
  obtain ⟨v, vm1, B, -, X', hS, hg, ⟨L0, ⟨q1, q2, q3⟩, hl, hc, hs, q4⟩, st⟩ := callSS X C'.1 r5 (mvT r4 w1) (mvT r4 w2) (mvT r4 w3) (mvT r4 w4) hy (hP p e below s args vm0 r4 r6.1 r10 r8 r9) (g := mkF m pc L (argsL.reverse ++ rest)) rfl (hsz.trans C'.2.2.1.symm) (argsL := argsL) (rest := rest) hlen rfl (by show 2 * 0 + _ ≤ _; omega) (hb C'.2.1 hd) (fun _ _ => ⟨rfl, r1, hk2, hn2⟩)
  rw [r1] at hg
  exact Gl.st (fun t hr => st.trans hr) (g v B.U.heap hg q3 p e s m args below meth c B.U C' (wkBack ⟨r2, r3, r4, r5, r6, r7, r8, r9, r10⟩ X' hS hg ⟨q1, q2⟩ hl hc hs q4))
theorem Seg.callN {bytes' : ByteArray} {maxL' : Nat} {a : Addr} (hy1 : y'.name = "<init>") (w1 : (Cond.methodLink y.cls idx y').before a0 Z = true) (w2 : (Cond.instanceMethod y').before a0 Z = true) (w4 : (Cond.code y' bytes' maxL' none).before a0 Z = true) (hy : y'.cls ≠ "java/lang/invoke/MethodHandle" ∧ y'.cls ≠ "java/lang/invoke/VarHandle")
    (hP : Pays l rm Z a0 EL sf y' 3 W as' h rc rs Q') (has : (.ref a :: argsL).toArray = as') (hlen : ∀ sig, parseMethodDescriptor y'.desc = some sig → argsL.length = sig.parameters.length) (hst : S = argsL.reverse ++ .ref a :: rest) (hW : (rest.map fun v => v.category).sum ≤ W) (hsz : L.size = maxL) (hd : decode bytes pc = .ok (.invokespecial idx, 3)) (hp : pc + 3 = pc')
    (hk : k + rc = k') (hn : n + rs = n') (hk2 : k' ≤ rm.cells) (hn2 : n' ≤ rm.slots)
    (g : ∀ (v : Option Value) (h' : Heap), h.size ≤ h'.size → Q' v h' → Seg l Z a0 EL y bytes maxL ret rm Q h' k' n' sf pc' L (v.toList ++ rest)) : Seg l Z a0 EL y bytes maxL ret rm Q h k n sf pc L S := by
  subst hp hk hn hst has
  intro p e s m args below meth c T C' w'
  obtain ⟨vm0, locs, k0, X, r1, r2, r3, r4, r5, r6, r7, r8, r9, r10⟩ := w'
  obtain ⟨v, vm1, B, -, X', hS, hg, ⟨L0, ⟨q1, q2, q3⟩, hl, hc, hs, q4⟩, st⟩ := X.specialBackS C'.1 hy1 r5 (mvT r4 w1) (mvT r4 w2) (mvT r4 w4) hy (hP p e below s args vm0 r4 r6.1 r10 r8 r9) (g := mkF m pc L (argsL.reverse ++ .ref a :: rest)) rfl (hsz.trans C'.2.2.1.symm) (Steps.refl _) (a := a) (argsL := argsL) (rest := rest) hlen rfl (by show 2 * 0 + _ ≤ _; omega) (hb C'.2.1 hd) (fun _ _ => ⟨rfl, r1, hk2, hn2⟩)
  rw [r1] at hg
  exact Gl.st (fun t hr => st.trans hr) (g v B.U.heap hg q3 p e s m args below meth c B.U C' (wkBack ⟨r2, r3, r4, r5, r6, r7, r8, r9, r10⟩ X' hS hg ⟨q1, q2⟩ hl hc hs q4))
theorem Seg.callV {z : MethodName} {C : String} {a : Addr} (w1 : (Cond.methodLink y.cls idx y').before a0 Z = true) (w2 : (Cond.declares y').before a0 Z = true) (hnf : ∀ (s : State) (vm0 : Vm), Z.Warmed39 vm0 → Free.NotFace (s.setVm vm0) y') (w3 : (Cond.selects C y' z).before a0 Z = true) (w4 : (Cond.instanceMethod z).before a0 Z = true) (hy : y'.cls ≠ "java/lang/invoke/MethodHandle" ∧ y'.cls ≠ "java/lang/invoke/VarHandle") (E : Exa Z h a C)
    (hP : Pays l rm Z a0 EL sf z 3 W as' h rc rs Q') (has : (.ref a :: argsL).toArray = as') (hlen : ∀ sig, parseMethodDescriptor y'.desc = some sig → argsL.length = sig.parameters.length) (hst : S = argsL.reverse ++ .ref a :: rest) (hW : (rest.map fun v => v.category).sum ≤ W) (hsz : L.size = maxL) (hd : decode bytes pc = .ok (.invokevirtual idx, 3)) (hp : pc + 3 = pc')
    (hk : k + rc = k') (hn : n + rs = n') (hk2 : k' ≤ rm.cells) (hn2 : n' ≤ rm.slots)
    (g : ∀ (v : Option Value) (h' : Heap), h.size ≤ h'.size → Q' v h' → Seg l Z a0 EL y bytes maxL ret rm Q h' k' n' sf pc' L (v.toList ++ rest)) : Seg l Z a0 EL y bytes maxL ret rm Q h k n sf pc L S := by
  subst hp hk hn hst has
  intro p e s m args below meth c T C' w'
  obtain ⟨vm0, locs, k0, X, r1, r2, r3, r4, r5, r6, r7, r8, r9, r10⟩ := w'
  obtain ⟨cq, kq, qa, qb, qc⟩ := isOf (s := s.setVm vm0) r4 r1 E
  obtain ⟨v, vm1, B, -, X', hS, hg, ⟨L0, ⟨q1, q2, q3⟩, hl, hc, hs, q4⟩, st⟩ := X.virtualBackS C'.1 r5 (mvT r4 w1) (mvT r4 w2) (hnf s vm0 r4) (mvT r4 w3) (mvT r4 w4) hy (hP p e below s args vm0 r4 r6.1 r10 r8 r9) qa qc (g := mkF m pc L (argsL.reverse ++ .ref a :: rest)) rfl (hsz.trans C'.2.2.1.symm) (Steps.refl _) (argsL := argsL) (rest := rest) hlen rfl (by show 2 * 0 + _ ≤ _; omega) (hb C'.2.1 hd) (fun _ _ => ⟨rfl, r1, hk2, hn2⟩)
  rw [r1] at hg
  exact Gl.st (fun t hr => st.trans hr) (g v B.U.heap hg q3 p e s m args below meth c B.U C' (wkBack ⟨r2, r3, r4, r5, r6, r7, r8, r9, r10⟩ X' hS hg ⟨q1, q2⟩ hl hc hs q4))
theorem Seg.callI {z : MethodName} {C : String} {a : Addr} {count : Nat} (w1 : (Cond.methodLink y.cls idx y').before a0 Z = true) (w2 : (Cond.declares y').before a0 Z = true) (w5 : (Cond.interfaceMethod y'.cls y'.cls y'.name y'.desc).before a0 Z = true) (hw5 : ((Cond.interfaceMethod y'.cls y'.cls y'.name y'.desc).onTables && (Cond.interfaceMethod y'.cls y'.cls y'.name y'.desc).keepsFace) = true) (w3 : (Cond.selects C y' z).before a0 Z = true) (w4 : (Cond.instanceMethod z).before a0 Z = true) (w6 : (Cond.publicMethod z).before a0 Z = true) (w7 : (Cond.unhidden C y'.name y'.desc).before a0 Z = true) (w8 : (Cond.castable C y'.cls).before a0 Z = true) (hy : y'.cls ≠ "java/lang/invoke/MethodHandle" ∧ y'.cls ≠ "java/lang/invoke/VarHandle") (E : Exa Z h a C)
    (hP : Pays l rm Z a0 EL sf z 5 W as' h rc rs Q') (has : (.ref a :: argsL).toArray = as') (hlen : ∀ sig, parseMethodDescriptor y'.desc = some sig → argsL.length = sig.parameters.length) (hst : S = argsL.reverse ++ .ref a :: rest) (hW : (rest.map fun v => v.category).sum ≤ W) (hsz : L.size = maxL) (hd : decode bytes pc = .ok (.invokeinterface idx count, 5)) (hp : pc + 5 = pc')
    (hk : k + rc = k') (hn : n + rs = n') (hk2 : k' ≤ rm.cells) (hn2 : n' ≤ rm.slots)
    (g : ∀ (v : Option Value) (h' : Heap), h.size ≤ h'.size → Q' v h' → Seg l Z a0 EL y bytes maxL ret rm Q h' k' n' sf pc' L (v.toList ++ rest)) : Seg l Z a0 EL y bytes maxL ret rm Q h k n sf pc L S := by
  subst hp hk hn hst has
  intro p e s m args below meth c T C' w'
  obtain ⟨vm0, locs, k0, X, r1, r2, r3, r4, r5, r6, r7, r8, r9, r10⟩ := w'
  obtain ⟨cq, kq, qa, qb, qc⟩ := isOf (s := s.setVm vm0) r4 r1 E
  obtain ⟨v, vm1, B, -, X', hS, hg, ⟨L0, ⟨q1, q2, q3⟩, hl, hc, hs, q4⟩, st⟩ := X.interfaceBackS C'.1 r5 (mvT r4 w1) (mvT r4 w2) (mvT r4 w5 hw5) (mvT r4 w3) (mvT r4 w4) (mvT r4 w6) (mvT r4 w7) (mvT r4 w8) hy (hP p e below s args vm0 r4 r6.1 r10 r8 r9) qa qb qc (g := mkF m pc L (argsL.reverse ++ .ref a :: rest)) rfl (hsz.trans C'.2.2.1.symm) (Steps.refl _) (argsL := argsL) (rest := rest) hlen rfl (by show 2 * 0 + _ ≤ _; omega) (hb C'.2.1 hd) (fun _ _ => ⟨rfl, r1, hk2, hn2⟩)
  rw [r1] at hg
  exact Gl.st (fun t hr => st.trans hr) (g v B.U.heap hg q3 p e s m args below meth c B.U C' (wkBack ⟨r2, r3, r4, r5, r6, r7, r8, r9, r10⟩ X' hS hg ⟨q1, q2⟩ hl hc hs q4))
theorem nf_sel {C : String} (w3 : (Cond.selects C y' y').before a0 Z = true) (s : State) (vm0 : Vm) (hZ : Z.Warmed39 vm0) : Free.NotFace (s.setVm vm0) y' :=
  notFace_of_selects (args := #[]) (mvT (s := s.setVm vm0) hZ w3)
theorem nf_topS (w : (Cond.noSuperclass y'.cls).before a0 Z = true) (s : State) (vm0 : Vm) (hZ : Z.Warmed39 vm0) : Free.NotFace (s.setVm vm0) y' := nf_top (args := #[]) (mvT (s := s.setVm vm0) hZ w)
theorem nf_supS {C : String} (w : (Cond.superclass y'.cls C).before a0 Z = true) (s : State) (vm0 : Vm) (hZ : Z.Warmed39 vm0) : Free.NotFace (s.setVm vm0) y' := nf_super (args := #[]) (mvT (s := s.setVm vm0) hZ w)
end Use
end Calls
end Jvm.OwnK
namespace Jvm.OwnK
open Jvm Jvm.ClassFile Sem Op Lib Jvm.Free Jvm.Stand Jvm.LawKit Jvm.RoadKit Bundle
/-! own kit, part 4: small numbers as Int32 -/
theorem n32i {i : Nat} (h : i ≤ 100000) : (Int32.ofNat i).toInt = i := Int32.toInt_ofNat_of_lt (by omega)
theorem n32c {i : Nat} (h : i ≤ 100000) : (Int32.ofNat i).toNatClampNeg = i := by
  show (Int32.ofNat i).toInt.toNat = i
  rw [n32i h]; rfl
theorem n32lt {i n : Nat} (h : i < n) (hn : n ≤ 100000) : Int32.ofNat i < Int32.ofNat n := by
  rw [Int32.lt_iff_toInt_lt, n32i (by omega), n32i hn]; omega
theorem n32nlt {i n : Nat} (h : n ≤ i) (hn : i ≤ 100000) : ¬ Int32.ofNat i < Int32.ofNat n := by
  rw [Int32.lt_iff_toInt_lt, n32i (by omega), n32i (by omega)]; omega
theorem n32nn {i : Nat} (h : i ≤ 100000) : ¬ Int32.ofNat i < 0 := by
  rw [Int32.lt_iff_toInt_lt, n32i h]; show ¬ (i : Int) < 0; omega
theorem n32in {i n : Nat} (h : i < n) (hn : n ≤ 100000) : ¬ Int32.ofNat i < 0 ∧ Int32.ofNat i < Int32.ofNat n := ⟨n32nn (by omega), n32lt h hn⟩
theorem n32add (i j : Nat) : Int32.ofNat i + Int32.ofNat j = Int32.ofNat (i + j) := (Int32.ofNat_add i j).symm
theorem n32s (i : Nat) : Int32.ofNat i + 1 = Int32.ofNat (i + 1) := n32add i 1
theorem n32eq {i j : Nat} (hi : i ≤ 100000) (hj : j ≤ 100000) (h : Int32.ofNat i = Int32.ofNat j) : i = j := by
  have := congrArg Int32.toInt h
  rw [n32i hi, n32i hj] at this; omega
theorem getDmap {α : Type} (f : α → Value) (cs : List α) (i : Nat) (d : α) (dv : Value) (h : i < cs.length) : (cs.map f).getD i dv = f (cs.getD i d) := by
  simp [List.getD_eq_getElem?_getD, h]
theorem toInt_cases {x : Int32} {n : Nat} (h0 : 0 ≤ x.toInt) (h1 : x.toInt < n) (hn : n ≤ 1000) : ∃ i : Nat, i < n ∧ x = Int32.ofNat i := by
  refine ⟨x.toInt.toNat, by omega, Int32.toInt_inj.mp ?_⟩
  rw [Int32.toInt_ofNat_of_lt (by omega)]; omega
end Jvm.OwnK
namespace Jvm.OwnK
open Jvm Jvm.ClassFile Sem Op Lib Jvm.Free Jvm.Stand Jvm.LawKit Jvm.RoadKit Bundle
/-! own kit, part 5: arraycopy and clone -/
section Copies
variable {l : Launch} {Z : State} {a0 : Array Value} {EL : List (String × Nat)} {y : MethodName} {bytes : ByteArray} {maxL : Nat} {ret : Option FieldType} {rm : Room} {Q : Option Value → Heap → Prop} {h : Heap} {k n : Nat} {sf : List Addr} {pc pc' : Nat} {L : Array Slot} {S : List Value}
theorem Seg.cpA {idx : Nat} {a b : Addr} {kc kc' : ClassId} {ty ty' : FieldType} {z z' sp dp nn : Int32} {vs vd us vr : List Value} {dv dd : Value} (w1 : (Cond.methodLink y.cls idx Jvm.Stand.acN).before a0 Z = true) (w2 : (Cond.native Jvm.Stand.acN).before a0 Z = true) (w3 : (Cond.static Jvm.Stand.acN).before a0 Z = true) (w4 : (Cond.initialized "java/lang/System").before a0 Z = true)
    (A : Arv Z h a kc ty z vs dv) (B : Arv Z h b kc' ty' z' vd dd) (hty : (ty = ty' ∧ refKind ty = false) ∨ (refKind ty = true ∧ refKind ty' = true ∧ StoL Z h b us))
    (h1 : ¬ sp < 0) (h2 : ¬ dp < 0) (h3 : ¬ nn < 0) (h4 : sp.toNatClampNeg + nn.toNatClampNeg ≤ z.toNatClampNeg) (h5 : dp.toNatClampNeg + nn.toNatClampNeg ≤ z'.toNatClampNeg)
    (hus : us = (List.range nn.toNatClampNeg).map fun i => vs.getD (sp.toNatClampNeg + i) dv) (hl : dp.toNatClampNeg + nn.toNatClampNeg ≤ vd.length) (hvr : vd.take dp.toNatClampNeg ++ us ++ vd.drop (dp.toNatClampNeg + nn.toNatClampNeg) = vr) (hsf : b ∈ sf) (hsz : L.size = maxL) (hd : decode bytes pc = .ok (.invokestatic idx, 3)) (hp : pc + 3 = pc') (hf : 1 ≤ rm.frames) {W : Nat} (hW : (S.map fun v => v.category).sum ≤ W) (hlo : W + (nativeFrameWords "java/lang/System" "arraycopy" 5 + 11) ≤ rm.locals)
    (g : ∀ h', Keep h h' [b] → Arv Z h' b kc' ty' z' vr dd → Seg l Z a0 EL y bytes maxL ret rm Q h' k n sf pc' L S) : Seg l Z a0 EL y bytes maxL ret rm Q h k n sf pc L (.int nn :: .int dp :: .ref b :: .int sp :: .ref a :: S) := by
  subst hp hvr
  intro p e s m args below meth c T C' w'
  obtain ⟨vm0, locs, k0, X, r1, r2, r3, r4, r5, r6, r7, r8, r9, r10⟩ := w'
  obtain ⟨T', h', L', X', e', FL, K, A', st⟩ := RoadKit.cpA X C'.1 r4 r5 w1 w2 w3 w4 r1 A B hty h1 h2 h3 h4 h5 hus hl r7 (r10 b hsf).1 (g := mkF m pc L (.int nn :: .int dp :: .ref b :: .int sp :: .ref a :: S)) rfl (hsz.trans C'.2.2.1.symm) rfl (hb C'.2.1 hd) hf (W := W) (by show 2 * 0 + _ ≤ _; omega) hlo
  have A1 := CHr.keep K (r10.safes (allS hsf all0)) r6.1
  exact Gl.st st (g h' K A' p e s m args below meth c T' C' ⟨vm0, L', k0, X', e', r2, Nat.le_trans r3 K.1, r4, r5, r6.trans A1, FL, ext_kp r8 K (allS (r10 b hsf).1 all0), r9, r10.chr A1⟩)
theorem Seg.cloneH {idx : Nat} {ad : String} {a : Addr} {kc : ClassId} {ty : FieldType} {z : Int32} {vs : List Value} {dv : Value} (w1 : (Cond.methodLink y.cls idx ⟨ad, "clone", "()Ljava/lang/Object;"⟩).before a0 Z = true) (w2 : (Cond.sameMethod ad "java/lang/Object" "clone" "()Ljava/lang/Object;").before a0 Z = true) (w3 : (Cond.native ⟨"java/lang/Object", "clone", "()Ljava/lang/Object;"⟩).before a0 Z = true)
    (w4 : (Cond.instanceMethod ⟨"java/lang/Object", "clone", "()Ljava/lang/Object;"⟩).before a0 Z = true) (w5 : (Cond.selects ad ⟨ad, "clone", "()Ljava/lang/Object;"⟩ ⟨"java/lang/Object", "clone", "()Ljava/lang/Object;"⟩).before a0 Z = true) (w6 : (Cond.castable ad "java/lang/Cloneable").before a0 Z = true)
    (F : Arv Z h a kc ty z vs dv) (E : Exa Z h a ad) (hsz : L.size = maxL) (hd : decode bytes pc = .ok (.invokevirtual idx, 3)) (hp : pc + 3 = pc') (hf : 1 ≤ rm.frames) {W cap : Nat} (hW : (S.map fun v => v.category).sum ≤ W) (hlo : W + 14 ≤ rm.locals) (hcap : z.toNatClampNeg ≤ cap) {k' n' : Nat} (hk : k + 1 = k') (hn : n + cap = n') (hk2 : k' ≤ rm.cells) (hn2 : n' ≤ rm.slots)
    (g : ∀ (x : Addr) (h' : Heap), Ext h h' → h.size = x → x < h'.size → Arv Z h' x kc ty z vs dv → Exa Z h' x ad → Seg l Z a0 EL y bytes maxL ret rm Q h' k' n' (x :: sf) pc' L (.ref x :: S)) : Seg l Z a0 EL y bytes maxL ret rm Q h k n sf pc L (.ref a :: S) := by
  subst hp hk hn
  intro p e s m args below meth c T C' w'
  obtain ⟨vm0, locs, k0, X, r1, r2, r3, r4, r5, r6, r7, r8, r9, r10⟩ := w'
  obtain ⟨T', h', X', e', Ex, A, E', st⟩ := RoadKit.cloneH X C'.1 r4 r5 w1 w2 w3 w4 w5 w6 r1 F.arh E (g := mkF m pc L (.ref a :: S)) rfl (hsz.trans C'.2.2.1.symm) rfl (hb C'.2.1 hd) hf (W := W) (by show 2 * 0 + _ ≤ _; omega) hlo hcap hk2 hn2
  refine Gl.st st (g _ h' Ex rfl E'.lt A E' p e s m args below meth c T' C' ⟨vm0, locs, k0, X', e', r2, Nat.le_trans r3 Ex.1, r4, r5, r6.trans (CHr.ext Ex r6.1), r7, ext_tr r8 Ex, r9, ?_⟩)
  exact (r10.chr (CHr.ext Ex r6.1)).cons r8.1 E'.lt ((Safe.new (Nat.le_refl _)).ext Ex r6.1)
end Copies
theorem n32p (i : Nat) : Int32.ofNat (i + 1) - 1 = Int32.ofNat i := by rw [← n32s, Int32.add_sub_cancel]
theorem n32m (i : Nat) : Int32.ofNat (i + 1) + (-1) = Int32.ofNat i := by rw [← Int32.sub_eq_add_neg, n32p]
theorem n32z (x : Int32) : x - 0 = x := Int32.sub_zero x
theorem n32zp (x : Int32) : 0 + x = x := Int32.zero_add x
theorem range_take (f : Int32 → Value) (cs : List Int32) (e : Nat) (dv : Value) (he : e ≤ cs.length) (h' : e ≤ 100000) : (cs.take e).map f = (List.range (Int32.ofNat e).toNatClampNeg).map fun i => (cs.map f).getD ((0 : Int32).toNatClampNeg + i) dv := by
  rw [n32c h']
  refine List.ext_getElem? fun i => ?_
  by_cases hi : i < e
  · have : i < cs.length := by omega
    simp [hi, this, List.getElem?_take]
  · simp [hi, List.getElem?_take]
theorem take_all (xs : List Value) (vd : List Value) (e : Nat) (h : vd.length = e) (h' : e ≤ 100000) : vd.take (0 : Int32).toNatClampNeg ++ xs ++ vd.drop ((0 : Int32).toNatClampNeg + (Int32.ofNat e).toNatClampNeg) = xs := by
  rw [n32c h']
  have : (0 : Int32).toNatClampNeg = 0 := rfl
  rw [this, Nat.zero_add, ← h]; simp
end Jvm.OwnK
namespace Jvm.OwnK
open Jvm Jvm.ClassFile Sem Op Lib Jvm.Free Jvm.Stand Jvm.LawKit Jvm.RoadKit Bundle
section More
variable {l : Launch} {Z : State} {a0 : Array Value} {EL : List (String × Nat)} {y : MethodName} {Q : Option Value → Heap → Prop} {h : Heap} {sf : List Addr}
theorem Pays.more {R : Room} {as' : Array Value} {rc rs rc' rs' len W : Nat} (hP : Pays l R Z a0 EL sf y len W as' h rc rs Q) (h1 : rc ≤ rc') (h2 : rs ≤ rs') : Pays l R Z a0 EL sf y len W as' h rc' rs' Q := by
  intro p e below s args vm0 hZ H hS hE hEL m meth c A g ig mk a X hg hsize hdg hW hn hp
  obtain ⟨v, B, X', hS', hgr, ⟨L, ⟨q1, q2, q3⟩, hl, hc, hs, hr⟩, hsteps⟩ := hP p e below s args vm0 hZ H hS hE hEL m meth c A g ig mk a X hg hsize hdg hW hn ⟨hp.1, hp.2.1, Nat.le_trans (Nat.add_le_add_left h1 _) hp.2.2.1, Nat.le_trans (Nat.add_le_add_left h2 _) hp.2.2.2⟩
  exact ⟨v, (B.U, B.locs, A.cells + rc', A.slots + rs'), X'.more (by rw [hc]; exact Nat.add_le_add_left h1 _) (by rw [hs]; exact Nat.add_le_add_left h2 _), hS', hgr, ⟨L, ⟨q1, q2, q3⟩, hl, rfl, rfl, hr⟩, hsteps⟩
end More
theorem arv_start {Z : State} {args : Array Value} {t : Term} {ty : FieldType} {n : Int32} {vs : List Value} {a : Addr} (dv : Value) (hf : Fit Z) (ev : t.eval args Z none [] Z = some (.ref a)) (hx : (Cond.arrayOf t ty).value args Z none Z [] = some true) (hlen : (Term.length t).eval args Z none [] Z = some (.int n)) (hz : ¬ n < 0) (hl : n.toNatClampNeg = vs.length)
    (H : ∀ cl, Z.heap[a]? = some cl → HasL cl 0 vs) : ∃ kc, Arv Z Z.heap a kc ty n vs dv := by
  obtain ⟨cl, A⟩ := Arr.start ev hx
  obtain ⟨cl', e1, e2⟩ := length_at hlen ev
  cases A.1.symm.trans e1
  have q : cl.slots.size < 2 ^ 31 := by
    simp only [Term.eval, Option.bind_eq_bind] at hlen
    rw [ev] at hlen
    simp only [Option.bind_some] at hlen
    cases hat : Z.arrayAt? a with
    | none => simp [hat] at hlen
    | some c1 =>
      cases e1.symm.trans (State.arrayAt?_spec hat).1
      simp only [hat, Option.bind_some] at hlen
      by_cases q : cl.slots.size < 2 ^ 31
      · exact q
      · simp [q] at hlen
  exact ⟨_, Arv.start hf A q e2 hz hl (H cl e1)⟩
theorem b255L (x : Int64) : ¬ ((x &&& 255).toInt32).toUInt32.toUInt16.toUInt32.toInt32 < 0 ∧ ¬ (255 : Int32) < ((x &&& 255).toInt32).toUInt32.toUInt16.toUInt32.toInt32 := by
  have h1 := c_maskL x 255 8 (by decide) (by decide)
  have h2 := c_l2i (x &&& 255)
  have h3 := c_i2c ((x &&& 255).toInt32)
  have e : (255 : Int32).toInt = 255 := by decide
  have e0 : (0 : Int32).toInt = 0 := by decide
  have r := Int32.toInt_lt ((x &&& 255).toInt32)
  have r' := Int32.le_toInt ((x &&& 255).toInt32)
  rw [Int32.lt_iff_toInt_lt, Int32.lt_iff_toInt_lt, e, e0]
  omega
theorem rem_ushr (x q : Int32) (k : Nat) (m : Nat) (hk : q.toBitVec.toNat % 32 = k) (h0 : 0 < k) (hm : 0 < m) (hm' : m ≤ 1000) : ∃ i : Nat, i < m ∧ (((x.toUInt32 >>> (q &&& 31).toUInt32).toInt32) % Int32.ofNat m) = Int32.ofNat i := by
  have h1 := c_iushr x q k hk h0
  have h2 := c_iremV ((x.toUInt32 >>> (q &&& 31).toUInt32).toInt32) (Int32.ofNat m)
  have e := n32i (i := m) (by omega)
  have h3 := h2.1 (by rw [h1]; exact Int.ediv_nonneg (by omega) (by exact_mod_cast Nat.zero_le _)) (by rw [e]; omega)
  exact toInt_cases h3.1 (by rw [e] at h3; exact h3.2.1) hm'
end Jvm.OwnK
namespace Jvm.OwnK
open Jvm Jvm.ClassFile Sem Op Lib Jvm.Free Jvm.Stand Jvm.LawKit Jvm.RoadKit Bundle
section Z
variable {l : Launch} {Z : State} {a0 : Array Value} {EL : List (String × Nat)} {y : MethodName} {bytes : ByteArray} {maxL : Nat} {ret : Option FieldType} {rm : Room} {Q : Option Value → Heap → Prop} {h : Heap} {k n : Nat} {sf : List Addr} {pc pc' : Nat} {L : Array Slot} {S : List Value}
theorem Seg.baloadZ {a : Addr} {kc : ClassId} {z j : Int32} {vs : List Value} {dv v : Value} (F : Arv Z h a kc .boolean z vs dv) (hj : ¬ j < 0 ∧ j < z) (hv : vs.getD j.toNatClampNeg dv = v) (hd : decode bytes pc = .ok (.baload, 1)) (hp : pc + 1 = pc')
    (g : Seg l Z a0 EL y bytes maxL ret rm Q h k n sf pc' L (v :: S)) : Seg l Z a0 EL y bytes maxL ret rm Q h k n sf pc L (.int j :: .ref a :: S) := by
  subst hp
  intro p e s m args below meth c T C' w'
  obtain ⟨vm0, locs, k0, X, r1, r2, r3, r4, r⟩ := w'
  obtain ⟨cl, A, q, Sz, N, H, G⟩ := F
  exact Gl.st (X.baloadBooleans C'.1 (by rw [r1]; exact A.1) (State.isArrayOf_alike r4.alike A.2.1) A.2.2 (inb_of Sz hj) (H.at (inb_of Sz hj) hv) (g := mkF m pc L (.int j :: .ref a :: S)) rfl rfl (hb C'.2.1 hd)) (g p e s m args below meth c T C' ⟨vm0, locs, k0, X, r1, r2, r3, r4, r⟩)
theorem no_inst {C K O : String} {nn : Nat} (w : (Cond.superclass C O).before a0 Z = true) (w0 : (Cond.noSuperclass O).before a0 Z = true) (wi : (Cond.instantiable K nn).before a0 Z = true) (h1 : C ≠ K) (h2 : O ≠ K) : ∃ c t, Z.vm.findClass C = some c ∧ Z.vm.findClass K = some t ∧ Z.vm.assignable c t = false := by
  obtain ⟨t, kt, g0, g2, g5, g7, -⟩ := Cond.instantiable_spec (show (Cond.instantiable K nn).holds a0 Z none Z [] = true from wi)
  have g7' : kt.isInterface = false := by cases q : kt.isInterface <;> simp [q] at g7 ⊢
  obtain ⟨co, ko, o1, o2, o3, -, -⟩ := Cond.noSuperclass_spec w0
  have ne0 := ids_ne o1 g0 h2
  have n : NS Z O K := ⟨co, t, o1, g0, fun fuel => by cases fuel with | zero => rfl | succ f => simp [Vm.isSubclassAux, ne0, o2, o3]⟩
  obtain ⟨c, t', h0, g0', n3⟩ := NS.step w n h1
  cases g0.symm.trans g0'
  obtain ⟨p, k, kp, h1', h2', h3, h4, h5, -, h7⟩ := Cond.superclass_spec h0 w
  have ne := ids_ne h0 g0 h1
  refine ⟨c, t, h0, g0, ?_⟩
  show Z.vm.assignableAux (255 + 1) c t = false
  simp [Vm.assignableAux, ne, h2', g2, h5, g5, g7', Vm.isSubclass, n3]
end Z
theorem len_small {Z : State} {args : Array Value} {t : Term} {n : Int32} {a : Addr} (ev : t.eval args Z none [] Z = some (.ref a)) (hlen : (Term.length t).eval args Z none [] Z = some (.int n)) : ∃ cl, Z.arrayAt? a = some cl ∧ Z.heap[a]? = some cl ∧ cl.slots.size < 2 ^ 31 ∧ cl.slots.size.toInt32 = n := by
  obtain ⟨cl, e1, e2⟩ := length_at hlen ev
  simp only [Term.eval, Option.bind_eq_bind] at hlen
  rw [ev] at hlen
  simp only [Option.bind_some] at hlen
  cases hat : Z.arrayAt? a with
  | none => simp [hat] at hlen
  | some c1 =>
    cases e1.symm.trans (State.arrayAt?_spec hat).1
    simp only [hat, Option.bind_some] at hlen
    by_cases q : cl.slots.size < 2 ^ 31
    · exact ⟨cl, rfl, e1, q, e2⟩
    · simp [q] at hlen
theorem hasL_all (c : Cell) : ∀ (i : Nat) (vs : List Value), c.slots.toList.drop i = vs → HasL c i vs
  | _, [], _ => trivial
  | i, v :: r, h => by
    refine ⟨?_, hasL_all c (i + 1) r ?_⟩
    · have := congrArg (·[0]?) h
      simpa using this
    · have := congrArg (List.drop 1) h
      simpa [List.drop_drop, Nat.add_comm] using this
theorem arv_startX {Z : State} {args : Array Value} {t : Term} {ty : FieldType} {n : Int32} {a : Addr} (dv : Value) (hf : Fit Z) (ev : t.eval args Z none [] Z = some (.ref a)) (hx : (Cond.arrayOf t ty).value args Z none Z [] = some true) (hlen : (Term.length t).eval args Z none [] Z = some (.int n)) (hz : ¬ n < 0) :
    ∃ kc cl, Z.arrayAt? a = some cl ∧ Z.heap[a]? = some cl ∧ cl.slots.size = n.toNatClampNeg ∧ Arv Z Z.heap a kc ty n cl.slots.toList dv := by
  obtain ⟨cl, A⟩ := Arr.start ev hx
  obtain ⟨cl', e0, e1, q, e2⟩ := len_small ev hlen
  cases A.1.symm.trans e1
  have S : cl.slots.size = n.toNatClampNeg := by rw [← e2]; simp only [Int32.toNatClampNeg, len_toInt q]; rfl
  exact ⟨_, cl, e0, e1, S, Arv.start hf A q e2 hz (by rw [← S]; simp) (hasL_all cl 0 _ rfl)⟩
theorem all_rng {Z : State} {args : Array Value} {t : Term} {a : Addr} {cl : Cell} {lo hi v : Int32} (ev : ∀ i, t.eval args Z none [i] Z = some (.ref a)) (ev0 : t.eval args Z none [] Z = some (.ref a)) (hat : Z.arrayAt? a = some cl) (hc : Z.heap[a]? = some cl)
    (h : (Cond.all t (.or (.lt (.index 0) (.int lo)) (.or (.le (.int hi) (.index 0)) (.eq (.elem t (.index 0)) (.int v))))).value args Z none Z [] = some true) {i : Nat} (hi' : i < cl.slots.size) (hs : i ≤ 100000) (h1 : ¬ Int32.ofNat i < lo) (h2 : Int32.ofNat i < hi) : cl.slots[i]? = some (.int v) := by
  have q := Cond.all_elim ev0 hat h i hi'
  have ei : (Term.index 0).eval args Z none [i] Z = some (.int (Int32.ofNat i)) := by simp [Term.eval]
  have h2' : ¬ hi ≤ Int32.ofNat i := Int32.not_le.mpr h2
  have e1 : (Cond.lt (.index 0) (.int lo)).value args Z none Z [i] = some false := by rw [Cond.lt_ints ei (Term.int_eval lo)]; simp [h1]
  have e2 : (Cond.le (.int hi) (.index 0)).value args Z none Z [i] = some false := by rw [Cond.le_ints (Term.int_eval hi) ei]; simp [h2]
  rw [Cond.or_of_right e1, Cond.or_of_right e2] at q
  obtain ⟨x, y, g1, g2, g3, -⟩ := cmp_v (Or.inl q)
  have r := (elem_in g1 (ev i) ei hc).2
  rw [n32c hs] at r
  rw [r]
  cases g2
  cases x <;> simp [Cond.value, g1, Term.int_eval] at q ⊢
  exact q
end Jvm.OwnK
namespace Jvm.OwnK
open Jvm Jvm.ClassFile Sem Op Lib Jvm.Free Jvm.Stand Jvm.LawKit Jvm.RoadKit Bundle
section A
variable {l : Launch} {Z : State} {a0 : Array Value} {EL : List (String × Nat)} {y : MethodName} {bytes : ByteArray} {maxL : Nat} {ret : Option FieldType} {rm : Room} {Q : Option Value → Heap → Prop} {h : Heap} {k n : Nat} {sf : List Addr} {pc pc' : Nat} {L : Array Slot} {S : List Value}
theorem safe_arr {vm : Vm} {r : Addr} {kr : ClassId} {ty : FieldType} {z : Int32} {vs : List Value} {d : Value} (hZ : Z.Warmed39 vm) (hw : ∀ p ∈ EL, ∃ text : String, (Cond.stringLink p.1 p.2 text).before a0 Z = true ∧ (∀ c ∈ text.toList, c.toNat < 256) ∧ ¬ text.toList.length = z.toNatClampNeg) (F : Arv Z h r kr ty z vs d) : Safe Z EL vm h r := by
  rintro ⟨p, hp, u, a, ⟨c, k', cf, i, hc', hk', hcf', hpool, hu, hor⟩, q, hqa, B, hy⟩
  obtain ⟨text, wl, ht, hlen⟩ := hw p hp
  obtain ⟨cl, A, q1, Sz, N, H, G⟩ := F
  rcases hy with rfl | rfl
  · have hA : h[q.sa]? = some q.sC := B.ha
    obtain rfl : cl = q.sC := Option.some.inj (A.1.symm.trans hA)
    obtain ⟨cS, S1, ⟨kS, e1, e2, e3⟩, -⟩ := B
    obtain ⟨hs, k, hk, comp, hkind⟩ := A.2.1
    obtain ⟨k2, e4, e5⟩ := hZ.alike.2.2 _ _ hk
    rw [S1.2.2] at e4
    cases e1.symm.trans e4
    rw [e5] at e2
    exact absurd (hkind.symm.trans e2) (fun q => nomatch q)
  · have hD : h[q.sd]? = some q.SA := B.hd
    obtain rfl : cl = q.SA := Option.some.inj (A.1.symm.trans hD)
    obtain ⟨cS, -, -, -, e4⟩ := B
    have wl' : (Cond.stringLink p.1 p.2 text).before a0 (Wst Z vm h) = true := mvS (s := { Z with heap := h }) hZ wl
    obtain ⟨k, cf0, i0, units0, hk, hcf, hp0, hu0, hnm, htext, -⟩ := Cond.stringLink_spec (s := Wst Z vm h) hc' wl'
    cases hk'.symm.trans hk
    cases hcf'.symm.trans hcf
    cases hpool.symm.trans hp0
    cases hu.symm.trans hu0
    have hlat := Jvm.ClassFile.lat_of_text htext ht
    have hun := Jvm.ClassFile.units_of_text htext ht
    refine hlen ?_
    rw [← Sz, e4]
    simp only [stringBytes, hlat, if_true, Array.size_map]
    rw [← Array.length_toList, hun, List.length_map]
theorem Seg.adopt {r : Addr} {kr : ClassId} {ty : FieldType} {z : Int32} {vs : List Value} {d : Value} (F : Arv Z h r kr ty z vs d) (hr : Ext Z.heap h → Z.heap.size ≤ r) (hw : ∀ p ∈ EL, ∃ text : String, (Cond.stringLink p.1 p.2 text).before a0 Z = true ∧ (∀ c ∈ text.toList, c.toNat < 256) ∧ ¬ text.toList.length = z.toNatClampNeg)
    (g : Seg l Z a0 EL y bytes maxL ret rm Q h k n (r :: sf) pc L S) : Seg l Z a0 EL y bytes maxL ret rm Q h k n sf pc L S := by
  intro p e s m args below meth c T C' w'
  obtain ⟨vm0, locs, k0, X, r1, r2, r3, r4, r5, r6, r7, r8, r9, r10⟩ := w'
  exact g p e s m args below meth c T C' ⟨vm0, locs, k0, X, r1, r2, r3, r4, r5, r6, r7, r8, r9, r10.cons (hr r8) F.lt (safe_arr r4 hw F)⟩
end A
end Jvm.OwnK
/- laws to paste: Road.backV, Road.codOf, Road.chN (cut by pick.py; bodies as the Statement names them) -/
namespace Jvm.Pilot.@@N@@
namespace StrChars
open Jvm Sem ClassFile Op Lib Jvm.Stand Jvm.Free.XT Jvm.Free.ALB Jvm.Free.JM Jvm.Free
open Jvm.Lib.Cold (StaticIs)
/-- a char array whose places are chars -/
def Ch (a : Addr) (A : Cell) (U : State) : Prop := Arr .char a A U ∧ Typed .char A
theorem Ch.mv {a : Addr} {A : Cell} {U U' : State} (h : Ch a A U) (hal : U.vm.Alike U'.vm) (hh : U'.heap = U.heap) : Ch a A U' := ⟨h.1.mv hal hh, h.2⟩
theorem Ch.keep {a : Addr} {A : Cell} {U U' : State} (h : Ch a A U) (hal : U.vm.Alike U'.vm) (hk : U'.heap[a]? = some A) : Ch a A U' := ⟨h.1.keep hal hk, h.2⟩
/-- what place i of a char[]'s cell holds -/
def cv (A : Cell) (i : Nat) : Int32 := match A.slots[i]? with | some (.int x) => x | _ => 0
theorem Ch.get {a : Addr} {A : Cell} {U : State} (h : Ch a A U) {i : Nat} (hi : i < A.slots.size) : A.slots[i]? = some (.int (cv A i)) := by
  have e := Array.getElem?_eq_getElem hi
  have f := h.2 i _ e
  unfold cv; rw [e]
  generalize A.slots[i] = v at f
  cases v <;> simp [fits] at f ⊢
/-- the byte that i2b leaves of a char -/
def lo8 (x : Int32) : Int32 := x.toInt8.toInt32
theorem fits_lo8 (y : Int32) : fits .byte (.int (lo8 y)) = true := by
  have h1 := y.toInt8.le_toInt
  have h2 := y.toInt8.toInt_lt
  simp only [lo8, fits, Bool.and_eq_true, decide_eq_true_eq, Int32.le_iff_toInt_le, Int8.toInt_toInt32, show (-128 : Int32).toInt = -128 from by decide, show (127 : Int32).toInt = 127 from by decide]
  omega
/-- A' is A but that each place j of lo .. hi - 1 holds f j -/
def Laid (A A' : Cell) (lo hi : Nat) (f : Nat → Value) : Prop := A'.cls = A.cls ∧ A'.vm = A.vm ∧ A'.slots.size = A.slots.size ∧ ∀ i, A'.slots[i]? = if lo ≤ i ∧ i < hi then some (f i) else A.slots[i]?
theorem Laid.zero (A : Cell) (lo : Nat) (f : Nat → Value) : Laid A A lo (lo + 0) f := ⟨rfl, rfl, rfl, fun i => by rw [if_neg (by omega)]⟩
theorem Laid.step {A Ak : Cell} {lo k : Nat} {f : Nat → Value} {v : Value} (h : Laid A Ak lo k f) (hlo : lo ≤ k) (hk : k < Ak.slots.size) (hv : v = f k) : Laid A (Ak.setSlot k v) lo (k + 1) f := by
  refine ⟨h.1, h.2.1, by simpa [Cell.setSlot] using h.2.2.1, fun i => ?_⟩
  by_cases e : k = i
  · subst e; rw [Cell.slots_setSlot_self v hk, if_pos (by omega), hv]
  · rw [Cell.slots_setSlot_ne v e, h.2.2.2 i]
    by_cases q : lo ≤ i ∧ i < k
    · rw [if_pos q, if_pos (by omega)]
    · rw [if_neg q, if_neg (by omega)]
def U16 : String := "java/lang/StringUTF16"
namespace Cmp5
def yN : MethodName := ⟨"java/lang/StringUTF16", "compress", "([CI[BII)I"⟩
abbrev yB : ByteArray := jdk_52_method_21_code
theorem d0 : decode yB 0 = .ok (.iconst 0, 1) := by decide +kernel
theorem d1 : decode yB 1 = .ok (.istore 5, 2) := by decide +kernel
theorem d3 : decode yB 3 = .ok (.iload 5, 2) := by decide +kernel
theorem d5 : decode yB 5 = .ok (.iload 4, 2) := by decide +kernel
theorem d7 : decode yB 7 = .ok (.if_icmp (.ge) 37, 3) := by decide +kernel
theorem d10 : decode yB 10 = .ok (.aload_n 0, 1) := by decide +kernel
theorem d11 : decode yB 11 = .ok (.iload_n 1, 1) := by decide +kernel
theorem d12 : decode yB 12 = .ok (.caload, 1) := by decide +kernel
theorem d13 : decode yB 13 = .ok (.istore 6, 2) := by decide +kernel
theorem d15 : decode yB 15 = .ok (.iload 6, 2) := by decide +kernel
theorem d17 : decode yB 17 = .ok (.sipush 255, 3) := by decide +kernel
theorem d20 : decode yB 20 = .ok (.if_icmp (.le) 6, 3) := by decide +kernel
theorem d26 : decode yB 26 = .ok (.aload_n 2, 1) := by decide +kernel
theorem d27 : decode yB 27 = .ok (.iload_n 3, 1) := by decide +kernel
theorem d28 : decode yB 28 = .ok (.iload 6, 2) := by decide +kernel
theorem d30 : decode yB 30 = .ok (.i2b, 1) := by decide +kernel
theorem d31 : decode yB 31 = .ok (.bastore, 1) := by decide +kernel
theorem d32 : decode yB 32 = .ok (.iinc 1 1, 3) := by decide +kernel
theorem d35 : decode yB 35 = .ok (.iinc 3 1, 3) := by decide +kernel
theorem d38 : decode yB 38 = .ok (.iinc 5 1, 3) := by decide +kernel
theorem d41 : decode yB 41 = .ok (.goto (-38), 3) := by decide +kernel
theorem d44 : decode yB 44 = .ok (.iload 4, 2) := by decide +kernel
theorem d46 : decode yB 46 = .ok (.ireturn, 1) := by decide +kernel
def site : List Cond := []
def tab : Cond := tabOf yN yB 7 (some .int) site
def P (b : Addr) (A : Cell) (d : Addr) (B : Cell) (o q len : Nat) (args : Array Value) (s : State) : Prop := args = #[.ref b, .int (Int32.ofNat o), .ref d, .int (Int32.ofNat q), .int (Int32.ofNat len)] ∧ Ch b A s ∧ Arr .byte d B s ∧ b ≠ d ∧ o + len ≤ A.slots.size ∧ q + len ≤ B.slots.size ∧ ∀ i, i < len → ¬ 255 < cv A (o + i)
def E (b : Addr) (A : Cell) (d : Addr) (B : Cell) (o q len : Nat) (r : Option Value) (s u : State) : Prop := r = some (.int (Int32.ofNat len)) ∧ ∃ B', Put d B' s u ∧ Laid B B' q (q + len) (fun j => Value.int (lo8 (cv A (o + (j - q)))))
/-- no char of the range above 255: len; the places written hold each char's low byte -/
theorem law (l : Launch) (b : Addr) (A : Cell) (d : Addr) (B : Cell) (o q len : Nat) : Law l yN 5 5 0 0 yB 7 (some .int) site (P b A d B o q len) (E b A d B o q len) (copyLocs d q len) 0 0 := by
  refine Law.of_walk (plainFor_of_name (by decide +kernel)) (by decide +kernel) (by decide +kernel) (by decide) (fun _ _ h => by rw [h.1]; rfl) (fun _ U U' hal hh h => ⟨h.1, h.2.1.mv hal hh, h.2.2.1.mv hal hh, h.2.2.2⟩) (fun r U U' V V' h1 hal h2 h => ⟨h.1, h.2.elim fun B' q => ⟨B', q.1.mv h1 h2, q.2⟩⟩) ?_
  intro p e s m args below meth c s₁ X0 hexec hbytes hml hret hlk hnm hown hh0 W hP
  obtain ⟨rfl, hA, hB, hne, l1, l2, hp⟩ := hP
  have c1 : Steps p.tables e below (s₁.setTop (entryFrame m #[.ref b, .int (Int32.ofNat o), .ref d, .int (Int32.ofNat q), .int (Int32.ofNat len)] 7)) (s₁.setTop (mkF m 0 #[.val (.ref b), .val (.int (Int32.ofNat o)), .val (.ref d), .val (.int (Int32.ofNat q)), .val (.int (Int32.ofNat len)), .unset, .unset] [])) := entry rfl
  have hA0 := hA.1.mv X0.warmed.alike hh0
  have hB0 := hB.mv X0.warmed.alike hh0
  have a31 := hA.1.2.2.2
  have c2 : Steps p.tables e below (s₁.setTop (entryFrame m #[.ref b, .int (Int32.ofNat o), .ref d, .int (Int32.ofNat q), .int (Int32.ofNat len)] 7)) (s₁.setTop (mkF m 3 #[.val (.ref b), .val (.int (Int32.ofNat o)), .val (.ref d), .val (.int (Int32.ofNat q)), .val (.int (Int32.ofNat len)), .val (.int 0), .unset] [])) := c1.trans (by
    refine iconstV X0.here hexec rfl 0 (hb hbytes d0) (by decide) ?_
    refine XS.istore X0.here hexec rfl (hb hbytes d1) rfl rfl ?_
    exact Steps.refl _)
  have loop : ∀ (r i : Nat), i + r = len → ∀ (z : Slot), (z = .unset ∨ ∃ w, z = .val w ∧ w.category = 1) → ∀ (Tl : State) (Bk : Cell), Stand p l e { frames := 0, locals := 0, cells := 0, slots := 0 } s m #[.ref b, .int (Int32.ofNat o), .ref d, .int (Int32.ofNat q), .int (Int32.ofNat len)] below meth c Tl ([] ++ copyLocs d q i) 0 0 → Put d Bk s₁ Tl → Laid B Bk q (q + i) (fun j => Value.int (lo8 (cv A (o + (j - q))))) →
      Steps p.tables e below (s₁.setTop (entryFrame m #[.ref b, .int (Int32.ofNat o), .ref d, .int (Int32.ofNat q), .int (Int32.ofNat len)] 7)) (Tl.setTop (mkF m 3 #[.val (.ref b), .val (.int (Int32.ofNat (o + i))), .val (.ref d), .val (.int (Int32.ofNat (q + i))), .val (.int (Int32.ofNat len)), .val (.int (Int32.ofNat i)), z] [])) → ∃ (T' : State) (B' : Cell) (z' : Slot), Stand p l e { frames := 0, locals := 0, cells := 0, slots := 0 } s m #[.ref b, .int (Int32.ofNat o), .ref d, .int (Int32.ofNat q), .int (Int32.ofNat len)] below meth c T' ([] ++ copyLocs d q len) 0 0 ∧ Put d B' s₁ T' ∧ Laid B B' q (q + len) (fun j => Value.int (lo8 (cv A (o + (j - q))))) ∧
      Steps p.tables e below (s₁.setTop (entryFrame m #[.ref b, .int (Int32.ofNat o), .ref d, .int (Int32.ofNat q), .int (Int32.ofNat len)] 7)) (T'.setTop (mkF m 3 #[.val (.ref b), .val (.int (Int32.ofNat (o + len))), .val (.ref d), .val (.int (Int32.ofNat (q + len))), .val (.int (Int32.ofNat len)), .val (.int (Int32.ofNat len)), z'] [])) := by
    intro r
    induction r with
    | zero =>
      intro i hi z hz Tl Bk Xl pl fl cl
      have hil : i = len := by omega
      rw [hil] at Xl fl cl
      exact ⟨Tl, Bk, z, Xl, pl, fl, cl⟩
    | succ r ih =>
      intro i hi z hz Tl Bk Xl pl fl cl
      have all := X0.warmed.alike.symm.trans Xl.warmed.alike
      have hAl := hA0.keep all (pl.other hne hA0.1)
      have hBk := hB0.like all pl.1 fl.1 fl.2.1 fl.2.2.1
      have hlt : q + i < Bk.slots.size := by rw [fl.2.2.1]; omega
      have c3 : Steps p.tables e below (s₁.setTop (entryFrame m #[.ref b, .int (Int32.ofNat o), .ref d, .int (Int32.ofNat q), .int (Int32.ofNat len)] 7)) (Tl.setTop (mkF m 12 #[.val (.ref b), .val (.int (Int32.ofNat (o + i))), .val (.ref d), .val (.int (Int32.ofNat (q + i))), .val (.int (Int32.ofNat len)), .val (.int (Int32.ofNat i)), z] [.int (Int32.ofNat (o + i)), .ref b])) := cl.trans (by
        refine XS.iload Xl.here hexec rfl (hb hbytes d3) rfl ?_
        refine XS.iload Xl.here hexec rfl (hb hbytes d5) rfl ?_
        refine XS.icmpNo Xl.here hexec rfl (hb hbytes d7) rfl (ii_ge_f (lt32 (by omega) (by omega))) ?_
        refine XS.aloadN Xl.here hexec rfl (hb hbytes d10) rfl rfl ?_
        refine XS.iloadN Xl.here hexec rfl (hb hbytes d11) rfl ?_
        exact Steps.refl _)
      have c4 : Steps p.tables e below (s₁.setTop (entryFrame m #[.ref b, .int (Int32.ofNat o), .ref d, .int (Int32.ofNat q), .int (Int32.ofNat len)] 7)) (Tl.setTop (mkF m 13 #[.val (.ref b), .val (.int (Int32.ofNat (o + i))), .val (.ref d), .val (.int (Int32.ofNat (q + i))), .val (.int (Int32.ofNat len)), .val (.int (Int32.ofNat i)), z] [.int (cv A (o + i))])) := c3.trans (by
        refine Xl.aget hexec hAl rfl (hA.get (i := o + i) (by omega)) rfl rfl (hb hbytes d12) ?_
        exact Steps.refl _)
      have c5 : Steps p.tables e below (s₁.setTop (entryFrame m #[.ref b, .int (Int32.ofNat o), .ref d, .int (Int32.ofNat q), .int (Int32.ofNat len)] 7)) (Tl.setTop (mkF m 15 #[.val (.ref b), .val (.int (Int32.ofNat (o + i))), .val (.ref d), .val (.int (Int32.ofNat (q + i))), .val (.int (Int32.ofNat len)), .val (.int (Int32.ofNat i)), .val (.int (cv A (o + i)))] [])) := c4.trans (by
        refine XS.istoreS Xl.here hexec rfl (hb hbytes d13) rfl rfl hz ?_
        exact Steps.refl _)
      have c6 : Steps p.tables e below (s₁.setTop (entryFrame m #[.ref b, .int (Int32.ofNat o), .ref d, .int (Int32.ofNat q), .int (Int32.ofNat len)] 7)) (Tl.setTop (mkF m 31 #[.val (.ref b), .val (.int (Int32.ofNat (o + i))), .val (.ref d), .val (.int (Int32.ofNat (q + i))), .val (.int (Int32.ofNat len)), .val (.int (Int32.ofNat i)), .val (.int (cv A (o + i)))] [.int (lo8 (cv A (o + i))), .int (Int32.ofNat (q + i)), .ref d])) := c5.trans (by
        refine XS.iload Xl.here hexec rfl (hb hbytes d15) rfl ?_
        refine sipushV Xl.here hexec rfl 255 (hb hbytes d17) (by decide) ?_
        refine XS.icmpYes Xl.here hexec rfl (pc0 := 20) rfl (hb hbytes d20) rfl (ii_le_t (hp i (by omega))) (by decide) rfl ?_
        refine XS.aloadN Xl.here hexec rfl (hb hbytes d26) rfl rfl ?_
        refine XS.iloadN Xl.here hexec rfl (hb hbytes d27) rfl ?_
        refine XS.iload Xl.here hexec rfl (hb hbytes d28) rfl ?_
        refine i2b Xl.here hexec rfl (hb hbytes d30) rfl ?_
        exact Steps.refl _)
      obtain ⟨T7, X7, p7, st7⟩ := Xl.aput hexec hBk rfl hlt rfl (fits_lo8 (cv A (o + i))) (g := (mkF m 31 #[.val (.ref b), .val (.int (Int32.ofNat (o + i))), .val (.ref d), .val (.int (Int32.ofNat (q + i))), .val (.int (Int32.ofNat len)), .val (.int (Int32.ofNat i)), .val (.int (cv A (o + i)))] [.int (lo8 (cv A (o + i))), .int (Int32.ofNat (q + i)), .ref d])) rfl (rest := []) rfl (hb hbytes d31)
      have c8 : Steps p.tables e below (s₁.setTop (entryFrame m #[.ref b, .int (Int32.ofNat o), .ref d, .int (Int32.ofNat q), .int (Int32.ofNat len)] 7)) (T7.setTop (mkF m 32 #[.val (.ref b), .val (.int (Int32.ofNat (o + i))), .val (.ref d), .val (.int (Int32.ofNat (q + i))), .val (.int (Int32.ofNat len)), .val (.int (Int32.ofNat i)), .val (.int (cv A (o + i)))] [])) := c6.trans (st7 _ (Steps.refl _))
      have c9 : Steps p.tables e below (s₁.setTop (entryFrame m #[.ref b, .int (Int32.ofNat o), .ref d, .int (Int32.ofNat q), .int (Int32.ofNat len)] 7)) (T7.setTop (mkF m 3 #[.val (.ref b), .val (.int (Int32.ofNat (o + i) + 1)), .val (.ref d), .val (.int (Int32.ofNat (q + i) + 1)), .val (.int (Int32.ofNat len)), .val (.int (Int32.ofNat i + 1)), .val (.int (cv A (o + i)))] [])) := c8.trans (by
        refine iincV X7.here hexec rfl 1 (hb hbytes d32) (by decide) rfl rfl ?_
        refine iincV X7.here hexec rfl 1 (hb hbytes d35) (by decide) rfl rfl ?_
        refine iincV X7.here hexec rfl 1 (hb hbytes d38) (by decide) rfl rfl ?_
        refine XS.goto X7.here hexec rfl (pc0 := 41) rfl (hb hbytes d41) (by decide) rfl ?_
        exact Steps.refl _)
      have c10 : Steps p.tables e below (s₁.setTop (entryFrame m #[.ref b, .int (Int32.ofNat o), .ref d, .int (Int32.ofNat q), .int (Int32.ofNat len)] 7)) (T7.setTop (mkF m 3 #[.val (.ref b), .val (.int (Int32.ofNat (o + (i + 1)))), .val (.ref d), .val (.int (Int32.ofNat (q + (i + 1)))), .val (.int (Int32.ofNat len)), .val (.int (Int32.ofNat (i + 1))), .val (.int (cv A (o + i)))] [])) := by
        have := c9
        rw [succ32, succ32, succ32] at this
        exact this
      exact ih (i + 1) (by omega) _ (Or.inr ⟨_, rfl, rfl⟩) T7 _ (by rw [copyLocs_step, ← List.append_assoc]; exact X7) (pl.trans p7) (fl.step (by omega) hlt (by simp)) c10
  obtain ⟨T9, B9, z9, X9, p9, f9, g9⟩ := loop len 0 (by omega) .unset (Or.inl rfl) s₁ B (by simpa [copyLocs] using X0) ⟨hB0.1, fun _ _ => rfl, rfl⟩ (Laid.zero _ _ _) c2
  have c11 : Steps p.tables e below (s₁.setTop (entryFrame m #[.ref b, .int (Int32.ofNat o), .ref d, .int (Int32.ofNat q), .int (Int32.ofNat len)] 7)) (T9.setTop (mkF m 46 #[.val (.ref b), .val (.int (Int32.ofNat (o + len))), .val (.ref d), .val (.int (Int32.ofNat (q + len))), .val (.int (Int32.ofNat len)), .val (.int (Int32.ofNat len)), z9] [.int (Int32.ofNat len)])) := g9.trans (by
    refine XS.iload X9.here hexec rfl (hb hbytes d3) rfl ?_
    refine XS.iload X9.here hexec rfl (hb hbytes d5) rfl ?_
    refine XS.icmpYes X9.here hexec rfl (pc0 := 7) rfl (hb hbytes d7) rfl (ii_ge_t (nlt32 (by omega) (Nat.le_refl _))) (by decide) rfl ?_
    refine XS.iload X9.here hexec rfl (hb hbytes d44) rfl ?_
    exact Steps.refl _)
  exact ⟨T9, some (.int (Int32.ofNat len)), _, _, _, X9, by simp, rfl, rfl, (fun h => by cases h), ⟨rfl, B9, p9.from hh0, f9⟩, fun fs hl => c11.trans (X9.ireturnOut hexec hret rfl (Or.inl rfl) (hb hbytes d46) hl)⟩
end Cmp5
namespace Cmp3
def yN : MethodName := ⟨"java/lang/StringUTF16", "compress", "([CII)[B"⟩
abbrev yB : ByteArray := jdk_52_method_16_code
theorem d0 : decode yB 0 = .ok (.iload_n 2, 1) := by decide +kernel
theorem d1 : decode yB 1 = .ok (.newarray .byte, 2) := by decide +kernel
theorem d3 : decode yB 3 = .ok (.astore_n 3, 1) := by decide +kernel
theorem d4 : decode yB 4 = .ok (.aload_n 0, 1) := by decide +kernel
theorem d5 : decode yB 5 = .ok (.iload_n 1, 1) := by decide +kernel
theorem d6 : decode yB 6 = .ok (.aload_n 3, 1) := by decide +kernel
theorem d7 : decode yB 7 = .ok (.iconst 0, 1) := by decide +kernel
theorem d8 : decode yB 8 = .ok (.iload_n 2, 1) := by decide +kernel
theorem d9 : decode yB 9 = .ok (.invokestatic 115, 3) := by decide +kernel
theorem d12 : decode yB 12 = .ok (.istore 4, 2) := by decide +kernel
theorem d14 : decode yB 14 = .ok (.iload 4, 2) := by decide +kernel
theorem d16 : decode yB 16 = .ok (.iload_n 2, 1) := by decide +kernel
theorem d17 : decode yB 17 = .ok (.if_icmp (.eq) 40, 3) := by decide +kernel
theorem d57 : decode yB 57 = .ok (.aload_n 3, 1) := by decide +kernel
theorem d58 : decode yB 58 = .ok (.areturn, 1) := by decide +kernel
def site : List Cond := [.arrayClass .byte, Cmp5.tab] ++ staticW U16 115 Cmp5.yN
def tab : Cond := tabOf yN yB 6 (some (.array .byte)) site
def P (b : Addr) (A : Cell) (o len : Nat) (args : Array Value) (s : State) : Prop := args = #[.ref b, .int (Int32.ofNat o), .int (Int32.ofNat len)] ∧ Ch b A s ∧ o + len ≤ A.slots.size ∧ len ≤ 536870912 ∧ ∀ i, i < len → ¬ 255 < cv A (o + i)
def E (b : Addr) (A : Cell) (o len : Nat) (r : Option Value) (s u : State) : Prop := NewArr .byte "[B" len (fun j => .int (lo8 (cv A (o + j)))) r s u ∧ u.heap.size = s.heap.size + 1
/-- no char of the range above 255: a new byte[] of their low bytes -/
theorem law (l : Launch) (b : Addr) (A : Cell) (o len : Nat) : Law l yN 3 3 1 18 yB 6 (some (.array .byte)) site (P b A o len) (E b A o len) [] 1 len := by
  refine Law.of_walk (plainFor_of_name (by decide +kernel)) (by decide +kernel) (by decide +kernel) (by decide) (fun _ _ h => by rw [h.1]; rfl) (fun _ U U' hal hh h => ⟨h.1, h.2.1.mv hal hh, h.2.2⟩) (fun r U U' V V' h1 hal h2 h => ⟨NewArr.mv r U U' V V' h1 hal h2 h.1, by rw [h1, h2]; exact h.2⟩) ?_
  intro p e s m args below meth c s₁ X0 hexec hbytes hml hret hlk hnm hown hh0 W hP
  obtain ⟨rfl, hA, l1, l2, hp⟩ := hP
  have a31 := hA.1.2.2.2
  have c1 : Steps p.tables e below (s₁.setTop (entryFrame m #[.ref b, .int (Int32.ofNat o), .int (Int32.ofNat len)] 6)) (s₁.setTop (mkF m 0 #[.val (.ref b), .val (.int (Int32.ofNat o)), .val (.int (Int32.ofNat len)), .unset, .unset, .unset] [])) := entry rfl
  have c2 : Steps p.tables e below (s₁.setTop (entryFrame m #[.ref b, .int (Int32.ofNat o), .int (Int32.ofNat len)] 6)) (s₁.setTop (mkF m 1 #[.val (.ref b), .val (.int (Int32.ofNat o)), .val (.int (Int32.ofNat len)), .unset, .unset, .unset] [.int (Int32.ofNat len)])) := c1.trans (by
    refine XS.iloadN X0.here hexec rfl (hb hbytes d0) rfl ?_
    exact Steps.refl _)
  obtain ⟨T3, B3, X3, ba3, bs3, bv3, bh3, bf3, st3⟩ := X0.anew hexec (atype := .byte) (wk W (.arrayClass .byte)) rfl (by show len * 1 ≤ _; omega) (by omega) (g := (mkF m 1 #[.val (.ref b), .val (.int (Int32.ofNat o)), .val (.int (Int32.ofNat len)), .unset, .unset, .unset] [.int (Int32.ofNat len)])) rfl (hb hbytes d1) (rest := []) rfl (Nat.le_refl _) (by show 0 + len ≤ len; omega)
  rw [hh0] at ba3 st3
  have kp3 : XT.Kept s T3 := (XT.Kept.of_eq hh0).push bh3
  have hA3 := hA.keep X3.warmed.alike (kp3 _ _ hA.1.1)
  have hne : b ≠ s.heap.size := hA.1.ne
  have c4 : Steps p.tables e below (s₁.setTop (entryFrame m #[.ref b, .int (Int32.ofNat o), .int (Int32.ofNat len)] 6)) (T3.setTop (mkF m 3 #[.val (.ref b), .val (.int (Int32.ofNat o)), .val (.int (Int32.ofNat len)), .unset, .unset, .unset] [.ref s.heap.size])) := c2.trans (st3 _ (Steps.refl _))
  have c5 : Steps p.tables e below (s₁.setTop (entryFrame m #[.ref b, .int (Int32.ofNat o), .int (Int32.ofNat len)] 6)) (T3.setTop (mkF m 9 #[.val (.ref b), .val (.int (Int32.ofNat o)), .val (.int (Int32.ofNat len)), .val (.ref s.heap.size), .unset, .unset] [.int (Int32.ofNat len), .int 0, .ref s.heap.size, .int (Int32.ofNat o), .ref b])) := c4.trans (by
    refine XS.astoreN X3.here hexec rfl (hb hbytes d3) rfl rfl rfl ?_
    refine XS.aloadN X3.here hexec rfl (hb hbytes d4) rfl rfl ?_
    refine XS.iloadN X3.here hexec rfl (hb hbytes d5) rfl ?_
    refine XS.aloadN X3.here hexec rfl (hb hbytes d6) rfl rfl ?_
    refine iconstV X3.here hexec rfl 0 (hb hbytes d7) (by decide) ?_
    refine XS.iloadN X3.here hexec rfl (hb hbytes d8) rfl ?_
    exact Steps.refl _)
  obtain ⟨v6, T6, X6, E6, g6⟩ := X3.callS hexec (Cmp5.law l b A s.heap.size B3 o 0 len) hown (wks W (staticW U16 115 Cmp5.yN)) (wk W Cmp5.tab) (W := 0) (Nat.le_of_ble_eq_true rfl) (Nat.le_of_ble_eq_true rfl) (Nat.le_refl _) (by show 0 + len + 0 ≤ len; omega) (g := (mkF m 9 #[.val (.ref b), .val (.int (Int32.ofNat o)), .val (.int (Int32.ofNat len)), .val (.ref s.heap.size), .unset, .unset] [.int (Int32.ofNat len), .int (Int32.ofNat 0), .ref s.heap.size, .int (Int32.ofNat o), .ref b])) rfl (by rw [hml]; rfl) c5 (argsL := [.ref b, .int (Int32.ofNat o), .ref s.heap.size, .int (Int32.ofNat 0), .int (Int32.ofNat len)]) (rest := []) rfl rfl (by show 2 * 0 + 0 ≤ _; decide) (hb hbytes d9) (⟨rfl, hA3, ba3, hne, l1, by rw [bs3]; simp, hp⟩)
  obtain ⟨rfl, B6, p6, f6⟩ := E6
  have c7 : Steps p.tables e below (s₁.setTop (entryFrame m #[.ref b, .int (Int32.ofNat o), .int (Int32.ofNat len)] 6)) (T6.setTop (mkF m 12 #[.val (.ref b), .val (.int (Int32.ofNat o)), .val (.int (Int32.ofNat len)), .val (.ref s.heap.size), .unset, .unset] [.int (Int32.ofNat len)])) := g6
  have c8 : Steps p.tables e below (s₁.setTop (entryFrame m #[.ref b, .int (Int32.ofNat o), .int (Int32.ofNat len)] 6)) (T6.setTop (mkF m 58 #[.val (.ref b), .val (.int (Int32.ofNat o)), .val (.int (Int32.ofNat len)), .val (.ref s.heap.size), .val (.int (Int32.ofNat len)), .unset] [.ref s.heap.size])) := c7.trans (by
    refine XS.istore X6.here hexec rfl (hb hbytes d12) rfl rfl ?_
    refine XS.iload X6.here hexec rfl (hb hbytes d14) rfl ?_
    refine XS.iloadN X6.here hexec rfl (hb hbytes d16) rfl ?_
    refine XS.icmpYes X6.here hexec rfl (pc0 := 17) rfl (hb hbytes d17) rfl (ii_eq_t rfl) (by decide) rfl ?_
    refine XS.aloadN X6.here hexec rfl (hb hbytes d57) rfl rfl ?_
    exact Steps.refl _)
  have X8 := X6.wide (L' := []) (cells' := 1) (slots' := len) (fun x hx hlt => by
    simp only [List.nil_append, copyLocs, List.mem_map, List.mem_range] at hx
    obtain ⟨i, -, rfl⟩ := hx
    exact absurd hlt (Nat.lt_irrefl _)) (Nat.le_refl _) (by omega)
  exact ⟨T6, some (.ref s.heap.size), _, _, _, X8, rfl, rfl, rfl, (fun h => by cases h), ⟨⟨rfl, B6, ba3.like (X3.warmed.alike.symm.trans X6.warmed.alike) p6.1 f6.1 f6.2.1 f6.2.2.1, f6.2.1.trans bv3, by rw [X6.warmed.alike.findClass, f6.1]; exact bf3, by rw [f6.2.2.1, bs3]; simp, fun j hj => by rw [f6.2.2.2 j, if_pos (by omega)]; rfl, kp3.put p6 (Nat.le_refl _)⟩, by rw [p6.2.2, bh3, hh0]; simp⟩, fun fs hl => c8.trans (X8.areturnOut hexec rfl hret rfl (hb hbytes d58) hl)⟩
end Cmp3
namespace CodL
def yN : MethodName := ⟨"java/lang/StringUTF16", "coderFromArrayLen", "([BI)B"⟩
abbrev yB : ByteArray := jdk_52_method_15_code
theorem d0 : decode yB 0 = .ok (.iload_n 1, 1) := by decide +kernel
theorem d1 : decode yB 1 = .ok (.aload_n 0, 1) := by decide +kernel
theorem d2 : decode yB 2 = .ok (.arraylength, 1) := by decide +kernel
theorem d3 : decode yB 3 = .ok (.isub, 1) := by decide +kernel
theorem d4 : decode yB 4 = .ok (.bipush 31, 2) := by decide +kernel
theorem d6 : decode yB 6 = .ok (.iushr, 1) := by decide +kernel
theorem d7 : decode yB 7 = .ok (.i2b, 1) := by decide +kernel
theorem d8 : decode yB 8 = .ok (.ireturn, 1) := by decide +kernel
def site : List Cond := []
def tab : Cond := tabOf yN yB 2 (some .byte) site
def P (d : Addr) (B : Cell) (args : Array Value) (s : State) : Prop := args = #[.ref d, .int (Int32.ofNat B.slots.size)] ∧ Arr .byte d B s
def E (r : Option Value) (s u : State) : Prop := XT.PureE (some (.int 0)) r s u
/-- an array as long as the number of chars: LATIN1 -/
theorem law (l : Launch) (d : Addr) (B : Cell) : Law l yN 2 2 0 0 yB 2 (some .byte) site (P d B) E [] 0 0 := by
  refine Law.of_walk (plainFor_of_name (by decide +kernel)) (by decide +kernel) (by decide +kernel) (by decide) (fun _ _ h => by rw [h.1]; rfl) (fun _ U U' hal hh h => ⟨h.1, h.2.mv hal hh⟩) (fun r U U' V V' h1 hal h2 h => XT.PureE.mv r U U' V V' h1 hal h2 h) ?_
  intro p e s m args below meth c s₁ X0 hexec hbytes hml hret hlk hnm hown hh0 W hP
  obtain ⟨rfl, hB⟩ := hP
  have hB0 := hB.mv X0.warmed.alike hh0
  have c1 : Steps p.tables e below (s₁.setTop (entryFrame m #[.ref d, .int (Int32.ofNat B.slots.size)] 2)) (s₁.setTop (mkF m 0 #[.val (.ref d), .val (.int (Int32.ofNat B.slots.size))] [])) := entry rfl
  have c2 : Steps p.tables e below (s₁.setTop (entryFrame m #[.ref d, .int (Int32.ofNat B.slots.size)] 2)) (s₁.setTop (mkF m 2 #[.val (.ref d), .val (.int (Int32.ofNat B.slots.size))] [.ref d, .int (Int32.ofNat B.slots.size)])) := c1.trans (by
    refine XS.iloadN X0.here hexec rfl (hb hbytes d0) rfl ?_
    refine XS.aloadN X0.here hexec rfl (hb hbytes d1) rfl rfl ?_
    exact Steps.refl _)
  have c3 : Steps p.tables e below (s₁.setTop (entryFrame m #[.ref d, .int (Int32.ofNat B.slots.size)] 2)) (s₁.setTop (mkF m 8 #[.val (.ref d), .val (.int (Int32.ofNat B.slots.size))] [.int (lo8 (ushr (Int32.ofNat B.slots.size - Int32.ofNat B.slots.size) 31))])) := c2.trans (by
    refine X0.alen hexec hB0 rfl rfl (hb hbytes d2) ?_
    refine XS.isub X0.here hexec rfl (hb hbytes d3) rfl ?_
    refine bipushV X0.here hexec rfl 31 (hb hbytes d4) (by decide) ?_
    refine iushr X0.here hexec rfl (hb hbytes d6) rfl ?_
    refine i2b X0.here hexec rfl (hb hbytes d7) rfl ?_
    exact Steps.refl _)
  have e0 : lo8 (ushr (Int32.ofNat B.slots.size - Int32.ofNat B.slots.size) 31) = 0 := by rw [Int32.sub_self]; decide
  rw [e0] at c3
  exact ⟨s₁, some (.int 0), _, _, _, X0, rfl, rfl, rfl, (fun h => by cases h), ⟨rfl, hh0⟩, fun fs hl => c3.trans (X0.ireturnOut hexec hret rfl (Or.inr (Or.inr (Or.inl rfl))) (hb hbytes d8) hl)⟩
end CodL
/-- the String at a is Latin-1 over a new byte[] (the heap's one new cell): the low bytes of the len chars of A from o on; every cell but a is kept -/
def Got (a : Addr) (D : Cell) (fV fC : Field) (A : Cell) (o len : Nat) (r : Option Value) (s u : State) : Prop := r = none ∧ ∃ D' V : Cell, Blank "java/lang/String" a D' u ∧ Same D D' [fV.slot, fC.slot] ∧ D'.slots[fV.slot]? = some (.ref s.heap.size) ∧ D'.slots[fC.slot]? = some (.int 0) ∧ Arr .byte s.heap.size V u ∧ V.vm = .none ∧ u.vm.findClass "[B" = some V.cls ∧ V.slots.size = len ∧ (∀ j, j < len → V.slots[j]? = some (.int (lo8 (cv A (o + j))))) ∧ (∀ (y : Addr) (c : Cell), y ≠ a → s.heap[y]? = some c → u.heap[y]? = some c) ∧ u.heap.size = s.heap.size + 1
theorem Got.mv {a : Addr} {D A : Cell} {fV fC : Field} {o len : Nat} : ∀ r (U U' V V' : State), U'.heap = U.heap → V.vm.Alike V'.vm → V'.heap = V.heap → Got a D fV fC A o len r U V → Got a D fV fC A o len r U' V' :=
  fun r U U' V V' h1 hal h2 ⟨e0, D', X, a1, a2, a3, a4, a5, a6, a7, a8, a9, a10, a11⟩ => ⟨e0, D', X, a1.mv hal h2, a2, by rw [h1]; exact a3, a4, by rw [h1]; exact a5.mv hal h2, a6, by rw [hal.findClass]; exact a7, a8, a9, by rw [h1, h2]; exact a10, by rw [h1, h2]; exact a11⟩
namespace New4
def yN : MethodName := ⟨"java/lang/String", "<init>", "([CIILjava/lang/Void;)V"⟩
abbrev yB : ByteArray := jdk_42_method_149_code
theorem d0 : decode yB 0 = .ok (.aload_n 0, 1) := by decide +kernel
theorem d1 : decode yB 1 = .ok (.invokespecial 1, 3) := by decide +kernel
theorem d4 : decode yB 4 = .ok (.iload_n 3, 1) := by decide +kernel
theorem d5 : decode yB 5 = .ok (.ifCond (.ne) 22, 3) := by decide +kernel
theorem d27 : decode yB 27 = .ok (.getstatic 38, 3) := by decide +kernel
theorem d30 : decode yB 30 = .ok (.ifCond (.eq) 28, 3) := by decide +kernel
theorem d33 : decode yB 33 = .ok (.aload_n 1, 1) := by decide +kernel
theorem d34 : decode yB 34 = .ok (.iload_n 2, 1) := by decide +kernel
theorem d35 : decode yB 35 = .ok (.iload_n 3, 1) := by decide +kernel
theorem d36 : decode yB 36 = .ok (.invokestatic 177, 3) := by decide +kernel
theorem d39 : decode yB 39 = .ok (.astore 5, 2) := by decide +kernel
theorem d41 : decode yB 41 = .ok (.aload_n 0, 1) := by decide +kernel
theorem d42 : decode yB 42 = .ok (.aload 5, 2) := by decide +kernel
theorem d44 : decode yB 44 = .ok (.iload_n 3, 1) := by decide +kernel
theorem d45 : decode yB 45 = .ok (.invokestatic 47, 3) := by decide +kernel
theorem d48 : decode yB 48 = .ok (.putfield 15, 3) := by decide +kernel
theorem d51 : decode yB 51 = .ok (.aload_n 0, 1) := by decide +kernel
theorem d52 : decode yB 52 = .ok (.aload 5, 2) := by decide +kernel
theorem d54 : decode yB 54 = .ok (.putfield 9, 3) := by decide +kernel
theorem d57 : decode yB 57 = .ok (.return_, 1) := by decide +kernel
def site : List Cond := [.fieldLink "java/lang/String" 38 "java/lang/String" "COMPACT_STRINGS" "Z", Cmp3.tab, CodL.tab, .laysFinal "java/lang/String" "java/lang/String" "value" "[B", .fieldLink "java/lang/String" 9 "java/lang/String" "value" "[B", .laysFinal "java/lang/String" "java/lang/String" "coder" "B", .fieldLink "java/lang/String" 15 "java/lang/String" "coder" "B"] ++ objW "java/lang/String" 1 ++ staticW "java/lang/String" 177 Cmp3.yN ++ staticW "java/lang/String" 47 CodL.yN
def tab : Cond := tabOf yN yB 6 none site
def P (a : Addr) (D : Cell) (fV fC : Field) (b : Addr) (A : Cell) (z : Int32) (o len : Nat) (args : Array Value) (s : State) : Prop := args = #[.ref a, .ref b, .int (Int32.ofNat o), .int (Int32.ofNat len), .null] ∧ Blank "java/lang/String" a D s ∧ Found "java/lang/String" "value" "[B" fV s ∧ Found "java/lang/String" "coder" "B" fC s ∧ Ch b A s ∧ StaticIs s "java/lang/String" "COMPACT_STRINGS" "Z" (.int z) ∧ ¬ z = 0 ∧ 0 < len ∧ o + len ≤ A.slots.size ∧ len ≤ 536870912 ∧ ∀ i, i < len → ¬ 255 < cv A (o + i)
def E (a : Addr) (D : Cell) (fV fC : Field) (A : Cell) (o len : Nat) (r : Option Value) (s u : State) : Prop := Got a D fV fC A o len r s u
/-- len > 0, no char of the range above 255: a Latin-1 String of their low bytes -/
theorem law (l : Launch) (a : Addr) (D : Cell) (fV fC : Field) (b : Addr) (A : Cell) (z : Int32) (o len : Nat) : Law l yN 5 4 2 35 yB 6 none site (P a D fV fC b A z o len) (E a D fV fC A o len) [⟨a, fC.slot⟩, ⟨a, fV.slot⟩] 1 len := by
  refine Law.of_walk (plainFor_of_name (by decide +kernel)) (by decide +kernel) (by decide +kernel) (by decide) (fun _ _ h => by rw [h.1]; rfl) (fun _ U U' hal hh h => ⟨h.1, h.2.1.mv hal hh, h.2.2.1.al hal, h.2.2.2.1.al hal, h.2.2.2.2.1.mv hal hh, h.2.2.2.2.2.1.there hal hh, h.2.2.2.2.2.2⟩) (fun r U U' V V' h1 hal h2 h => Got.mv r U U' V V' h1 hal h2 h) ?_
  intro p e s m args below meth c s₁ X0 hexec hbytes hml hret hlk hnm hown hh0 W hP
  obtain ⟨rfl, hB, f1, f2, hA, s1, hz, l0, l1, l2, hp⟩ := hP
  have a31 := hA.1.2.2.2
  have c1 : Steps p.tables e below (s₁.setTop (entryFrame m #[.ref a, .ref b, .int (Int32.ofNat o), .int (Int32.ofNat len), .null] 6)) (s₁.setTop (mkF m 0 #[.val (.ref a), .val (.ref b), .val (.int (Int32.ofNat o)), .val (.int (Int32.ofNat len)), .val .null, .unset] [])) := entry rfl
  have c2 : Steps p.tables e below (s₁.setTop (entryFrame m #[.ref a, .ref b, .int (Int32.ofNat o), .int (Int32.ofNat len), .null] 6)) (s₁.setTop (mkF m 1 #[.val (.ref a), .val (.ref b), .val (.int (Int32.ofNat o)), .val (.int (Int32.ofNat len)), .val .null, .unset] [.ref a])) := c1.trans (by
    refine XS.aloadN X0.here hexec rfl (hb hbytes d0) rfl rfl ?_
    exact Steps.refl _)
  obtain ⟨T3, X3, q3, st3⟩ := X0.oinit hexec hown (wks W (objW "java/lang/String" 1)) (g := (mkF m 1 #[.val (.ref a), .val (.ref b), .val (.int (Int32.ofNat o)), .val (.int (Int32.ofNat len)), .val .null, .unset] [.ref a])) rfl (by rw [hml]; rfl) (rest := []) rfl (hb hbytes d1) (W := 0) (by show 2 * 0 + 0 ≤ _; decide) (Nat.le_of_ble_eq_true rfl) (Nat.le_of_ble_eq_true rfl)
  have hh3 := q3.trans hh0
  have c4 : Steps p.tables e below (s₁.setTop (entryFrame m #[.ref a, .ref b, .int (Int32.ofNat o), .int (Int32.ofNat len), .null] 6)) (T3.setTop (mkF m 27 #[.val (.ref a), .val (.ref b), .val (.int (Int32.ofNat o)), .val (.int (Int32.ofNat len)), .val .null, .unset] [])) := (c2.trans (st3 _ (Steps.refl _))).trans (by
    refine XS.iloadN X3.here hexec rfl (hb hbytes d4) rfl ?_
    refine XS.ifYes X3.here hexec rfl (pc0 := 5) rfl (hb hbytes d5) rfl (i0_ne_t (nz32 (by omega) l0)) (by decide) rfl ?_
    exact Steps.refl _)
  obtain ⟨T5, X5, q5, st5⟩ := X3.sget hexec hown (wk W (.fieldLink "java/lang/String" 38 "java/lang/String" "COMPACT_STRINGS" "Z")) s1 (fun _ _ h => by rw [hh3]; exact h) (g := (mkF m 27 #[.val (.ref a), .val (.ref b), .val (.int (Int32.ofNat o)), .val (.int (Int32.ofNat len)), .val .null, .unset] [])) rfl (hb hbytes d27)
  have hh5 := q5.trans hh3
  have c6 : Steps p.tables e below (s₁.setTop (entryFrame m #[.ref a, .ref b, .int (Int32.ofNat o), .int (Int32.ofNat len), .null] 6)) (T5.setTop (mkF m 30 #[.val (.ref a), .val (.ref b), .val (.int (Int32.ofNat o)), .val (.int (Int32.ofNat len)), .val .null, .unset] [.int z])) := c4.trans (st5 _ (Steps.refl _))
  have c7 : Steps p.tables e below (s₁.setTop (entryFrame m #[.ref a, .ref b, .int (Int32.ofNat o), .int (Int32.ofNat len), .null] 6)) (T5.setTop (mkF m 36 #[.val (.ref a), .val (.ref b), .val (.int (Int32.ofNat o)), .val (.int (Int32.ofNat len)), .val .null, .unset] [.int (Int32.ofNat len), .int (Int32.ofNat o), .ref b])) := c6.trans (by
    refine XS.ifNo X5.here hexec rfl (hb hbytes d30) rfl (i0_eq_f hz) ?_
    refine XS.aloadN X5.here hexec rfl (hb hbytes d33) rfl rfl ?_
    refine XS.iloadN X5.here hexec rfl (hb hbytes d34) rfl ?_
    refine XS.iloadN X5.here hexec rfl (hb hbytes d35) rfl ?_
    exact Steps.refl _)
  obtain ⟨v8, T8, X8, E8, g8⟩ := X5.callS hexec (Cmp3.law l b A o len) hown (wks W (staticW "java/lang/String" 177 Cmp3.yN)) (wk W Cmp3.tab) (W := 0) (Nat.le_of_ble_eq_true rfl) (Nat.le_of_ble_eq_true rfl) (Nat.le_refl _) (by show 0 + len ≤ len; omega) (g := (mkF m 36 #[.val (.ref a), .val (.ref b), .val (.int (Int32.ofNat o)), .val (.int (Int32.ofNat len)), .val .null, .unset] [.int (Int32.ofNat len), .int (Int32.ofNat o), .ref b])) rfl (by rw [hml]; rfl) c7 (argsL := [.ref b, .int (Int32.ofNat o), .int (Int32.ofNat len)]) (rest := []) rfl rfl (by show 2 * 0 + 0 ≤ _; decide) (hb hbytes d36) (⟨rfl, hA.mv X5.warmed.alike hh5, l1, l2, hp⟩)
  obtain ⟨e8, z8⟩ := E8
  obtain ⟨rfl, N, n1, n2, n3, n4, n5, n6⟩ := NewArr.mv _ T5 s _ _ hh5.symm (Vm.Alike.refl _) rfl e8
  rw [hh5] at z8
  have hB1 := hB.keep X8.warmed.alike (n6 _ _ hB.1)
  have hne : s.heap.size ≠ a := (Nat.ne_of_lt (Array.getElem?_eq_some_iff.mp hB.1).1).symm
  have c9 : Steps p.tables e below (s₁.setTop (entryFrame m #[.ref a, .ref b, .int (Int32.ofNat o), .int (Int32.ofNat len), .null] 6)) (T8.setTop (mkF m 39 #[.val (.ref a), .val (.ref b), .val (.int (Int32.ofNat o)), .val (.int (Int32.ofNat len)), .val .null, .unset] [.ref s.heap.size])) := g8
  have c10 : Steps p.tables e below (s₁.setTop (entryFrame m #[.ref a, .ref b, .int (Int32.ofNat o), .int (Int32.ofNat len), .null] 6)) (T8.setTop (mkF m 45 #[.val (.ref a), .val (.ref b), .val (.int (Int32.ofNat o)), .val (.int (Int32.ofNat len)), .val .null, .val (.ref s.heap.size)] [.int (Int32.ofNat N.slots.size), .ref s.heap.size, .ref a])) := by
    have hc : Steps p.tables e below (s₁.setTop (entryFrame m #[.ref a, .ref b, .int (Int32.ofNat o), .int (Int32.ofNat len), .null] 6)) (T8.setTop (mkF m 45 #[.val (.ref a), .val (.ref b), .val (.int (Int32.ofNat o)), .val (.int (Int32.ofNat len)), .val .null, .val (.ref s.heap.size)] [.int (Int32.ofNat len), .ref s.heap.size, .ref a])) := c9.trans (by
      refine XS.astore X8.here hexec rfl (hb hbytes d39) rfl rfl rfl ?_
      refine XS.aloadN X8.here hexec rfl (hb hbytes d41) rfl rfl ?_
      refine XS.aload X8.here hexec rfl (hb hbytes d42) rfl rfl ?_
      refine XS.iloadN X8.here hexec rfl (hb hbytes d44) rfl ?_
      exact Steps.refl _)
    rw [n4]; exact hc
  obtain ⟨v11, T11, X11, E11, g11⟩ := X8.callS hexec (CodL.law l s.heap.size N) hown (wks W (staticW "java/lang/String" 47 CodL.yN)) (wk W CodL.tab) (W := 1) (Nat.le_of_ble_eq_true rfl) (Nat.le_of_ble_eq_true rfl) (Nat.le_refl _) (by show 0 + len + 0 ≤ len; omega) (g := (mkF m 45 #[.val (.ref a), .val (.ref b), .val (.int (Int32.ofNat o)), .val (.int (Int32.ofNat len)), .val .null, .val (.ref s.heap.size)] [.int (Int32.ofNat N.slots.size), .ref s.heap.size, .ref a])) rfl (by rw [hml]; rfl) c10 (argsL := [.ref s.heap.size, .int (Int32.ofNat N.slots.size)]) (rest := [.ref a]) rfl rfl (by show 2 * 0 + (1 + 0) ≤ _; decide) (hb hbytes d45) (⟨rfl, n1⟩)
  obtain ⟨rfl, q11⟩ := E11
  have hB11 := hB1.mv (X8.warmed.alike.symm.trans X11.warmed.alike) q11
  have c12 : Steps p.tables e below (s₁.setTop (entryFrame m #[.ref a, .ref b, .int (Int32.ofNat o), .int (Int32.ofNat len), .null] 6)) (T11.setTop (mkF m 48 #[.val (.ref a), .val (.ref b), .val (.int (Int32.ofNat o)), .val (.int (Int32.ofNat len)), .val .null, .val (.ref s.heap.size)] [.int 0, .ref a])) := g11
  obtain ⟨T13, X13, p13, bl13, sl13, st13⟩ := X11.finit hexec hown (wk W (.fieldLink "java/lang/String" 15 "java/lang/String" "coder" "B")) (Or.inr ⟨_, (wk W (.laysFinal "java/lang/String" "java/lang/String" "coder" "B"))⟩) (Or.inl ⟨rfl, hnm⟩) f2 (Or.inl rfl) hB11 (t := .byte) (by decide +kernel) rfl (g := (mkF m 48 #[.val (.ref a), .val (.ref b), .val (.int (Int32.ofNat o)), .val (.int (Int32.ofNat len)), .val .null, .val (.ref s.heap.size)] [.int 0, .ref a])) rfl (rest := []) rfl (hb hbytes d48)
  have c14 : Steps p.tables e below (s₁.setTop (entryFrame m #[.ref a, .ref b, .int (Int32.ofNat o), .int (Int32.ofNat len), .null] 6)) (T13.setTop (mkF m 54 #[.val (.ref a), .val (.ref b), .val (.int (Int32.ofNat o)), .val (.int (Int32.ofNat len)), .val .null, .val (.ref s.heap.size)] [.ref s.heap.size, .ref a])) := (c12.trans (st13 _ (Steps.refl _))).trans (by
    refine XS.aloadN X13.here hexec rfl (hb hbytes d51) rfl rfl ?_
    refine XS.aload X13.here hexec rfl (hb hbytes d52) rfl rfl ?_
    exact Steps.refl _)
  obtain ⟨T15, X15, p15, bl15, sl15, st15⟩ := X13.finit hexec hown (wk W (.fieldLink "java/lang/String" 9 "java/lang/String" "value" "[B")) (Or.inr ⟨_, (wk W (.laysFinal "java/lang/String" "java/lang/String" "value" "[B"))⟩) (Or.inl ⟨rfl, hnm⟩) f1 (Or.inl rfl) bl13 (t := (.array .byte)) (by decide +kernel) rfl (g := (mkF m 54 #[.val (.ref a), .val (.ref b), .val (.int (Int32.ofNat o)), .val (.int (Int32.ofNat len)), .val .null, .val (.ref s.heap.size)] [.ref s.heap.size, .ref a])) rfl (rest := []) rfl (hb hbytes d54)
  have c16 : Steps p.tables e below (s₁.setTop (entryFrame m #[.ref a, .ref b, .int (Int32.ofNat o), .int (Int32.ofNat len), .null] 6)) (T15.setTop (mkF m 57 #[.val (.ref a), .val (.ref b), .val (.int (Int32.ofNat o)), .val (.int (Int32.ofNat len)), .val .null, .val (.ref s.heap.size)] [])) := c14.trans (st15 _ (Steps.refl _))
  have ap := apart (Or.inr ⟨_, (wk W (.laysFinal "java/lang/String" "java/lang/String" "value" "[B"))⟩) (Or.inr ⟨_, (wk W (.laysFinal "java/lang/String" "java/lang/String" "coder" "B"))⟩) f1 f2 (t₁ := .array .byte) (t₂ := .byte) (by decide +kernel) (by decide +kernel) (by decide)
  have al := X8.warmed.alike.symm.trans X15.warmed.alike
  have n7 : T11.heap[s.heap.size]? = some N := by rw [q11]; exact n1.1
  exact ⟨T15, none, _, _, _, X15, by simp, rfl, by omega, (fun _ => rfl), ⟨rfl, _, N, bl15, ((Same.refl D _).set _ (by simp)).set _ (by simp), sl15, (Cell.slots_setSlot_ne _ ap).trans sl13, n1.keep al (p15.other hne (p13.other hne n7)), n2, by rw [al.findClass]; exact n3, n4, n5, fun y c h1 h2 => p15.other h1 (p13.other h1 (by rw [q11]; exact n6 y c h2)), by rw [p15.2.2, p13.2.2, q11]; exact z8⟩, fun fs hl => c16.trans (X15.returnOut hexec hret (hb hbytes d57) hl)⟩
end New4
namespace New1
def yN : MethodName := ⟨"java/lang/String", "<init>", "([C)V"⟩
abbrev yB : ByteArray := jdk_42_method_3_code
theorem d0 : decode yB 0 = .ok (.aload_n 0, 1) := by decide +kernel
theorem d1 : decode yB 1 = .ok (.aload_n 1, 1) := by decide +kernel
theorem d2 : decode yB 2 = .ok (.iconst 0, 1) := by decide +kernel
theorem d3 : decode yB 3 = .ok (.aload_n 1, 1) := by decide +kernel
theorem d4 : decode yB 4 = .ok (.arraylength, 1) := by decide +kernel
theorem d5 : decode yB 5 = .ok (.aconst_null, 1) := by decide +kernel
theorem d6 : decode yB 6 = .ok (.invokespecial 27, 3) := by decide +kernel
theorem d9 : decode yB 9 = .ok (.return_, 1) := by decide +kernel
def site : List Cond := [New4.tab] ++ initW "java/lang/String" 27 New4.yN
def tab : Cond := tabOf yN yB 2 none site
def P (a : Addr) (D : Cell) (fV fC : Field) (b : Addr) (A : Cell) (z : Int32) (args : Array Value) (s : State) : Prop := args = #[.ref a, .ref b] ∧ Blank "java/lang/String" a D s ∧ Found "java/lang/String" "value" "[B" fV s ∧ Found "java/lang/String" "coder" "B" fC s ∧ Ch b A s ∧ StaticIs s "java/lang/String" "COMPACT_STRINGS" "Z" (.int z) ∧ ¬ z = 0 ∧ 0 < A.slots.size ∧ A.slots.size ≤ 536870912 ∧ ∀ i, i < A.slots.size → ¬ 255 < cv A i
def E (a : Addr) (D : Cell) (fV fC : Field) (A : Cell) (r : Option Value) (s u : State) : Prop := Got a D fV fC A 0 A.slots.size r s u
/-- new String(chars), not empty, no char above 255: a Latin-1 String of their low bytes -/
theorem law (l : Launch) (a : Addr) (D : Cell) (fV fC : Field) (b : Addr) (A : Cell) (z : Int32) : Law l yN 2 1 3 52 yB 2 none site (P a D fV fC b A z) (E a D fV fC A) [⟨a, fC.slot⟩, ⟨a, fV.slot⟩] 1 A.slots.size := by
  refine Law.of_walk (plainFor_of_name (by decide +kernel)) (by decide +kernel) (by decide +kernel) (by decide) (fun _ _ h => by rw [h.1]; rfl) (fun _ U U' hal hh h => ⟨h.1, h.2.1.mv hal hh, h.2.2.1.al hal, h.2.2.2.1.al hal, h.2.2.2.2.1.mv hal hh, h.2.2.2.2.2.1.there hal hh, h.2.2.2.2.2.2⟩) (fun r U U' V V' h1 hal h2 h => Got.mv r U U' V V' h1 hal h2 h) ?_
  intro p e s m args below meth c s₁ X0 hexec hbytes hml hret hlk hnm hown hh0 W hP
  obtain ⟨rfl, hB, f1, f2, hA, s1, hz, l0, l2, hp⟩ := hP
  have c1 : Steps p.tables e below (s₁.setTop (entryFrame m #[.ref a, .ref b] 2)) (s₁.setTop (mkF m 0 #[.val (.ref a), .val (.ref b)] [])) := entry rfl
  have c2 : Steps p.tables e below (s₁.setTop (entryFrame m #[.ref a, .ref b] 2)) (s₁.setTop (mkF m 6 #[.val (.ref a), .val (.ref b)] [.null, .int (Int32.ofNat A.slots.size), .int 0, .ref b, .ref a])) := c1.trans (by
    refine XS.aloadN X0.here hexec rfl (hb hbytes d0) rfl rfl ?_
    refine XS.aloadN X0.here hexec rfl (hb hbytes d1) rfl rfl ?_
    refine iconstV X0.here hexec rfl 0 (hb hbytes d2) (by decide) ?_
    refine XS.aloadN X0.here hexec rfl (hb hbytes d3) rfl rfl ?_
    refine X0.alen hexec (hA.1.mv X0.warmed.alike hh0) rfl rfl (hb hbytes d4) ?_
    refine XS.aconstNull X0.here hexec rfl (hb hbytes d5) ?_
    exact Steps.refl _)
  obtain ⟨v3, T3, X3, E3, g3⟩ := X0.callN hexec (New4.law l a D fV fC b A z 0 A.slots.size) rfl hown (wks W (initW "java/lang/String" 27 New4.yN)) (W New4.tab (by simp only [site, List.mem_cons, List.mem_append, true_or, or_true])) (W := 0) (Nat.le_of_ble_eq_true rfl) (Nat.le_of_ble_eq_true rfl) (Nat.le_refl _) (by show 0 + A.slots.size ≤ A.slots.size; omega) (g := (mkF m 6 #[.val (.ref a), .val (.ref b)] [.null, .int (Int32.ofNat A.slots.size), .int (Int32.ofNat 0), .ref b, .ref a])) rfl (by rw [hml]; rfl) c2 (argsL := [.ref b, .int (Int32.ofNat 0), .int (Int32.ofNat A.slots.size), .null]) (rest := []) rfl rfl (by show 2 * 0 + 0 ≤ _; decide) (hb hbytes d6) (⟨rfl, hB.mv X0.warmed.alike hh0, f1.al X0.warmed.alike, f2.al X0.warmed.alike, hA.mv X0.warmed.alike hh0, s1.there X0.warmed.alike hh0, hz, l0, by omega, l2, fun i hi => by rw [Nat.zero_add]; exact hp i hi⟩)
  have e0 := Got.mv _ s₁ s _ _ hh0.symm (Vm.Alike.refl _) rfl E3
  obtain rfl := e0.1
  have c4 : Steps p.tables e below (s₁.setTop (entryFrame m #[.ref a, .ref b] 2)) (T3.setTop (mkF m 9 #[.val (.ref a), .val (.ref b)] [])) := g3
  exact ⟨T3, none, _, _, _, X3, by simp, rfl, by omega, (fun _ => rfl), e0, fun fs hl => c4.trans (X3.returnOut hexec hret (hb hbytes d9) hl)⟩
theorem pays {l : Launch} {R : Room} {p : Program} {e : Env} {below : List Frame} {s : State} {sargs : Array Value} {len W : Nat} (a : Addr) (D : Cell) (fV fC : Field) (b : Addr) (A : Cell) (z : Int32) (htab : tab.before sargs s = true) (hfr : 4 ≤ R.frames) (hlo : W + 65 ≤ R.locals) :
    Back l R p e below s sargs yN len W (fun A₁ a₁ => A₁.cells + 1 ≤ R.cells ∧ A₁.slots + A.slots.size ≤ R.slots ∧ P a D fV fC b A z a₁ A₁.U) (fun A₁ _ v₁ B₁ => E a D fV fC A v₁ A₁.U B₁.U ∧ B₁.locs = A₁.locs ++ [⟨a, fC.slot⟩, ⟨a, fV.slot⟩] ∧ B₁.cells = A₁.cells + 1 ∧ B₁.slots = A₁.slots + A.slots.size) :=
  (law l a D fV fC b A z).pays htab hfr (by omega)
end New1
/-- the byte, read back as charAt reads it, is the char -/
theorem lo8_mask {x : Int32} (h0 : ¬ x < 0) (h1 : ¬ 255 < x) : lo8 x &&& 255 = x := by
  have t : ∀ k : Fin 256, lo8 (Int32.ofNat k.val) &&& 255 = Int32.ofNat k.val := by decide +kernel
  rw [Int32.lt_iff_toInt_lt] at h0 h1
  have e0 : (0 : Int32).toInt = 0 := rfl
  have e1 : (255 : Int32).toInt = 255 := rfl
  obtain ⟨k, hk⟩ : ∃ k : Nat, x.toInt = k := ⟨x.toInt.toNat, by omega⟩
  have hx : x = Int32.ofNat k := Int32.toInt_inj.mp (by rw [hk, Int32.toInt_ofNat_small (by omega)])
  rw [hx]
  exact t ⟨k, by omega⟩
end StrChars
namespace StrChars.Road
open Jvm Sem ClassFile Op Lib Jvm.Stand Jvm.Free Jvm.Free.XT
open Jvm.Lib.Cold (StaticIs)
abbrev ST : String := "java/lang/String"
/-- every table word that New1's law asks, flat -/
abbrev words : List Jvm.Cond := [.code New1.yN New1.yB 2 none, .initialized ST, .methodLink ST 27 New4.yN, .instanceMethod New4.yN,
  .code New4.yN New4.yB 6 none, .fieldLink ST 38 ST "COMPACT_STRINGS" "Z", .laysFinal ST ST "value" "[B", .fieldLink ST 9 ST "value" "[B", .laysFinal ST ST "coder" "B", .fieldLink ST 15 ST "coder" "B",
  .methodLink ST 1 Lib.objectInit, .instanceMethod Lib.objectInit, .code Lib.objectInit ⟨#[0xb1]⟩ 1 none, .methodLink ST 177 Cmp3.yN, .static Cmp3.yN, .methodLink ST 47 CodL.yN, .static CodL.yN,
  .code Cmp3.yN Cmp3.yB 6 (some (.array .byte)), .initialized U16, .arrayClass .byte, .methodLink U16 115 Cmp5.yN, .static Cmp5.yN, .code Cmp5.yN Cmp5.yB 7 (some .int), .code CodL.yN CodL.yB 2 (some .byte)]
theorem tab_of {a : Array Value} {s : State} (h : ∀ w ∈ words, w.before a s = true) : New1.tab.before a s = true := by
  have h5 : Cmp5.tab.before a s = true := unparts (wk h (.code Cmp5.yN Cmp5.yB 7 (some .int))) (wks h (.initialized Cmp5.yN.cls :: Cmp5.site))
  have hc : CodL.tab.before a s = true := unparts (wk h (.code CodL.yN CodL.yB 2 (some .byte))) (wks h (.initialized CodL.yN.cls :: CodL.site))
  have q5 : ∀ w ∈ Cmp5.tab :: words, w.before a s = true := fun w hw => (List.mem_cons.mp hw).elim (fun e => e ▸ h5) (h w)
  have h3 : Cmp3.tab.before a s = true := unparts (wk q5 (.code Cmp3.yN Cmp3.yB 6 (some (.array .byte)))) (wks q5 (.initialized Cmp3.yN.cls :: Cmp3.site))
  have q3 : ∀ w ∈ Cmp3.tab :: CodL.tab :: words, w.before a s = true := fun w hw => (List.mem_cons.mp hw).elim (fun e => e ▸ h3) fun hw => (List.mem_cons.mp hw).elim (fun e => e ▸ hc) (h w)
  have h4 : New4.tab.before a s = true := unparts (wk q3 (.code New4.yN New4.yB 6 none)) (wks q3 (.initialized New4.yN.cls :: New4.site))
  have q4 : ∀ w ∈ New4.tab :: words, w.before a s = true := fun w hw => (List.mem_cons.mp hw).elim (fun e => e ▸ h4) (h w)
  exact unparts (wk q4 (.code New1.yN New1.yB 2 none)) (wks q4 (.initialized New1.yN.cls :: New1.site))
/-- the words ride from the start Z to the walk's own state -/
theorem moved {Z s : State} {a0 args : Array Value} (hZ : Z.Warmed39 s.vm) (hw : ∀ d ∈ words, d.before a0 Z = true) : ∀ d ∈ words, d.before args s = true := fun d hd => by
  have q := hw d hd
  have t : ∀ d ∈ words, d = .arrayClass .byte ∨ (d.onTables && d.keepsFace) = true := by decide +kernel
  rcases t d hd with rfl | t
  · exact RoadKit.mvA hZ q
  · exact RoadKit.mv hZ q t
/-- WHAT COMES BACK, over the tables of the start Z: h the heap at the call, h' behind it -/
def Q (Z : State) (x : Addr) (A : Cell) (h : Heap) (v : Option Value) (h' : Heap) (L : List Loc) : Prop := v = none ∧ (∀ y ∈ L, y.base = x) ∧ RoadKit.Keep h h' [x] ∧ h'.size = h.size + 1 ∧ RoadKit.Exa Z h' x ST ∧ RoadKit.Fld Z h' x ST "value" "[B" (.ref h.size) ∧ RoadKit.Fld Z h' x ST "coder" "B" (.int 0) ∧
  (∃ V : Cell, RoadKit.Arr Z h' h.size V .byte ∧ V.vm = .none ∧ Z.vm.findClass "[B" = some V.cls ∧ V.slots.size = A.slots.size ∧ ∀ j, j < A.slots.size → V.slots[j]? = some (.int (lo8 (cv A j)))) ∧
  ∀ (O n d : String) (w : Value), RoadKit.Fld Z h x O n d w → RoadKit.slotOf Z O n d ≠ RoadKit.slotOf Z ST "value" "[B" → RoadKit.slotOf Z O n d ≠ RoadKit.slotOf Z ST "coder" "B" → RoadKit.Fld Z h' x O n d w
/-- **new String(chars) AT A CALL, IN THE ROAD'S FORM**: for specialBack behind newO: x the fresh String, b the char[] with the cell A -/
theorem back {p : Program} {l : Launch} {e : Env} {R : Room} {s : State} {args : Array Value} {below : List Frame} {len W : Nat} {Z : State} {a0 : Array Value} {h : Heap} (hZ : Z.Warmed39 s.vm) (hw : ∀ d ∈ words, d.before a0 Z = true) {kI : Nat} (wi : (Jvm.Cond.instantiable ST kI).before a0 Z = true)
    {x b : Addr} {A : Cell} {z : Int32} {v0 c0 : Value} (E : RoadKit.Exa Z h x ST) (V : RoadKit.Fld Z h x ST "value" "[B" v0) (C : RoadKit.Fld Z h x ST "coder" "B" c0) (K : RoadKit.Arr Z h b A .char) (hty : Typed .char A) (S : RoadKit.Sta Z h ST "COMPACT_STRINGS" "Z" (.int z)) (hz : ¬ z = 0)
    (l0 : 0 < A.slots.size) (l2 : A.slots.size ≤ 536870912) (hp : ∀ i, i < A.slots.size → ¬ 255 < cv A i) (hfr : 4 ≤ R.frames) (hlo : W + 65 ≤ R.locals) :
    Back l R p e below s args New1.yN len W (fun P a => a = #[.ref x, .ref b] ∧ P.U.heap = h ∧ P.cells + 1 ≤ R.cells ∧ P.slots + A.slots.size ≤ R.slots)
      (fun P _ v B => ∃ L, Q Z x A h v B.U.heap L ∧ B.locs = P.locs ++ L ∧ B.cells = P.cells + 1 ∧ B.slots = P.slots + A.slots.size) := by
  intro m meth c P g ig mk a X hg hsize hdg hW hn hp'
  obtain ⟨rfl, rfl, r1, r2⟩ := hp'
  have al : Z.vm.Alike P.U.vm := hZ.alike.trans X.warmed.alike
  obtain ⟨D, cfV, kV, iV, fV, hD, gV, stV, knV, obV, asV, slV⟩ := id V
  obtain ⟨D', cfC, kC, iC, fC, hD', gC, stC, -, -, asC, slC⟩ := id C
  cases hD.symm.trans hD'
  obtain ⟨D2, kD, e1, e2, e3, e4, e5⟩ := id E
  cases hD.symm.trans e1
  obtain ⟨c2, k2, i1, i2, i3, -⟩ := Cond.instantiable_spec wi
  cases e2.symm.trans i1
  cases e3.symm.trans i2
  obtain ⟨kU, u1, u2⟩ := al.2.2 _ _ e3
  have hB : Blank ST x D P.U := ⟨hD, ⟨knV, fun q hq => by rw [hq] at obV; cases obV⟩, by rw [al.findClass]; exact e2, kU, u1, by rw [u2]; exact i3, by rw [u2]; exact e5 i3⟩
  have F1 : Found ST "value" "[B" fV P.U := ⟨SBG.found_only al ⟨cfV, kV, iV, gV⟩, stV⟩
  have F2 : Found ST "coder" "B" fC P.U := ⟨SBG.found_only al ⟨cfC, kC, iC, gC⟩, stC⟩
  have hA : Ch b A P.U := ⟨⟨K.1, State.isArrayOf_alike al K.2.1, K.2.2, by omega⟩, hty⟩
  have hS : StaticIs P.U ST "COMPACT_STRINGS" "Z" (.int z) := by
    obtain ⟨cfS, iS, kS, fS, st, cS, t1, t2, t3, t4, t5, t6, t7⟩ := S
    exact StaticIs.there (s := { Z with heap := P.U.heap }) ⟨cfS, iS, kS, fS, st, cS, t1, t2, t3, t4, t5, (fun q => by rw [q] at t6; cases t6), t7⟩ al rfl
  obtain ⟨v, B, X', ⟨⟨hv, E', V', q1, q2, q3, q4, q5, q6, q7, q8, q9, q10, q11⟩, hl, hc, hs⟩, st⟩ := New1.pays x D fV fC b A z (tab_of (moved hZ hw)) hfr hlo m meth c P g ig mk _ X hg hsize hdg hW hn ⟨r1, r2, rfl, hB, F1, F2, hA, hS, hz, l0, l2, hp⟩
  have al' : Z.vm.Alike B.U.vm := hZ.alike.trans X'.warmed.alike
  have hsz : E'.slots.size = D.slots.size := by
    obtain ⟨-, -, -, kB, w1, w2, w3⟩ := q1
    obtain ⟨kB', y1, y2⟩ := al'.2.2 _ _ e3
    rw [q2.2.1] at w1
    cases w1.symm.trans y1
    rw [w3, e5 i3, y2]
  refine ⟨v, B, X', ⟨_, ⟨hv, ?_, ⟨by omega, fun y cy hy hn' => q10 y cy (by simpa using hn') hy, fun y cy hy => ?_⟩, q11, ⟨E', _, q1.1, by rw [q2.2.1]; exact e2, by rw [q2.2.1]; exact e3, by rw [q2.1]; exact obV, fun _ => by rw [hsz]; exact e5 i3⟩,
    ⟨E', cfV, kV, iV, fV, q1.1, gV, stV, by rw [q2.1]; exact knV, by rw [q2.1]; exact obV, by rw [q2.2.1]; exact asV, q3⟩, ⟨E', cfC, kC, iC, fC, q1.1, gC, stC, by rw [q2.1]; exact knV, by rw [q2.1]; exact obV, by rw [q2.2.1]; exact asC, q4⟩,
    ⟨V', ⟨q5.1, State.isArrayOf_alike al'.symm q5.2.1, q5.2.2.1⟩, q6, by rw [← al'.findClass]; exact q7, q8, fun j hj => by have := q9 j hj; rwa [Nat.zero_add] at this⟩, fun O n d w F n1 n2 => ?_⟩, hl, hc, hs⟩, st⟩
  · intro y hy
    simp only [List.mem_cons, List.not_mem_nil, or_false] at hy
    rcases hy with rfl | rfl <;> rfl
  · by_cases q : y = x
    · subst q
      cases hD.symm.trans hy
      exact ⟨E', q1.1, q2.2.1, q2.1, hsz⟩
    · exact ⟨cy, q10 y cy q hy, rfl, rfl, rfl⟩
  · obtain ⟨D3, cf, k, i, f, g1, g2, g3, g4, g5, g6, g7⟩ := F
    cases hD.symm.trans g1
    simp only [RoadKit.slotOf, g2, gV, gC, Option.map_some, Option.getD_some] at n1 n2
    exact ⟨E', cf, k, i, f, q1.1, g2, g3, by rw [q2.1]; exact g4, by rw [q2.1]; exact g5, by rw [q2.2.1]; exact g6, by rw [q2.2.2 f.slot (by simp [n1, n2])]; exact g7⟩
end StrChars.Road
namespace StrChars.Road
open Jvm Sem ClassFile Op Lib Jvm.Stand Jvm.Free Jvm.Free.XT
/-- WHAT COMES BACK, the byte[] as a list of values -/
def QA (Z : State) (x : Addr) (zn : Int32) (cs : List Int32) (h : Heap) (v : Option Value) (h' : Heap) (L : List Loc) : Prop := v = none ∧ (∀ y ∈ L, y.base = x) ∧ RoadKit.Keep h h' [x] ∧ h'.size = h.size + 1 ∧ RoadKit.Exa Z h' x ST ∧ RoadKit.Fld Z h' x ST "value" "[B" (.ref h.size) ∧ RoadKit.Fld Z h' x ST "coder" "B" (.int 0) ∧
  (∃ kb, Z.vm.findClass "[B" = some kb ∧ RoadKit.Arv Z h' h.size kb .byte zn (cs.map fun c => .int (lo8 c)) (.int 0)) ∧
  ∀ (O n d : String) (w : Value), RoadKit.Fld Z h x O n d w → RoadKit.slotOf Z O n d ≠ RoadKit.slotOf Z ST "value" "[B" → RoadKit.slotOf Z O n d ≠ RoadKit.slotOf Z ST "coder" "B" → RoadKit.Fld Z h' x O n d w
/-- **new String(chars) AT A CALL, THE ARRAYS AS LISTS**: the char[] at b holds cs, not empty, no char above 255 -/
theorem backArv {p : Program} {l : Launch} {e : Env} {R : Room} {s : State} {args : Array Value} {below : List Frame} {len W : Nat} {Z : State} {a0 : Array Value} {h : Heap} (hZ : Z.Warmed39 s.vm) (hw : ∀ d ∈ words, d.before a0 Z = true) {kI : Nat} (wi : (Jvm.Cond.instantiable ST kI).before a0 Z = true)
    {x b : Addr} {k : ClassId} {zn z : Int32} {cs : List Int32} {dv v0 c0 : Value} (E : RoadKit.Exa Z h x ST) (V : RoadKit.Fld Z h x ST "value" "[B" v0) (C : RoadKit.Fld Z h x ST "coder" "B" c0) (K : RoadKit.Arv Z h b k .char zn (cs.map Value.int) dv) (S : RoadKit.Sta Z h ST "COMPACT_STRINGS" "Z" (.int z)) (hz : ¬ z = 0)
    (hlen : zn.toNatClampNeg = cs.length) (h0 : 0 < cs.length) (hbig : cs.length ≤ 536870912) (hall : ∀ c ∈ cs, ¬ 255 < c) (hfr : 4 ≤ R.frames) (hlo : W + 65 ≤ R.locals) :
    Back l R p e below s args New1.yN len W (fun P a => a = #[.ref x, .ref b] ∧ P.U.heap = h ∧ P.cells + 1 ≤ R.cells ∧ P.slots + cs.length ≤ R.slots)
      (fun P _ v B => ∃ L, QA Z x zn cs h v B.U.heap L ∧ B.locs = P.locs ++ L ∧ B.cells = P.cells + 1 ∧ B.slots = P.slots + cs.length) := by
  obtain ⟨A, K1, K2, K3, K4, K5, K6⟩ := K
  have e : A.slots.size = cs.length := K3.trans hlen
  have hat : ∀ (i : Nat) (hi : i < cs.length), A.slots[i]? = some (.int cs[i]) := fun i hi => by rw [K5 i (by omega)]; simp [List.getD_eq_getElem?_getD, hi]
  have hcv : ∀ (i : Nat) (hi : i < cs.length), cv A i = cs[i] := fun i hi => by unfold cv; rw [hat i hi]
  have hty : Typed .char A := fun i v hv => by
    have hi : i < A.slots.size := (Array.getElem?_eq_some_iff.mp hv).1
    have q := K5 i hi
    rw [hv] at q
    rw [Option.some.inj q]
    exact K6 i hi
  refine Back.mono (back hZ hw wi E V C K1 hty S hz (by omega) (by omega) (fun i hi => by rw [hcv i (by omega)]; exact hall _ (List.getElem_mem _)) hfr hlo) (fun P a hp => ⟨hp.1, hp.2.1, hp.2.2.1, by rw [e]; exact hp.2.2.2⟩) (fun P a v B hp hq => ?_)
  obtain ⟨L, ⟨q1, q2, q3, q4, q5, q6, q7, ⟨V', v1, v2, v3, v4, v5⟩, q9⟩, hl, hc, hs⟩ := hq
  refine ⟨L, ⟨q1, q2, q3, q4, q5, q6, q7, ⟨V'.cls, v3, V', v1, rfl, by rw [v4, e, hlen], K4, fun i hi => ?_, fun i hi => ?_⟩, q9⟩, hl, hc, by rw [hs, e]⟩
  · have hi' : i < cs.length := by omega
    rw [v5 i (by omega), hcv i hi']; simp [List.getD_eq_getElem?_getD, hi']
  · have hi' : i < cs.length := by omega
    simp only [List.getD_eq_getElem?_getD, List.getElem?_map, List.getElem?_eq_getElem hi', Option.map_some, Option.getD_some]
    exact fits_lo8 _
end StrChars.Road
namespace StrChars.Road
open Jvm Sem ClassFile Op Lib Jvm.Stand Jvm.Free Jvm.Free.XT
/-- WHAT COMES BACK, in the writer's own shape -/
def QV (Z : State) (x : Addr) (N : Int32) (bs : List Int32) (h : Heap) (n0 : Nat) (v : Option Value) (h' : Heap) (L : List Loc) : Prop := v = none ∧ RoadKit.Fr n0 L ∧ RoadKit.Keep h h' [x] ∧ RoadKit.Exa Z h' x ST ∧ RoadKit.Fld Z h' x ST "coder" "B" (.int 0) ∧
  ∃ (t : Addr) (kb : ClassId), n0 ≤ t ∧ h.size ≤ t ∧ ¬ t = x ∧ RoadKit.Fld Z h' x ST "value" "[B" (.ref t) ∧ RoadKit.Arv Z h' t kb .byte N (bs.map Value.int) (.int 0)
/-- **new String(chars) AT A CALL, FOR THE WRITER**: a char[] of n known ints, each 0 to 255 -/
theorem backV {p : Program} {l : Launch} {e : Env} {R : Room} {s : State} {args : Array Value} {below : List Frame} {len W : Nat} {Z : State} {a0 : Array Value} {h : Heap} (hZ : Z.Warmed39 s.vm) (hw : ∀ d ∈ words, d.before a0 Z = true) {kI : Nat} (wi : (Jvm.Cond.instantiable ST kI).before a0 Z = true)
    {x b : Addr} {kC : ClassId} {cs bs : List Int32} {d v0 c0 : Value} {z N : Int32} {n n0 : Nat} (hx0 : n0 ≤ x) (hh0 : n0 ≤ h.size) (E : RoadKit.Exa Z h x ST) (V : RoadKit.Fld Z h x ST "value" "[B" v0) (C : RoadKit.Fld Z h x ST "coder" "B" c0) (K : RoadKit.Arv Z h b kC .char N (cs.map Value.int) d) (S : RoadKit.Sta Z h ST "COMPACT_STRINGS" "Z" (.int z)) (hz : ¬ z = 0)
    (hn : cs.length = n) (hN : N = Int32.ofNat n) (l0 : 0 < n) (l2 : n ≤ 4000) (hp : ∀ c ∈ cs, ¬ c < 0 ∧ ¬ (255 : Int32) < c) (hb : bs = cs.map (fun c => c.toInt8.toInt32)) (hfr : 4 ≤ R.frames) (hlo : W + 65 ≤ R.locals) :
    Back l R p e below s args (⟨"java/lang/String", "<init>", "([C)V"⟩ : MethodName) len W (fun P a => a = #[.ref x, .ref b] ∧ P.U.heap = h ∧ P.cells + 1 ≤ R.cells ∧ P.slots + n ≤ R.slots)
      (fun P _ v B => ∃ L, QV Z x N bs h n0 v B.U.heap L ∧ B.locs = P.locs ++ L ∧ B.cells = P.cells + 1 ∧ B.slots = P.slots + n) := by
  subst hn hN hb
  refine Back.mono (backArv hZ hw wi E V C K S hz (n32 (by omega)) l0 (by omega) (fun c hc => (hp c hc).2) hfr hlo) (fun P a hp => hp) (fun P a v B hp hq => ?_)
  obtain ⟨L, ⟨q1, q2, q3, q4, q5, q6, q7, ⟨kb, v1, v2⟩, q9⟩, hl, hc, hs⟩ := hq
  exact ⟨L, ⟨q1, fun y hy => by rw [q2 y hy]; exact hx0, q3, q5, q7, h.size, kb, hh0, Nat.le_refl _, Nat.ne_of_gt E.lt, q6, by rw [List.map_map]; exact v2⟩, hl, hc, hs⟩
end StrChars.Road
namespace StrChars
open Jvm Sem ClassFile Op Lib Jvm.Stand Jvm.Free.XT Jvm.Free.ALB Jvm.Free.JM Jvm.Free
open Jvm.Lib.Cold (StaticIs)
def hi8 (x : Int32) : Int32 := lo8 (x >>> ((8 : Int32) &&& 31))
/-- what StringUTF16.getChar makes of two bytes -/
def pairCh (u v : Int32) : Int32 := (((u &&& 255) <<< ((0 : Int32) &&& 31)) ||| ((v &&& 255) <<< ((8 : Int32) &&& 31))).toUInt32.toUInt16.toUInt32.toInt32
theorem lo8_and (x : Int32) : (lo8 x &&& 255).toBitVec.toNat = x.toBitVec.toNat % 256 := by
  have h : (lo8 x).toBitVec = (x.toBitVec.signExtend 8).signExtend 32 := by rw [lo8, Int8.toBitVec_toInt32, Int32.toBitVec_toInt8]
  rw [Int32.toBitVec_and, BitVec.toNat_and, h]
  have e : ((x.toBitVec.signExtend 8).signExtend 32).toNat % 256 = x.toBitVec.toNat % 256 := by
    rw [BitVec.toNat_signExtend]
    have hlt := x.toBitVec.isLt
    simp only [BitVec.toNat_setWidth, BitVec.toNat_signExtend]
    split <;> split <;> omega
  rw [← e]
  exact Nat.and_two_pow_sub_one_eq_mod _ 8
theorem pair_says {c : Int32} (h0 : ¬ c < 0) (h1 : ¬ 65535 < c) : pairCh (lo8 c) (hi8 c) = c := by
  rw [Int32.lt_iff_toInt_lt] at h0 h1
  have e0 : (0 : Int32).toInt = 0 := rfl
  have e1 : (65535 : Int32).toInt = 65535 := rfl
  have hc : c.toInt = c.toBitVec.toNat := by
    have := c.toBitVec.isLt
    have e : c.toInt = c.toBitVec.toInt := rfl
    rw [e] at h0 h1
    rw [e]
    rw [BitVec.toInt_eq_toNat_cond] at h0 h1 ⊢
    split at h0 <;> split <;> omega
  have hn : c.toBitVec.toNat < 65536 := by omega
  have a1 := lo8_and c
  have a2 : (hi8 c &&& 255).toBitVec.toNat = c.toBitVec.toNat / 256 := by
    rw [hi8, lo8_and]
    have e : ((8 : Int32) &&& 31) = 8 := by decide
    rw [e, Int32.toBitVec_shiftRight]
    have e2 : ((8 : Int32).toBitVec.smod 32) = 8#32 := by decide
    rw [e2, BitVec.sshiftRight_eq', BitVec.toNat_sshiftRight_of_msb_false (by rw [BitVec.msb_eq_false_iff_two_mul_lt]; omega)]
    show c.toBitVec.toNat >>> 8 % 256 = _
    rw [Nat.shiftRight_eq_div_pow]
    omega
  unfold pairCh
  apply Int32.toBitVec_inj.mp
  apply BitVec.eq_of_toNat_eq
  have f0 : ((0 : Int32) &&& 31) = 0 := by decide
  have f8 : ((8 : Int32) &&& 31) = 8 := by decide
  rw [f0, f8]
  have g : (((lo8 c &&& 255) <<< (0 : Int32)) ||| ((hi8 c &&& 255) <<< (8 : Int32))).toBitVec.toNat = c.toBitVec.toNat := by
    rw [Int32.toBitVec_or, Int32.toBitVec_shiftLeft, Int32.toBitVec_shiftLeft]
    have s0 : ((0 : Int32).toBitVec.smod 32) = 0#32 := by decide
    have s8 : ((8 : Int32).toBitVec.smod 32) = 8#32 := by decide
    rw [s0, s8, BitVec.toNat_or]
    simp only [BitVec.shiftLeft_eq', BitVec.toNat_shiftLeft, a1, a2]
    show (c.toBitVec.toNat % 256) <<< 0 % 2 ^ 32 ||| (c.toBitVec.toNat / 256) <<< 8 % 2 ^ 32 = _
    rw [Nat.shiftLeft_zero, Nat.mod_eq_of_lt (show c.toBitVec.toNat % 256 < 2 ^ 32 by omega), Nat.mod_eq_of_lt (show (c.toBitVec.toNat / 256) <<< 8 < 2 ^ 32 by rw [Nat.shiftLeft_eq]; omega), Nat.or_comm, ← Nat.shiftLeft_add_eq_or_of_lt (by omega), Nat.shiftLeft_eq]
    omega
  show BitVec.toNat (((((lo8 c &&& 255) <<< (0 : Int32)) ||| ((hi8 c &&& 255) <<< (8 : Int32))).toBitVec.setWidth 16).setWidth 32) = _
  rw [BitVec.toNat_setWidth, BitVec.toNat_setWidth, g]
  omega
end StrChars
namespace StrChars
open Jvm Sem ClassFile Op Lib Jvm.Stand Jvm.Free.XT Jvm.Free.ALB Jvm.Free.JM Jvm.Free
open Jvm.Lib.Cold (StaticIs)
/-- charAt's cast of a byte read back -/
def chr8 (u : Int32) : Int32 := (u &&& 255).toUInt32.toUInt16.toUInt32.toInt32
theorem chr8_lo8 {c : Int32} (h0 : ¬ c < 0) (h1 : ¬ 255 < c) : chr8 (lo8 c) = c := by
  have t : ∀ k : Fin 256, (Int32.ofNat k.val).toUInt32.toUInt16.toUInt32.toInt32 = Int32.ofNat k.val := by decide +kernel
  unfold chr8
  rw [lo8_mask h0 h1]
  rw [Int32.lt_iff_toInt_lt] at h0 h1
  have e0 : (0 : Int32).toInt = 0 := rfl
  have e1 : (255 : Int32).toInt = 255 := rfl
  obtain ⟨k, hk⟩ : ∃ k : Nat, c.toInt = k := ⟨c.toInt.toNat, by omega⟩
  have hx : c = Int32.ofNat k := Int32.toInt_inj.mp (by rw [hk, Int32.toInt_ofNat_small (by omega)])
  rw [hx]
  exact t ⟨k, by omega⟩
theorem narrow_ch {c : Int32} (h0 : ¬ c < 0) (h1 : ¬ 65535 < c) : narrow .char (.int c) = .int c := by
  have q : narrow .char (.int (pairCh (lo8 c) (hi8 c))) = .int (pairCh (lo8 c) (hi8 c)) := narrow_c _
  rwa [pair_says h0 h1] at q
/-- the array's cell V codes the n chars f 0 .. f (n - 1) by the coder cd, as the JDK does: coder 1 just where some char is above 255 -/
def Cod (cd : Int32) (n : Nat) (f : Nat → Int32) (V : Cell) : Prop := (cd = 0 ∧ V.slots.size = n ∧ ∀ j, j < n → V.slots[j]? = some (.int (lo8 (f j))) ∧ ¬ 255 < f j) ∨ (cd = 1 ∧ V.slots.size = 2 * n ∧ (∀ j, j < n → V.slots[2 * j]? = some (.int (lo8 (f j))) ∧ V.slots[2 * j + 1]? = some (.int (hi8 (f j)))) ∧ ∃ j, j < n ∧ 255 < f j)
theorem Cod.cd {cd : Int32} {n : Nat} {f : Nat → Int32} {V : Cell} (h : Cod cd n f V) : cd = 0 ∨ cd = 1 := h.imp (fun q => q.1) fun q => q.1
/-- **x is a String of the n chars f 0 .. f (n - 1)**, Latin-1 or UTF-16; its array at t has the cell V -/
def Txt (x t : Addr) (V : Cell) (cd : Int32) (n : Nat) (f : Nat → Int32) (U : State) : Prop := Exact "java/lang/String" x U ∧ Has x "java/lang/String" "value" "[B" (.ref t) U ∧ Has x "java/lang/String" "coder" "B" (.int cd) U ∧ XT.Arr .byte t V U ∧ Cod cd n f V ∧ ∀ j, j < n → ¬ f j < 0 ∧ ¬ 65535 < f j
theorem Txt.mv {x t : Addr} {V : Cell} {cd : Int32} {n : Nat} {f : Nat → Int32} {U U' : State} (h : Txt x t V cd n f U) (hal : U.vm.Alike U'.vm) (hh : U'.heap = U.heap) : Txt x t V cd n f U' := ⟨h.1.mv hal hh, h.2.1.mv hal hh, h.2.2.1.mv hal hh, h.2.2.2.1.mv hal hh, h.2.2.2.2⟩
namespace IsL
def yN : MethodName := ⟨"java/lang/String", "isLatin1", "()Z"⟩
abbrev yB : ByteArray := jdk_42_method_154_code
theorem d0 : decode yB 0 = .ok (.getstatic 38, 3) := by decide +kernel
theorem d3 : decode yB 3 = .ok (.ifCond (.eq) 14, 3) := by decide +kernel
theorem d6 : decode yB 6 = .ok (.aload_n 0, 1) := by decide +kernel
theorem d7 : decode yB 7 = .ok (.getfield 15, 3) := by decide +kernel
theorem d10 : decode yB 10 = .ok (.ifCond (.ne) 7, 3) := by decide +kernel
theorem d13 : decode yB 13 = .ok (.iconst 1, 1) := by decide +kernel
theorem d14 : decode yB 14 = .ok (.goto 4, 3) := by decide +kernel
theorem d17 : decode yB 17 = .ok (.iconst 0, 1) := by decide +kernel
theorem d18 : decode yB 18 = .ok (.ireturn, 1) := by decide +kernel
def site : List Cond := [.fieldLink "java/lang/String" 38 "java/lang/String" "COMPACT_STRINGS" "Z", .fieldLink "java/lang/String" 15 "java/lang/String" "coder" "B"]
def tab : Cond := tabOf yN yB 1 (some .boolean) site
def P (x : Addr) (cd z : Int32) (args : Array Value) (s : State) : Prop := args = #[.ref x] ∧ Has x "java/lang/String" "coder" "B" (.int cd) s ∧ (cd = 0 ∨ cd = 1) ∧ StaticIs s "java/lang/String" "COMPACT_STRINGS" "Z" (.int z) ∧ ¬ z = 0
def E (cd : Int32) (r : Option Value) (s u : State) : Prop := XT.PureE (some (.int (1 - cd))) r s u
theorem law (l : Launch) (x : Addr) (cd z : Int32) : Law l yN 1 0 0 0 yB 1 (some .boolean) site (P x cd z) (E cd) [] 0 0 := by
  refine Law.of_walk (plainFor_of_name (by decide +kernel)) (by decide +kernel) (by decide +kernel) (by decide) (fun _ _ h => by rw [h.1]; rfl) (fun _ U U' hal hh h => ⟨h.1, h.2.1.mv hal hh, h.2.2.1, h.2.2.2.1.there hal hh, h.2.2.2.2⟩) (fun r U U' V V' h1 hal h2 h => XT.PureE.mv r U U' V V' h1 hal h2 h) ?_
  intro p e s m args below meth c s₁ X0 hexec hbytes hml hret hlk hnm hown hh0 W hP
  obtain ⟨rfl, hx, hc, s1, hz⟩ := hP
  have c1 : Steps p.tables e below (s₁.setTop (entryFrame m #[.ref x] 1)) (s₁.setTop (mkF m 0 #[.val (.ref x)] [])) := entry rfl
  obtain ⟨T2, X2, q2, st2⟩ := X0.sget hexec hown (wk W (.fieldLink "java/lang/String" 38 "java/lang/String" "COMPACT_STRINGS" "Z")) s1 (fun _ _ h => by rw [hh0]; exact h) (g := (mkF m 0 #[.val (.ref x)] [])) rfl (hb hbytes d0)
  have hh2 := q2.trans hh0
  have c3 : Steps p.tables e below (s₁.setTop (entryFrame m #[.ref x] 1)) (T2.setTop (mkF m 7 #[.val (.ref x)] [.ref x])) := (c1.trans (st2 _ (Steps.refl _))).trans (by
    refine XS.ifNo X2.here hexec rfl (hb hbytes d3) rfl (i0_eq_f hz) ?_
    refine XS.aloadN X2.here hexec rfl (hb hbytes d6) rfl rfl ?_
    exact Steps.refl _)
  obtain ⟨T4, X4, q4, st4⟩ := X2.hget hexec hown (wk W (.fieldLink "java/lang/String" 15 "java/lang/String" "coder" "B")) (hx.mv X2.warmed.alike hh2) (g := (mkF m 7 #[.val (.ref x)] [.ref x])) rfl (rest := []) rfl (hb hbytes d7)
  have c5 : Steps p.tables e below (s₁.setTop (entryFrame m #[.ref x] 1)) (T4.setTop (mkF m 10 #[.val (.ref x)] [.int cd])) := c3.trans (st4 _ (Steps.refl _))
  have c6 : Steps p.tables e below (s₁.setTop (entryFrame m #[.ref x] 1)) (T4.setTop (mkF m 18 #[.val (.ref x)] [.int (1 - cd)])) := by
    rcases hc with rfl | rfl
    · exact c5.trans (by
        refine XS.ifNo X4.here hexec rfl (hb hbytes d10) rfl (i0_ne_f rfl) ?_
        refine iconstV X4.here hexec rfl 1 (hb hbytes d13) (by decide) ?_
        refine XS.goto X4.here hexec rfl (pc0 := 14) rfl (hb hbytes d14) (by decide) rfl ?_
        exact Steps.refl _)
    · exact c5.trans (by
        refine XS.ifYes X4.here hexec rfl (pc0 := 10) rfl (hb hbytes d10) rfl (i0_ne_t (by decide)) (by decide) rfl ?_
        refine iconstV X4.here hexec rfl 0 (hb hbytes d17) (by decide) ?_
        exact Steps.refl _)
  exact ⟨T4, some (.int (1 - cd)), _, _, _, X4, rfl, rfl, rfl, (fun h => by cases h), ⟨rfl, q4.trans hh2⟩, fun fs hl => c6.trans (X4.ireturnOut hexec hret (by rcases hc with rfl | rfl <;> rfl) (Or.inr (Or.inl rfl)) (hb hbytes d18) hl)⟩
end IsL
namespace LChA
def yN : MethodName := ⟨"java/lang/StringLatin1", "charAt", "([BI)C"⟩
abbrev yB : ByteArray := jdk_43_method_2_code
theorem d0 : decode yB 0 = .ok (.iload_n 1, 1) := by decide +kernel
theorem d1 : decode yB 1 = .ok (.aload_n 0, 1) := by decide +kernel
theorem d2 : decode yB 2 = .ok (.arraylength, 1) := by decide +kernel
theorem d3 : decode yB 3 = .ok (.invokestatic 9, 3) := by decide +kernel
theorem d6 : decode yB 6 = .ok (.aload_n 0, 1) := by decide +kernel
theorem d7 : decode yB 7 = .ok (.iload_n 1, 1) := by decide +kernel
theorem d8 : decode yB 8 = .ok (.baload, 1) := by decide +kernel
theorem d9 : decode yB 9 = .ok (.sipush 255, 3) := by decide +kernel
theorem d12 : decode yB 12 = .ok (.iand, 1) := by decide +kernel
theorem d13 : decode yB 13 = .ok (.i2c, 1) := by decide +kernel
theorem d14 : decode yB 14 = .ok (.ireturn, 1) := by decide +kernel
def site : List Cond := [JO.Str_checkIndex.tab] ++ staticW "java/lang/StringLatin1" 9 JO.Str_checkIndex.yN
def tab : Cond := tabOf yN yB 2 (some .char) site
def P (t : Addr) (V : Cell) (i : Nat) (u : Int32) (fm : Value) (args : Array Value) (s : State) : Prop := args = #[.ref t, .int (Int32.ofNat i)] ∧ XT.Arr .byte t V s ∧ V.slots[i]? = some (.int u) ∧ (StaticIs s "jdk/internal/util/Preconditions" "SIOOBE_FORMATTER" "Ljava/util/function/BiFunction;" fm ∧ fm.isRef = true)
def E (u : Int32) (r : Option Value) (s w : State) : Prop := XT.PureE (some (.int (chr8 u))) r s w
theorem law (l : Launch) (t : Addr) (V : Cell) (i : Nat) (u : Int32) (fm : Value) : Law l yN 2 2 2 27 yB 2 (some .char) site (P t V i u fm) (E u) [] 0 0 := by
  refine Law.of_walk (plainFor_of_name (by decide +kernel)) (by decide +kernel) (by decide +kernel) (by decide) (fun _ _ h => by rw [h.1]; rfl) (fun _ U U' hal hh h => ⟨h.1, h.2.1.mv hal hh, h.2.2.1, h.2.2.2.1.there hal hh, h.2.2.2.2⟩) (fun r U U' V V' h1 hal h2 h => XT.PureE.mv r U U' V V' h1 hal h2 h) ?_
  intro p e s m args below meth c s₁ X0 hexec hbytes hml hret hlk hnm hown hh0 W hP
  obtain ⟨rfl, hV, hu, s1, rf⟩ := hP
  have v31 := hV.2.2.2
  have hi : i < V.slots.size := (Array.getElem?_eq_some_iff.mp hu).1
  have c1 : Steps p.tables e below (s₁.setTop (entryFrame m #[.ref t, .int (Int32.ofNat i)] 2)) (s₁.setTop (mkF m 0 #[.val (.ref t), .val (.int (Int32.ofNat i))] [])) := entry rfl
  have c2 : Steps p.tables e below (s₁.setTop (entryFrame m #[.ref t, .int (Int32.ofNat i)] 2)) (s₁.setTop (mkF m 3 #[.val (.ref t), .val (.int (Int32.ofNat i))] [.int (Int32.ofNat V.slots.size), .int (Int32.ofNat i)])) := c1.trans (by
    refine XS.iloadN X0.here hexec rfl (hb hbytes d0) rfl ?_
    refine XS.aloadN X0.here hexec rfl (hb hbytes d1) rfl rfl ?_
    refine X0.alen hexec (hV.mv X0.warmed.alike hh0) rfl rfl (hb hbytes d2) ?_
    exact Steps.refl _)
  obtain ⟨v3, T3, X3, E3, g3⟩ := X0.callS hexec (JO.Str_checkIndex.law l (Int32.ofNat i) (Int32.ofNat V.slots.size) fm) hown (wks W (staticW "java/lang/StringLatin1" 9 JO.Str_checkIndex.yN)) (wk W JO.Str_checkIndex.tab) (W := 0) (Nat.le_of_ble_eq_true rfl) (Nat.le_of_ble_eq_true rfl) (Nat.le_refl _) (Nat.le_refl _) (g := (mkF m 3 #[.val (.ref t), .val (.int (Int32.ofNat i))] [.int (Int32.ofNat V.slots.size), .int (Int32.ofNat i)])) rfl (by rw [hml]; rfl) c2 (argsL := [.int (Int32.ofNat i), .int (Int32.ofNat V.slots.size)]) (rest := []) rfl rfl (by show 2 * 0 + 0 ≤ _; decide) (hb hbytes d3) (⟨rfl, rf, s1.there X0.warmed.alike hh0, Int32.ofNat_not_neg (by omega), lt32 v31 hi⟩)
  obtain ⟨rfl, q3⟩ := E3
  have hh3 := q3.trans hh0
  have c4 : Steps p.tables e below (s₁.setTop (entryFrame m #[.ref t, .int (Int32.ofNat i)] 2)) (T3.setTop (mkF m 14 #[.val (.ref t), .val (.int (Int32.ofNat i))] [.int (chr8 u)])) := Steps.trans g3 (by
    refine XS.aloadN X3.here hexec rfl (hb hbytes d6) rfl rfl ?_
    refine XS.iloadN X3.here hexec rfl (hb hbytes d7) rfl ?_
    refine X3.aget hexec (hV.mv X3.warmed.alike hh3) rfl hu rfl rfl (hb hbytes d8) ?_
    refine sipushV X3.here hexec rfl 255 (hb hbytes d9) (by decide) ?_
    refine XS.iand X3.here hexec rfl (hb hbytes d12) rfl ?_
    refine i2c X3.here hexec rfl (hb hbytes d13) rfl ?_
    exact Steps.refl _)
  exact ⟨T3, some (.int (chr8 u)), _, _, _, X3, rfl, rfl, rfl, (fun h => by cases h), ⟨rfl, hh3⟩, fun fs hl => c4.trans (X3.ireturnOut hexec hret (narrow_c _) (Or.inr (Or.inr (Or.inr (Or.inl rfl)))) (hb hbytes d14) hl)⟩
end LChA
end StrChars
namespace StrChars.Road
open Jvm Sem ClassFile Op Lib Jvm.Stand Jvm.Free Jvm.Free.XT
open Jvm.Lib.Cold (StaticIs)
theorem consq {a : Array Value} {s : State} {c : Jvm.Cond} {L : List Jvm.Cond} (h0 : c.before a s = true) (h : ∀ w ∈ L, w.before a s = true) : ∀ w ∈ c :: L, w.before a s = true := fun w hw => (List.mem_cons.mp hw).elim (fun e => e ▸ h0) (h w)
/-- the bytes of the chars cs, low before high -/
def wideBytes : List Int32 → List Value
  | [] => []
  | c :: cs => .int (lo8 c) :: .int (hi8 c) :: wideBytes cs
theorem wide_lo (d : Value) : ∀ (cs : List Int32) (j : Nat), j < cs.length → (wideBytes cs).getD (2 * j) d = .int (lo8 (cs.getD j 0))
  | [], j, h => absurd h (Nat.not_lt_zero j)
  | c :: cs, 0, _ => rfl
  | c :: cs, j + 1, h => by
    have q := wide_lo d cs j (by simpa using h)
    rw [show 2 * (j + 1) = 2 * j + 1 + 1 from by omega]
    simpa [wideBytes] using q
theorem wide_hi (d : Value) : ∀ (cs : List Int32) (j : Nat), j < cs.length → (wideBytes cs).getD (2 * j + 1) d = .int (hi8 (cs.getD j 0))
  | [], j, h => absurd h (Nat.not_lt_zero j)
  | c :: cs, 0, _ => rfl
  | c :: cs, j + 1, h => by
    have q := wide_hi d cs j (by simpa using h)
    rw [show 2 * (j + 1) + 1 = 2 * j + 1 + 1 + 1 from by omega]
    simpa [wideBytes] using q
theorem low_at (d : Value) (cs : List Int32) (j : Nat) (h : j < cs.length) : (cs.map fun c => Value.int (lo8 c)).getD j d = .int (lo8 (cs.getD j 0)) := by
  simp [List.getD_eq_getElem?_getD, h]
/-- an array of N2 bytes vs codes the chars cs by the coder cd -/
def CodA (cs : List Int32) (cd N2 : Int32) (vs : List Value) : Prop := (cd = 0 ∧ N2 = Int32.ofNat cs.length ∧ vs = (cs.map fun c => Value.int (lo8 c)) ∧ ∀ c ∈ cs, ¬ 255 < c) ∨ (cd = 1 ∧ N2 = Int32.ofNat (2 * cs.length) ∧ vs = wideBytes cs ∧ ∃ c ∈ cs, 255 < c)
theorem CodA.cod {cs : List Int32} {cd N2 : Int32} {vs : List Value} {V : Cell} (h : CodA cs cd N2 vs) (hn : 2 * cs.length < 2 ^ 31) (hs : V.slots.size = N2.toNatClampNeg) (hv : RoadKit.Has V vs (.int 0)) : Cod cd cs.length (fun j => cs.getD j 0) V := by
  rcases h with ⟨rfl, rfl, rfl, h⟩ | ⟨rfl, rfl, rfl, c, hc, hw⟩
  · rw [n32 (by omega)] at hs
    exact Or.inl ⟨rfl, hs, fun j hj => ⟨by rw [hv j (by omega), low_at _ _ _ hj], by
      have e : cs.getD j 0 = cs[j] := by simp [List.getD_eq_getElem?_getD, hj]
      show ¬ 255 < cs.getD j 0
      rw [e]; exact h _ (List.getElem_mem _)⟩⟩
  · rw [n32 (by omega)] at hs
    obtain ⟨j, hj, rfl⟩ := List.getElem_of_mem hc
    exact Or.inr ⟨rfl, hs, fun j hj => ⟨by rw [hv _ (by omega), wide_lo _ _ _ hj], by rw [hv _ (by omega), wide_hi _ _ _ hj]⟩, j, hj, by
      have e : cs.getD j 0 = cs[j] := by simp [List.getD_eq_getElem?_getD, hj]
      show 255 < cs.getD j 0
      rw [e]; exact hw⟩
/-- an object of exactly java/lang/String, its two fields found: as the laws ask it -/
theorem strObj {Z U : State} {a0 : Array Value} {kI : Nat} (wi : (Jvm.Cond.instantiable ST kI).before a0 Z = true) (al : Z.vm.Alike U.vm) {x : Addr} {v0 c0 : Value} (E : RoadKit.Exa Z U.heap x ST) (V : RoadKit.Fld Z U.heap x ST "value" "[B" v0) (C : RoadKit.Fld Z U.heap x ST "coder" "B" c0) :
    ∃ (D : Cell) (fV fC : Field), Blank ST x D U ∧ Found ST "value" "[B" fV U ∧ Found ST "coder" "B" fC U ∧ D.slots[fV.slot]? = some v0 ∧ D.slots[fC.slot]? = some c0 ∧ RoadKit.slotOf Z ST "value" "[B" = fV.slot ∧ RoadKit.slotOf Z ST "coder" "B" = fC.slot := by
  obtain ⟨D, cfV, kV, iV, fV, hD, gV, stV, knV, obV, asV, slV⟩ := V
  obtain ⟨D', cfC, kC, iC, fC, hD', gC, stC, -, -, asC, slC⟩ := C
  cases hD.symm.trans hD'
  obtain ⟨D2, kD, e1, e2, e3, e4, e5⟩ := E
  cases hD.symm.trans e1
  obtain ⟨c2, k2, i1, i2, i3, -⟩ := Cond.instantiable_spec wi
  cases e2.symm.trans i1
  cases e3.symm.trans i2
  obtain ⟨kU, u1, u2⟩ := al.2.2 _ _ e3
  exact ⟨D, fV, fC, ⟨hD, ⟨knV, fun q hq => by rw [hq] at obV; cases obV⟩, by rw [al.findClass]; exact e2, kU, u1, by rw [u2]; exact i3, by rw [u2]; exact e5 i3⟩, ⟨SBG.found_only al ⟨cfV, kV, iV, gV⟩, stV⟩, ⟨SBG.found_only al ⟨cfC, kC, iC, gC⟩, stC⟩, slV, slC, by simp [RoadKit.slotOf, gV], by simp [RoadKit.slotOf, gC]⟩
theorem sta_is {Z U : State} (al : Z.vm.Alike U.vm) {C n d : String} {v : Value} (S : RoadKit.Sta Z U.heap C n d v) : StaticIs U C n d v := by
  obtain ⟨cfS, iS, kS, fS, st, cS, t1, t2, t3, t4, t5, t6, t7⟩ := S
  exact StaticIs.there (s := { Z with heap := U.heap }) ⟨cfS, iS, kS, fS, st, cS, t1, t2, t3, t4, t5, (fun q => by rw [q] at t6; cases t6), t7⟩ al rfl
end StrChars.Road
namespace StrChars.Road
open Jvm Sem ClassFile Op Lib Jvm.Stand Jvm.Free Jvm.Free.XT
open Jvm.Lib.Cold (StaticIs)
/-- the road's facts of a String, as the laws ask it -/
theorem txt_of {Z U : State} {a0 : Array Value} {kI : Nat} (wi : (Jvm.Cond.instantiable ST kI).before a0 Z = true) (al : Z.vm.Alike U.vm) {x t : Addr} {kb : ClassId} {cs : List Int32} {cd N2 : Int32} {vs : List Value} (E : RoadKit.Exa Z U.heap x ST) (V : RoadKit.Fld Z U.heap x ST "value" "[B" (.ref t)) (C : RoadKit.Fld Z U.heap x ST "coder" "B" (.int cd)) (K : RoadKit.Arv Z U.heap t kb .byte N2 vs (.int 0)) (hc : CodA cs cd N2 vs) (hb : ∀ c ∈ cs, ¬ c < 0 ∧ ¬ (65535 : Int32) < c) (l2 : cs.length ≤ 4000) :
    ∃ A, Txt x t A cd cs.length (fun j => cs.getD j 0) U := by
  obtain ⟨A, K1, K2, K3, K4, K5, K6⟩ := K
  have hcod := hc.cod (by omega) K3 K5
  obtain ⟨D, fV, fC, hB, F1, F2, g1, g2, -, -⟩ := strObj wi al E V C
  exact ⟨A, ⟨_, hB.2.2.1, D, hB.1, rfl, by cases q : D.vm <;> first | rfl | exact absurd q (hB.2.1.2 _)⟩, Has.of hB F1 g1, Has.of hB F2 g2, ⟨K1.1, State.isArrayOf_alike al K1.2.1, K1.2.2, by rcases hcod with ⟨-, q, -⟩ | ⟨-, q, -⟩ <;> omega⟩, hcod, fun j hj => by
    have e : cs.getD j 0 = cs[j] := by simp [List.getD_eq_getElem?_getD, hj]
    show ¬ cs.getD j 0 < 0 ∧ ¬ 65535 < cs.getD j 0
    rw [e]; exact hb _ (List.getElem_mem _)⟩
end StrChars.Road
namespace StrChars
open Jvm Sem ClassFile Op Lib Jvm.Stand Jvm.Free.XT Jvm.Free.ALB Jvm.Free.JM Jvm.Free
open Jvm.Lib.Cold (StaticIs)
namespace ChN
def yN : MethodName := ⟨"java/lang/String", "charAt", "(I)C"⟩
abbrev yB : ByteArray := jdk_42_method_56_code
theorem d0 : decode yB 0 = .ok (.aload_n 0, 1) := by decide +kernel
theorem d1 : decode yB 1 = .ok (.invokevirtual 492, 3) := by decide +kernel
theorem d4 : decode yB 4 = .ok (.ifCond (.eq) 12, 3) := by decide +kernel
theorem d7 : decode yB 7 = .ok (.aload_n 0, 1) := by decide +kernel
theorem d8 : decode yB 8 = .ok (.getfield 9, 3) := by decide +kernel
theorem d11 : decode yB 11 = .ok (.iload_n 1, 1) := by decide +kernel
theorem d12 : decode yB 12 = .ok (.invokestatic 495, 3) := by decide +kernel
theorem d15 : decode yB 15 = .ok (.ireturn, 1) := by decide +kernel
def site : List Cond := [.fieldLink "java/lang/String" 9 "java/lang/String" "value" "[B", IsL.tab, LChA.tab] ++ virtW "java/lang/String" 492 "java/lang/String" IsL.yN IsL.yN ++ staticW "java/lang/String" 495 LChA.yN
def tab : Cond := tabOf yN yB 2 (some .char) site
def P (x t : Addr) (V : Cell) (n : Nat) (f : Nat → Int32) (z : Int32) (fm : Value) (i : Nat) (args : Array Value) (s : State) : Prop := args = #[.ref x, .int (Int32.ofNat i)] ∧ Txt x t V 0 n f s ∧ i < n ∧ StaticIs s "java/lang/String" "COMPACT_STRINGS" "Z" (.int z) ∧ ¬ z = 0 ∧ StaticIs s "jdk/internal/util/Preconditions" "SIOOBE_FORMATTER" "Ljava/util/function/BiFunction;" fm ∧ fm.isRef = true
def E (f : Nat → Int32) (i : Nat) (r : Option Value) (s u : State) : Prop := XT.PureE (some (.int (f i))) r s u
/-- charAt(i) of a Latin-1 String of n chars, i < n: f i -/
theorem law (l : Launch) (x t : Addr) (V : Cell) (n : Nat) (f : Nat → Int32) (z : Int32) (fm : Value) (i : Nat) : Law l yN 2 1 3 40 yB 2 (some .char) site (P x t V n f z fm i) (E f i) [] 0 0 := by
  refine Law.of_walk (plainFor_of_name (by decide +kernel)) (by decide +kernel) (by decide +kernel) (by decide) (fun _ _ h => by rw [h.1]; rfl) (fun _ U U' hal hh h => ⟨h.1, h.2.1.mv hal hh, h.2.2.1, h.2.2.2.1.there hal hh, h.2.2.2.2.1, h.2.2.2.2.2.1.there hal hh, h.2.2.2.2.2.2⟩) (fun r U U' V V' h1 hal h2 h => XT.PureE.mv r U U' V V' h1 hal h2 h) ?_
  intro p e s m args below meth c s₁ X0 hexec hbytes hml hret hlk hnm hown hh0 W hP
  obtain ⟨rfl, hx, hi, s1, hz, s3, rf⟩ := hP
  have v31 := hx.2.2.2.1.2.2.2
  have hr := hx.2.2.2.2.2 i hi
  have hx0 := hx.mv X0.warmed.alike hh0
  have c1 : Steps p.tables e below (s₁.setTop (entryFrame m #[.ref x, .int (Int32.ofNat i)] 2)) (s₁.setTop (mkF m 1 #[.val (.ref x), .val (.int (Int32.ofNat i))] [.ref x])) := Steps.trans (entry rfl) (by
    show Steps p.tables e below (s₁.setTop (mkF m 0 #[.val (.ref x), .val (.int (Int32.ofNat i))] [])) _
    refine XS.aloadN X0.here hexec rfl (hb hbytes d0) rfl rfl ?_
    exact Steps.refl _)
  obtain ⟨v2, T2, X2, E2, g2⟩ := X0.callV hexec (IsL.law l x 0 z) hown (wks W (virtW "java/lang/String" 492 "java/lang/String" IsL.yN IsL.yN)) rfl (by decide) (wk W IsL.tab) (W := 0) (Nat.le_of_ble_eq_true rfl) (Nat.le_of_ble_eq_true rfl) (Nat.le_refl _) (Nat.le_refl _) (hx0.1.fc X0.warmed.alike) hx0.1.is (g := (mkF m 1 #[.val (.ref x), .val (.int (Int32.ofNat i))] [.ref x])) rfl (by rw [hml]; rfl) c1 (argsL := []) (rest := []) rfl rfl (by show 2 * 0 + 0 ≤ _; decide) (hb hbytes d1) (⟨rfl, hx0.2.2.1, hx.2.2.2.2.1.cd, s1.there X0.warmed.alike hh0, hz⟩)
  obtain ⟨rfl, q2⟩ := E2
  have hh2 := q2.trans hh0
  have hx2 := hx.mv X2.warmed.alike hh2
  obtain ⟨-, k1, k2⟩ | ⟨k0, -⟩ := hx.2.2.2.2.1
  · have c3 : Steps p.tables e below (s₁.setTop (entryFrame m #[.ref x, .int (Int32.ofNat i)] 2)) (T2.setTop (mkF m 8 #[.val (.ref x), .val (.int (Int32.ofNat i))] [.ref x])) := Steps.trans g2 (by
      refine XS.ifNo X2.here hexec rfl (hb hbytes d4) rfl (i0_eq_f (by decide)) ?_
      refine XS.aloadN X2.here hexec rfl (hb hbytes d7) rfl rfl ?_
      exact Steps.refl _)
    obtain ⟨T4, X4, q4, st4⟩ := X2.hget hexec hown (wk W (.fieldLink "java/lang/String" 9 "java/lang/String" "value" "[B")) hx2.2.1 (g := (mkF m 8 #[.val (.ref x), .val (.int (Int32.ofNat i))] [.ref x])) rfl (rest := []) rfl (hb hbytes d8)
    have hh4 := q4.trans hh2
    have c5 : Steps p.tables e below (s₁.setTop (entryFrame m #[.ref x, .int (Int32.ofNat i)] 2)) (T4.setTop (mkF m 12 #[.val (.ref x), .val (.int (Int32.ofNat i))] [.int (Int32.ofNat i), .ref t])) := (c3.trans (st4 _ (Steps.refl _))).trans (by
      refine XS.iloadN X4.here hexec rfl (hb hbytes d11) rfl ?_
      exact Steps.refl _)
    obtain ⟨v6, T6, X6, E6, g6⟩ := X4.callS hexec (LChA.law l t V i (lo8 (f i)) fm) hown (wks W (staticW "java/lang/String" 495 LChA.yN)) (wk W LChA.tab) (W := 0) (Nat.le_of_ble_eq_true rfl) (Nat.le_of_ble_eq_true rfl) (Nat.le_refl _) (Nat.le_refl _) (g := (mkF m 12 #[.val (.ref x), .val (.int (Int32.ofNat i))] [.int (Int32.ofNat i), .ref t])) rfl (by rw [hml]; rfl) c5 (argsL := [.ref t, .int (Int32.ofNat i)]) (rest := []) rfl rfl (by show 2 * 0 + 0 ≤ _; decide) (hb hbytes d12) (⟨rfl, hx.2.2.2.1.mv X4.warmed.alike hh4, (k2 i hi).1, s3.there X4.warmed.alike hh4, rf⟩)
    obtain ⟨rfl, q6⟩ := E6
    rw [chr8_lo8 hr.1 (k2 i hi).2] at g6
    exact ⟨T6, some (.int (f i)), _, _, _, X6, rfl, rfl, rfl, (fun h => by cases h), ⟨rfl, q6.trans hh4⟩, fun fs hl => Steps.trans g6 (X6.ireturnOut hexec hret (narrow_ch hr.1 hr.2) (Or.inr (Or.inr (Or.inr (Or.inl rfl)))) (hb hbytes d15) hl)⟩
  · exact absurd k0 (by decide)
theorem pays {l : Launch} {R : Room} {p : Program} {e : Env} {below : List Frame} {s : State} {sargs : Array Value} {len W : Nat} (x t : Addr) (V : Cell) (n : Nat) (f : Nat → Int32) (z : Int32) (fm : Value) (i : Nat) (htab : tab.before sargs s = true) (hfr : 4 ≤ R.frames) (hlo : W + 53 ≤ R.locals) :
    Back l R p e below s sargs yN len W (fun A₁ a₁ => A₁.cells + 0 ≤ R.cells ∧ A₁.slots + 0 ≤ R.slots ∧ P x t V n f z fm i a₁ A₁.U) (fun A₁ _ v₁ B₁ => E f i v₁ A₁.U B₁.U ∧ B₁.locs = A₁.locs ++ [] ∧ B₁.cells = A₁.cells + 0 ∧ B₁.slots = A₁.slots + 0) :=
  (law l x t V n f z fm i).pays htab hfr (by omega)
end ChN
end StrChars
namespace StrChars.Road
open Jvm Sem ClassFile Op Lib Jvm.Stand Jvm.Free Jvm.Free.XT
open Jvm.Lib.Cold (StaticIs)
/-- the words of String.charAt(int), the Latin-1 road alone -/
abbrev wordsChN : List Jvm.Cond := [.code ChN.yN ChN.yB 2 (some .char), .initialized ST, .fieldLink ST 9 ST "value" "[B", .fieldLink ST 38 ST "COMPACT_STRINGS" "Z", .fieldLink ST 15 ST "coder" "B", .code IsL.yN IsL.yB 1 (some .boolean), .methodLink ST 492 IsL.yN, .declares IsL.yN, .selects ST IsL.yN IsL.yN, .instanceMethod IsL.yN,
  .methodLink ST 495 LChA.yN, .static LChA.yN, .code LChA.yN LChA.yB 2 (some .char), .initialized "java/lang/StringLatin1", .methodLink "java/lang/StringLatin1" 9 JO.Str_checkIndex.yN, .static JO.Str_checkIndex.yN, .code JO.Str_checkIndex.yN JO.Str_checkIndex.yB 2 none,
  .fieldLink ST 1053 "jdk/internal/util/Preconditions" "SIOOBE_FORMATTER" "Ljava/util/function/BiFunction;", .methodLink ST 1059 JC.PreCheck.yN, .static JC.PreCheck.yN, .code JC.PreCheck.yN JC.PreCheck.yB 3 (some .int), .initialized "jdk/internal/util/Preconditions"]
theorem tabChN_of {a : Array Value} {s : State} (h : ∀ w ∈ wordsChN, w.before a s = true) : ChN.tab.before a s = true := by
  have hp : JC.PreCheck.tab.before a s = true := unparts (wk h (.code JC.PreCheck.yN JC.PreCheck.yB 3 (some .int))) (wks h (.initialized JC.PreCheck.yN.cls :: JC.PreCheck.site))
  have qk := consq hp h
  have hk : JO.Str_checkIndex.tab.before a s = true := unparts (wk qk (.code JO.Str_checkIndex.yN JO.Str_checkIndex.yB 2 none)) (wks qk (.initialized JO.Str_checkIndex.yN.cls :: JO.Str_checkIndex.site))
  have ql := consq hk h
  have hl : LChA.tab.before a s = true := unparts (wk ql (.code LChA.yN LChA.yB 2 (some .char))) (wks ql (.initialized LChA.yN.cls :: LChA.site))
  have hi : IsL.tab.before a s = true := unparts (wk h (.code IsL.yN IsL.yB 1 (some .boolean))) (wks h (.initialized IsL.yN.cls :: IsL.site))
  have q := consq hi (consq hl h)
  exact unparts (wk q (.code ChN.yN ChN.yB 2 (some .char))) (wks q (.initialized ChN.yN.cls :: ChN.site))
theorem movedChN {Z s : State} {a0 args : Array Value} (hZ : Z.Warmed39 s.vm) (hw : ∀ d ∈ wordsChN, d.before a0 Z = true) : ∀ d ∈ wordsChN, d.before args s = true := fun d hd => by
  have t : ∀ d ∈ wordsChN, (d.onTables && d.keepsFace) = true := by decide +kernel
  exact RoadKit.mv hZ (hw d hd) (t d hd)
/-- **charAt(i) OF A LATIN-1 STRING**, i < n: the char -/
theorem chN {p : Program} {l : Launch} {e : Env} {R : Room} {s : State} {args : Array Value} {below : List Frame} {len W : Nat} {Z : State} {a0 : Array Value} {h : Heap} (hZ : Z.Warmed39 s.vm) (hw : ∀ d ∈ wordsChN, d.before a0 Z = true) {kI : Nat} (wi : (Jvm.Cond.instantiable ST kI).before a0 Z = true)
    {x t : Addr} {kb : ClassId} {cs : List Int32} {N2 z : Int32} {vs : List Value} {fm : Value} {i : Nat} {j : Int32} (E : RoadKit.Exa Z h x ST) (V : RoadKit.Fld Z h x ST "value" "[B" (.ref t)) (C : RoadKit.Fld Z h x ST "coder" "B" (.int 0)) (K : RoadKit.Arv Z h t kb .byte N2 vs (.int 0)) (hc : CodA cs 0 N2 vs) (hb : ∀ c ∈ cs, ¬ c < 0 ∧ ¬ (65535 : Int32) < c)
    (S : RoadKit.Sta Z h ST "COMPACT_STRINGS" "Z" (.int z)) (hz : ¬ z = 0) (F : RoadKit.Sta Z h "jdk/internal/util/Preconditions" "SIOOBE_FORMATTER" "Ljava/util/function/BiFunction;" fm) (rf : fm.isRef = true) (l2 : cs.length ≤ 4000) (hi : i < cs.length) (hj : j = Int32.ofNat i) (hfr : 4 ≤ R.frames) (hlo : W + 53 ≤ R.locals) :
    Back l R p e below s args (⟨"java/lang/String", "charAt", "(I)C"⟩ : MethodName) len W (fun P a => a = #[.ref x, .int j] ∧ P.U.heap = h ∧ P.cells + 0 ≤ R.cells ∧ P.slots + 0 ≤ R.slots)
      (fun P _ v B => ∃ L, (v = some (.int (cs.getD i 0)) ∧ L = [] ∧ B.U.heap = h) ∧ B.locs = P.locs ++ L ∧ B.cells = P.cells + 0 ∧ B.slots = P.slots + 0) := by
  subst hj
  intro m meth c P g ig mk a X hg hsize hdg hW hn hp'
  obtain ⟨rfl, rfl, r1, r2⟩ := hp'
  have al : Z.vm.Alike P.U.vm := hZ.alike.trans X.warmed.alike
  obtain ⟨A, hx⟩ := txt_of wi al E V C K hc hb l2
  obtain ⟨v, B, X', ⟨⟨hv, hh⟩, hl, hk, hs⟩, st⟩ := ChN.pays x t A cs.length (fun j => cs.getD j 0) z fm i (tabChN_of (movedChN hZ hw)) hfr hlo m meth c P g ig mk _ X hg hsize hdg hW hn ⟨r1, r2, rfl, hx, hi, sta_is al S, hz, sta_is al F, rf⟩
  exact ⟨v, B, X', ⟨[], ⟨hv, rfl, hh⟩, hl, hk, hs⟩, st⟩
/-- what backV says of its String, as the contracts of this text ask it: cs's low bytes, coder 0 -/
theorem codOf {cs : List Int32} {n : Nat} (hn : cs.length = n) (hb : ∀ c ∈ cs, ¬ 255 < c) : CodA cs 0 (Int32.ofNat n) ((cs.map lo8).map Value.int) := Or.inl ⟨rfl, by rw [hn], by simp [List.map_map, Function.comp_def], hb⟩
end StrChars.Road
end Jvm.Pilot.@@N@@
namespace Jvm.Pilot.@@N@@
open Jvm Jvm.ClassFile Sem Op Lib Jvm.Free Jvm.Stand Jvm.LawKit Jvm.RoadKit Bundle Jvm.OwnK Jvm.Pilot.@@N@@.Jvm.D
def EL1 : List (String × Nat) := []
def Env1 (Z : State) (a0 : Array Value) : Prop := (∀ d ∈ tables_1, d.before a0 Z = true) ∧ EW Z a0 EL1 ∧ (∃ z : Int32, Sta Z Z.heap "java/lang/String" "COMPACT_STRINGS" "Z" (.int z) ∧ ¬ z = 0) ∧ ((∃ fm : Value, Sta Z Z.heap "jdk/internal/util/Preconditions" "SIOOBE_FORMATTER" "Ljava/util/function/BiFunction;" fm ∧ fm.isRef = true) ∧ ∃ oe : Addr, Sta Z Z.heap "java/util/Optional" "EMPTY" "Ljava/util/Optional;" (.ref oe) ∧ Exa Z Z.heap oe "java/util/Optional" ∧ Fld Z Z.heap oe "java/util/Optional" "value" "Ljava/lang/Object;" .null)
theorem wd {Z : State} {a0 : Array Value} (G : Env1 Z a0) (i : Nat) {d : Jvm.Cond} (h : tables_1[i]? = some d) : d.before a0 Z = true := G.1 d (List.mem_of_getElem? h)
abbrev STN : String := "java/lang/String"
/-- a String that spells the chars cs -/
def Str (Z : State) (h : Heap) (a : Addr) (cs : List Int32) : Prop := ∃ (b : Addr) (kb : ClassId) (cd N2 : Int32) (vs : List Value), Exa Z h a STN ∧ Fld Z h a STN "value" "[B" (.ref b) ∧ Fld Z h a STN "coder" "B" (.int cd) ∧ Arv Z h b kb .byte N2 vs (.int 0) ∧ StrChars.Road.CodA cs cd N2 vs ∧ (∀ c ∈ cs, ¬ c < 0 ∧ ¬ (65535 : Int32) < c) ∧ cs.length ≤ 4000
theorem Str.ext {Z : State} {h h' : Heap} {a : Addr} {cs : List Int32} (F : Str Z h a cs) (E : Ext h h') : Str Z h' a cs := by
  obtain ⟨b, kb, cd, N2, vs, f1, f2, f3, f4, r⟩ := F
  exact ⟨b, kb, cd, N2, vs, f1.ext E, f2.ext E, f3.ext E, f4.ext E, r⟩
theorem Str.exa {Z : State} {h : Heap} {a : Addr} {cs : List Int32} (F : Str Z h a cs) : Exa Z h a STN := by obtain ⟨b, kb, cd, N2, vs, f1, -⟩ := F; exact f1
theorem Str.lt {Z : State} {h : Heap} {a : Addr} {cs : List Int32} (F : Str Z h a cs) : a < h.size := F.exa.lt
theorem le16 {cs : List Int32} (h : ∀ c ∈ cs, ¬ c < 0 ∧ ¬ (255 : Int32) < c) : ∀ c ∈ cs, ¬ c < 0 ∧ ¬ (65535 : Int32) < c := fun c hc => ⟨(h c hc).1, fun q => (h c hc).2 (Int32.lt_trans (by decide) q)⟩
theorem and255 (x : Int32) : ¬ (x &&& 255) < 0 ∧ ¬ (255 : Int32) < (x &&& 255) := by
  have h := c_and x 255 (by decide)
  have e : (255 : Int32).toInt = 255 := by decide
  have e0 : (0 : Int32).toInt = 0 := by decide
  rw [Int32.lt_iff_toInt_lt, Int32.lt_iff_toInt_lt, e, e0]; omega
theorem wBackV : ∀ d ∈ StrChars.Road.words, d ∈ tables_1 := by decide +kernel
theorem pays_str {l : Launch} {R : Room} {Z : State} {a0 : Array Value} {sf : List Addr} {W : Nat} (G : Env1 Z a0) {x b : Addr} {kc : ClassId} (cs : List Int32) {d v0 c0 : Value} {N : Int32} (n : Nat) (h : Heap) (E : Exa Z h x STN) (V : Fld Z h x STN "value" "[B" v0) (C : Fld Z h x STN "coder" "B" c0) (K : Arv Z h b kc .char N (cs.map Value.int) d)
    (hn : cs.length = n) (hN : N = Int32.ofNat n) (l0 : 0 < n) (l2 : n ≤ 4000) (hp : ∀ c ∈ cs, ¬ c < 0 ∧ ¬ (255 : Int32) < c) (hsf : x ∈ sf) (hfr : 4 ≤ R.frames) (hlo : W + 65 ≤ R.locals) :
    Pays l R Z a0 EL1 sf (⟨"java/lang/String", "<init>", "([C)V"⟩ : MethodName) 3 W #[.ref x, .ref b] h 1 n (fun v h' => v = none ∧ Keep h h' [x] ∧ Str Z h' x cs) := by
  obtain ⟨z, hS, hz⟩ := G.2.2.1
  refine Pays.of_back (ws := [x]) (fun p e below s args hZ hE hsz => StrChars.Road.backV (n0 := Z.heap.size) (bs := cs.map (fun c => c.toInt8.toInt32)) hZ (fun d hd => G.1 d (wBackV d hd)) (kI := 4) (wd G 7 rfl) (hsz x hsf) hE.1 E V C K (hS.ext hE) hz hn hN l0 l2 hp rfl hfr hlo) (allS hsf all0) ?_
  intro v h' L hE q
  obtain ⟨q1, q2, q3, q4, q5, t, kb, -, -, -, q6, q7⟩ := q
  refine ⟨q2, q3, q1, q3, t, kb, 0, N, _, q4, q6, q5, q7, ?_, le16 hp, by omega⟩
  subst hN
  exact StrChars.Road.codOf hn (fun c hc => (hp c hc).2)
theorem wChr : ∀ d ∈ StrChars.Road.wordsChN, d ∈ tables_1 := by decide +kernel
theorem Str.cd0 {cs : List Int32} {cd N2 : Int32} {vs : List Value} (h : StrChars.Road.CodA cs cd N2 vs) (hl : ∀ c ∈ cs, ¬ (255 : Int32) < c) : cd = 0 := by
  rcases h with h | ⟨-, -, -, c, hc, q⟩
  · exact h.1
  · exact absurd q (hl c hc)
theorem pays_chr {l : Launch} {R : Room} {Z : State} {a0 : Array Value} {sf : List Addr} {W : Nat} (G : Env1 Z a0) {x : Addr} {cs : List Int32} (h : Heap) (i : Nat) {j : Int32} (F : Str Z h x cs) (hl : ∀ c ∈ cs, ¬ (255 : Int32) < c) (hi : i < cs.length) (hj : j = Int32.ofNat i) (hfr : 4 ≤ R.frames) (hlo : W + 53 ≤ R.locals) :
    Pays l R Z a0 EL1 sf (⟨"java/lang/String", "charAt", "(I)C"⟩ : MethodName) 3 W #[.ref x, .int j] h 0 0 (fun v h' => v = some (.int (cs.getD i 0)) ∧ h = h') := by
  obtain ⟨z, hS, hz⟩ := G.2.2.1
  obtain ⟨fm, hF, rf⟩ := G.2.2.2.1
  obtain ⟨b, kb, cd, N2, vs, f1, f2, f3, f4, f5, f6, f7⟩ := F
  obtain rfl : cd = 0 := Str.cd0 f5 hl
  refine Pays.of_back (ws := []) (QL := fun v h' L => v = some (.int (cs.getD i 0)) ∧ L = [] ∧ h' = h) (fun p e below s args hZ hE hsz => StrChars.Road.chN hZ (fun d hd => G.1 d (wChr d hd)) (kI := 4) (wd G 7 rfl) f1 f2 f3 f4 f5 f6 (hS.ext hE) hz (hF.ext hE) rf f7 hi hj hfr hlo) all0 ?_
  intro v h' L hE q
  obtain ⟨q1, q2, q3⟩ := q
  subst q2 q3
  exact ⟨Fr.nil _, Keep.refl _ _, q1, rfl⟩
theorem narrow_obj (C : String) (v : Value) : narrow (.object C) v = v := by cases v <;> rfl
theorem fits_obj {C : String} {v : Value} (h : v.isRef = true) : fits (.object C) v = true := by cases v <;> simp_all [Value.isRef, fits]
theorem narrow_bool {r : Int32} (h : r = 0 ∨ r = 1) : narrow .boolean (.int r) = .int r := by rcases h with rfl | rfl <;> rfl
theorem fits_bool {r : Int32} (h : r = 0 ∨ r = 1) : fits .boolean (.int r) = true := by rcases h with rfl | rfl <;> rfl
theorem and3 (x : Int32) : (x &&& 3) = 0 ∨ (x &&& 3) = 1 ∨ (x &&& 3) = 2 ∨ (x &&& 3) = 3 := by
  have h := c_and x 3 (by decide)
  have e : (3 : Int32).toInt = 3 := by decide
  rw [e] at h
  obtain ⟨i, hi, q⟩ := toInt_cases (n := 4) h.1 (by omega) (by decide)
  rw [q]
  match i, hi with
  | 0, _ => decide
  | 1, _ => decide
  | 2, _ => decide
  | 3, _ => decide
theorem and1 (x : Int32) : (x &&& 1) = 0 ∨ (x &&& 1) = 1 := and_one x
theorem mask31 (x : Int32) : 0 ≤ (x &&& 2147483647).toInt := (c_and x 2147483647 (by decide)).1
theorem rem3 (x : Int32) : ((x &&& 2147483647) % 3) = 0 ∨ ((x &&& 2147483647) % 3) = 1 ∨ ((x &&& 2147483647) % 3) = 2 := by
  have h := (c_iremV (x &&& 2147483647) 3).1 (mask31 x) (by decide)
  have e : (3 : Int32).toInt = 3 := by decide
  rw [e] at h
  obtain ⟨i, hi, q⟩ := toInt_cases (n := 3) h.1 (by omega) (by decide)
  rw [q]
  match i, hi with
  | 0, _ => decide
  | 1, _ => decide
  | 2, _ => decide
theorem nar255 {u : Int32} (h : ¬ u < 0 ∧ ¬ (255 : Int32) < u) : nar .char u = u := by
  have q := c_i2c u
  refine Int32.toInt_inj.mp ?_
  rw [Int32.lt_iff_toInt_lt, Int32.lt_iff_toInt_lt] at h
  have e : (255 : Int32).toInt = 255 := by decide
  have e0 : (0 : Int32).toInt = 0 := by decide
  rw [e, e0] at h
  show u.toUInt32.toUInt16.toUInt32.toInt32.toInt = u.toInt
  omega
/-! pure part of p065-m2-1 -/
def isD (c : Int32) : Prop := ¬ c < 48 ∧ ¬ (57 : Int32) < c
instance (c : Int32) : Decidable (isD c) := by unfold isD; infer_instance
def runE (cs : List Int32) (e : Nat) : Nat → Nat → Nat
  | 0, j => j
  | d + 1, j => if j < e ∧ isD (cs.getD j 0) then runE cs e d (j + 1) else j
def ceF (cs : List Int32) (i e : Nat) : Option Nat :=
  let j := runE cs e (e - i) i
  if j = i then none else if i + 1 < j ∧ cs.getD i 0 = 48 then none else some j
def mn64 (x : Int64) : Int64 := if (2147483647 : Int64) < x then 2147483647 else x
def cnF (cs : List Int32) : Nat → Nat → Int64 → Int64
  | 0, _, a => a
  | d + 1, i, a => cnF cs d (i + 1) (mn64 ((10 * a + (cs.getD i 0).toInt64) - 48))
def cnt (cs : List Int32) (i j : Nat) : Int32 := (cnF cs (j - i) i 0).toInt32
abbrev R3 : Type := Int32 × Int32 × Int32
def tlF (cs : List Int32) (e j : Nat) (mn mx : Int32) : Option R3 := if j < e ∧ cs.getD j 0 = 125 then some (mn, mx, Int32.ofNat (j + 1)) else none
def cd2 (cs : List Int32) (e k : Nat) (mn : Int32) : Option Nat → Option R3
  | none => none
  | some j2 => tlF cs e j2 mn (cnt cs k j2)
def cdF (cs : List Int32) (i e : Nat) : Option R3 :=
  match ceF cs i e with
  | none => none
  | some j =>
    if j < e ∧ cs.getD j 0 = 44 then
      if j + 1 < e ∧ cs.getD (j + 1) 0 = 125 then tlF cs e (j + 1) (cnt cs i j) (-1)
      else cd2 cs e (j + 1) (cnt cs i j) (ceF cs (j + 1) e)
    else tlF cs e j (cnt cs i j) (cnt cs i j)
def atF (cs : List Int32) (s e : Nat) : Option R3 :=
  let ch := if s < e then cs.getD s 0 else 0
  if ch = 42 then some (0, -1, Int32.ofNat (s + 1))
  else if ch = 43 then some (1, -1, Int32.ofNat (s + 1))
  else if ch = 63 then some (0, 1, Int32.ofNat (s + 1))
  else if ch = 123 then cdF cs (s + 1) e
  else none
-- digits
def dg (v : Int64) (u : Int32) : Int32 := (((XT.ushrL v ((4 : Int32) * u)) &&& (15 : Int64)) - (((XT.ushrL v ((4 : Int32) * u)) &&& (15 : Int64)) / (10 : Int64)) * (10 : Int64)).toInt32
theorem dg_r (v : Int64) (u : Int32) : ∃ d : Nat, d ≤ 9 ∧ dg v u = Int32.ofNat d := by
  have h1 := c_maskL (XT.ushrL v ((4 : Int32) * u)) 15 4 (by decide) (by decide)
  have e : (10 : Int64).toInt = 10 := by decide
  have h2 := (c_lrem ((XT.ushrL v ((4 : Int32) * u)) &&& 15) 10 10 e).1 (by rw [h1]; exact Int.emod_nonneg _ (by decide))
  have h3 := c_l2i (((XT.ushrL v ((4 : Int32) * u)) &&& (15 : Int64)) - (((XT.ushrL v ((4 : Int32) * u)) &&& (15 : Int64)) / (10 : Int64)) * (10 : Int64))
  change ((dg v u).toInt - _) % 4294967296 = 0 at h3
  rw [h2] at h3
  have r := Int32.toInt_lt (dg v u)
  have r' := Int32.le_toInt (dg v u)
  obtain ⟨i, hi, q⟩ := toInt_cases (x := dg v u) (n := 10) (by omega) (by omega) (by decide)
  exact ⟨i, by omega, q⟩
def dn (v : Int64) (t : Nat) : Nat := (dg v (Int32.ofNat t)).toInt.toNat
theorem dn_le (v : Int64) (t : Nat) : dn v t ≤ 9 ∧ dg v (Int32.ofNat t) = Int32.ofNat (dn v t) := by
  obtain ⟨d, hd, q⟩ := dg_r v (Int32.ofNat t)
  have : dn v t = d := by unfold dn; rw [q, n32i (by omega)]; rfl
  rw [this]; exact ⟨hd, q⟩
/-- the char of the digit t -/
def dch (v : Int64) (t : Nat) : Int32 := Int32.ofNat (48 + dn v t)
def NN (v : Int64) : Nat → Nat
  | 0 => 0
  | t + 1 => NN v t * 10 + dn v t
theorem NN_lt (v : Int64) : ∀ t, NN v t < 10 ^ t
  | 0 => by show (0 : Nat) < 1; omega
  | t + 1 => by
    have := NN_lt v t
    have := (dn_le v t).1
    have e : 10 ^ (t + 1) = 10 ^ t * 10 := Nat.pow_succ ..
    unfold NN; omega
theorem NN_small (v : Int64) {t : Nat} (h : t ≤ 11) : NN v t < 100000000000 := Nat.lt_of_lt_of_le (NN_lt v t) (Nat.pow_le_pow_right (by decide) h)
-- value
def vlF (v : Int64) (len : Nat) : Nat → Nat → Int64 → Int64
  | 0, _, a => a
  | f + 1, j, a => vlF v len f (j + 1) (if j < len then a * 10 + (dg v (Int32.ofNat j)).toInt64 else a)
theorem L64 (x : Int64) : -9223372036854775808 ≤ x.toInt ∧ x.toInt < 9223372036854775808 := ⟨x.le_toInt, x.toInt_lt⟩
theorem vlF_v (v : Int64) (len : Nat) (hl : len ≤ 11) : ∀ (f j : Nat) (a : Int64), j + f = 11 → a.toInt = (NN v (min j len) : Nat) → (vlF v len f j a).toInt = (NN v len : Nat)
  | 0, j, a, h, ha => by
    unfold vlF; rw [ha, show min j len = len by omega]
  | f + 1, j, a, h, ha => by
    unfold vlF
    refine vlF_v v len hl f (j + 1) _ (by omega) ?_
    by_cases q : j < len
    · rw [if_pos q, show min (j + 1) len = j + 1 by omega]
      rw [show min j len = j by omega] at ha
      have h1 := c_lmul a 10
      have h2 := c_ladd (a * 10) (dg v (Int32.ofNat j)).toInt64
      have e : (10 : Int64).toInt = 10 := by decide
      have h3 := c_i2l (dg v (Int32.ofNat j))
      rw [(dn_le v j).2] at h2 h3 ⊢
      rw [n32i (by have := (dn_le v j).1; omega)] at h3
      rw [e, ha] at h1
      rw [h3] at h2
      have b := NN_small v (t := j) (by omega)
      have b2 := (dn_le v j).1
      have r1 := L64 (a * 10)
      have r2 := L64 (a * 10 + (Int32.ofNat (dn v j)).toInt64)
      show _ = ((NN v j * 10 + dn v j : Nat) : Int)
      omega
    · rw [if_neg q, show min (j + 1) len = min j len by omega]; exact ha
theorem mn64_v {x : Int64} {N : Nat} (h : x.toInt = (N : Nat)) : (mn64 x).toInt = ((min N 2147483647 : Nat) : Int) := by
  have e : (2147483647 : Int64).toInt = 2147483647 := by decide +kernel
  unfold mn64
  by_cases q : (2147483647 : Int64) < x
  · rw [if_pos q, e]
    rw [Int64.lt_iff_toInt_lt, e, h] at q
    omega
  · rw [if_neg q, h]
    rw [Int64.lt_iff_toInt_lt, e, h] at q
    omega
theorem l2i_v {x : Int64} {N : Nat} (h : x.toInt = ((min N 2147483647 : Nat) : Int)) : x.toInt32.toInt = ((min N 2147483647 : Nat) : Int) := by
  have h1 := c_l2i x
  rw [h] at h1
  have r := Int32.toInt_lt x.toInt32
  have r' := Int32.le_toInt x.toInt32
  omega
theorem cnF_v (cs : List Int32) (v : Int64) (i len : Nat) (hl : len ≤ 11) (hd : ∀ t, t < len → cs.getD (i + t) 0 = dch v t) : ∀ (d t : Nat) (a : Int64), t + d = len → a.toInt = ((min (NN v t) 2147483647 : Nat) : Int) → (cnF cs d (i + t) a).toInt = ((min (NN v len) 2147483647 : Nat) : Int)
  | 0, t, a, h, ha => by
    obtain rfl : t = len := by omega
    exact ha
  | d + 1, t, a, h, ha => by
    unfold cnF
    refine cnF_v cs v i len hl hd d (t + 1) _ (by omega) ?_
    rw [hd t (by omega)]
    have b := NN_small v (t := t) (by omega)
    have b2 := (dn_le v t).1
    have h1 := c_lmul 10 a
    have e : (10 : Int64).toInt = 10 := by decide
    have e48 : (48 : Int64).toInt = 48 := by decide
    have h3 := c_i2l (dch v t)
    have h4 : (dch v t).toInt = ((48 + dn v t : Nat) : Int) := n32i (by omega)
    rw [h4] at h3
    have h2 := c_ladd (10 * a) (dch v t).toInt64
    have h5 := c_lsub (10 * a + (dch v t).toInt64) 48
    rw [e, ha] at h1
    rw [h3] at h2
    rw [e48] at h5
    have r1 := L64 (10 * a)
    have r2 := L64 (10 * a + (dch v t).toInt64)
    have r3 := L64 (10 * a + (dch v t).toInt64 - 48)
    have q : (10 * a + (dch v t).toInt64 - 48).toInt = ((min (NN v t) 2147483647 * 10 + dn v t : Nat) : Int) := by omega
    rw [mn64_v q]
    show ((min (min (NN v t) 2147483647 * 10 + dn v t) 2147483647 : Nat) : Int) = ((min (NN v t * 10 + dn v t) 2147483647 : Nat) : Int)
    have z : min (min (NN v t) 2147483647 * 10 + dn v t) 2147483647 = min (NN v t * 10 + dn v t) 2147483647 := by omega
    rw [z]
def valF (v : Int64) (len : Nat) : Int32 := (mn64 (vlF v len 11 0 0)).toInt32
theorem cnt_val {cs : List Int32} {v : Int64} {i len : Nat} (hl : len ≤ 11) (hd : ∀ t, t < len → cs.getD (i + t) 0 = dch v t) : cnt cs i (i + len) = valF v len := by
  refine Int32.toInt_inj.mp ?_
  have a1 : (cnF cs len (i + 0) 0).toInt = _ := cnF_v cs v i len hl hd len 0 0 (by omega) (by show Int64.toInt 0 = ((min 0 2147483647 : Nat) : Int); decide)
  rw [Nat.add_zero] at a1
  have a2 := mn64_v (vlF_v v len hl 11 0 0 (by omega) (by rw [Nat.zero_min]; show Int64.toInt 0 = ((0 : Nat) : Int); decide))
  unfold cnt valF
  rw [Nat.add_sub_cancel_left, l2i_v a1, l2i_v a2]
-- runs
theorem dch_d (v : Int64) (t : Nat) : isD (dch v t) := by
  have b := (dn_le v t).1
  unfold isD dch
  exact ⟨n32nlt (n := 48) (by omega) (by omega), n32nlt (i := 57) (by omega) (by decide)⟩
theorem run_v {cs : List Int32} {i l : Nat} (h1 : ∀ t, t < l → isD (cs.getD (i + t) 0)) (h2 : ¬ isD (cs.getD (i + l) 0)) (e : Nat) : ∀ (d t : Nat), t ≤ l → i + t + d = e → runE cs e d (i + t) = if i + l < e then i + l else e
  | 0, t, h, hd => by
    unfold runE; rw [if_neg (by omega)]; omega
  | d + 1, t, h, hd => by
    unfold runE
    by_cases q : t < l
    · rw [if_pos ⟨by omega, h1 t q⟩]
      exact run_v h1 h2 e d (t + 1) (by omega) (by omega)
    · obtain rfl : t = l := by omega
      rw [if_neg (fun q => h2 q.2), if_pos (by omega)]
theorem ce_v {cs : List Int32} {i l : Nat} (h1 : ∀ t, t < l → isD (cs.getD (i + t) 0)) (h2 : ¬ isD (cs.getD (i + l) 0)) {e : Nat} (he : i ≤ e) :
    (i + l < e → ceF cs i e = if l = 0 ∨ (1 < l ∧ cs.getD i 0 = 48) then none else some (i + l)) ∧ (¬ i + l < e → ceF cs i e = none ∨ ceF cs i e = some e) := by
  have r := run_v h1 h2 e (e - i) 0 (by omega) (by omega)
  rw [Nat.add_zero] at r
  constructor
  · intro q
    rw [if_pos q] at r
    unfold ceF
    simp only [r]
    by_cases l0 : l = 0
    · rw [if_pos (by omega), if_pos (Or.inl l0)]
    · rw [if_neg (by omega)]
      by_cases l1 : 1 < l ∧ cs.getD i 0 = 48
      · rw [if_pos ⟨by omega, l1.2⟩, if_pos (Or.inr l1)]
      · rw [if_neg (fun z => l1 ⟨by omega, z.2⟩), if_neg (fun z => z.elim l0 l1)]
  · intro q
    rw [if_neg q] at r
    unfold ceF
    simp only [r]
    by_cases l0 : e = i
    · rw [if_pos l0]; exact Or.inl rfl
    · rw [if_neg l0]
      by_cases l1 : i + 1 < e ∧ cs.getD i 0 = 48
      · rw [if_pos l1]; exact Or.inl rfl
      · rw [if_neg l1]; exact Or.inr rfl
theorem tl_no (cs : List Int32) (e j : Nat) (mn mx : Int32) (h : ¬ j < e) : tlF cs e j mn mx = none := if_neg fun q => h q.1
theorem nd44 : ¬ isD 44 := by decide
theorem nd125 : ¬ isD 125 := by decide
theorem cd_none {cs : List Int32} {i e : Nat} (h : ceF cs i e = none ∨ ceF cs i e = some e) : cdF cs i e = none := by
  unfold cdF
  rcases h with h | h
  · rw [h]
  · rw [h]
    show (if e < e ∧ _ then _ else _) = none
    rw [if_neg (fun q => Nat.lt_irrefl _ q.1)]
    exact tl_no _ _ _ _ _ (Nat.lt_irrefl _)
theorem cd_end {cs : List Int32} {i e j : Nat} (h : ceF cs i e = some j) (hc : ¬ cs.getD j 0 = 44) : cdF cs i e = tlF cs e j (cnt cs i j) (cnt cs i j) := by
  unfold cdF
  rw [h]
  exact if_neg fun q => hc q.2
theorem cd_open {cs : List Int32} {i e j : Nat} (h : ceF cs i e = some j) (hj : j < e) (hc : cs.getD j 0 = 44) (h1 : j + 1 < e) (h2 : cs.getD (j + 1) 0 = 125) : cdF cs i e = some (cnt cs i j, -1, Int32.ofNat (j + 1 + 1)) := by
  unfold cdF
  rw [h]
  show (if j < e ∧ _ then (if j + 1 < e ∧ _ then _ else _) else _) = _
  rw [if_pos ⟨hj, hc⟩, if_pos ⟨h1, h2⟩]
  exact if_pos ⟨h1, h2⟩
theorem cd_two {cs : List Int32} {i e j : Nat} (h : ceF cs i e = some j) (hj : j < e) (hc : cs.getD j 0 = 44) (h1 : ¬ (j + 1 < e ∧ cs.getD (j + 1) 0 = 125)) : cdF cs i e = cd2 cs e (j + 1) (cnt cs i j) (ceF cs (j + 1) e) := by
  unfold cdF
  rw [h]
  show (if j < e ∧ _ then (if j + 1 < e ∧ _ then _ else _) else _) = _
  rw [if_pos ⟨hj, hc⟩, if_neg h1]
theorem cd2_none {cs : List Int32} {e k : Nat} {mn : Int32} (h : ceF cs k e = none ∨ ceF cs k e = some e) : cd2 cs e k mn (ceF cs k e) = none := by
  rcases h with h | h <;> rw [h]
  · rfl
  · exact tl_no _ _ _ _ _ (Nat.lt_irrefl _)
def SP (cs : List Int32) (s : Nat) (head : Int32) (l1 : Nat) (d1 : Int64) (sep dac : Int32) (l2 : Nat) (d2 : Int64) (close : Int32) : Prop :=
  cs.length = 27 ∧ (∀ c ∈ cs, ¬ c < 0 ∧ ¬ (255 : Int32) < c) ∧ cs.getD s 0 = head ∧ (∀ t, t < l1 → cs.getD (s + 1 + t) 0 = dch d1 t) ∧ cs.getD (s + 1 + l1) 0 = sep ∧ (dac = 0 → cs.getD (s + 1 + l1 + 1) 0 = 125) ∧
    (¬ dac = 0 → (∀ t, t < l2 → cs.getD (s + 1 + l1 + 1 + t) 0 = dch d2 t) ∧ cs.getD (s + 1 + l1 + 1 + l2) 0 = close)
theorem dch0 (v : Int64) : dch v 0 = 48 ↔ dg v 0 = 0 := by
  have b := dn_le v 0
  constructor
  · intro h
    have := n32eq (i := 48 + dn v 0) (j := 48) (by omega) (by decide) h
    have e : dn v 0 = 0 := by omega
    rw [e] at b; exact b.2
  · intro h
    have q : Int32.ofNat (dn v 0) = Int32.ofNat 0 := b.2.symm.trans h
    have := n32eq (by omega) (by decide) q
    unfold dch; rw [this]; rfl
section Leaf
variable {cs : List Int32} {s l1 l2 e : Nat} {head sep dac close : Int32} {d1 d2 : Int64}
theorem at_end (h : ¬ s < e) : atF cs s e = none := by
  unfold atF
  simp only [if_neg h]
  rfl
theorem at_star (H : SP cs s head l1 d1 sep dac l2 d2 close) (h : s < e) (q : head = 42) : atF cs s e = some (0, -1, Int32.ofNat (s + 1)) := by
  unfold atF
  simp only [if_pos h, H.2.2.1, q]
  rfl
theorem at_plus (H : SP cs s head l1 d1 sep dac l2 d2 close) (h : s < e) (q : head = 43) : atF cs s e = some (1, -1, Int32.ofNat (s + 1)) := by
  unfold atF
  simp only [if_pos h, H.2.2.1, q]
  rfl
theorem at_opt (H : SP cs s head l1 d1 sep dac l2 d2 close) (h : s < e) (q : head = 63) : atF cs s e = some (0, 1, Int32.ofNat (s + 1)) := by
  unfold atF
  simp only [if_pos h, H.2.2.1, q]
  rfl
theorem at_brace (H : SP cs s head l1 d1 sep dac l2 d2 close) (h : s < e) (q : head = 123) : atF cs s e = cdF cs (s + 1) e := by
  unfold atF
  simp only [if_pos h, H.2.2.1, q]
  rfl
theorem at_other (H : SP cs s head l1 d1 sep dac l2 d2 close) (h : s < e) (q1 : ¬ head = 42) (q2 : ¬ head = 43) (q3 : ¬ head = 63) (q4 : ¬ head = 123) : atF cs s e = none := by
  unfold atF
  simp only [if_pos h, H.2.2.1, if_neg q1, if_neg q2, if_neg q3, if_neg q4]
theorem SP.first (H : SP cs s head l1 d1 sep dac l2 d2 close) (h : s < e) (hsep : ¬ isD sep) : (s + 1 + l1 < e → ceF cs (s + 1) e = if l1 = 0 ∨ (1 < l1 ∧ cs.getD (s + 1) 0 = 48) then none else some (s + 1 + l1)) ∧ (¬ s + 1 + l1 < e → ceF cs (s + 1) e = none ∨ ceF cs (s + 1) e = some e) :=
  ce_v (fun t ht => by rw [H.2.2.2.1 t ht]; exact dch_d _ _) (by rw [H.2.2.2.2.1]; exact hsep) h
theorem SP.lead (H : SP cs s head l1 d1 sep dac l2 d2 close) (hl : 0 < l1) : cs.getD (s + 1) 0 = 48 ↔ dg d1 0 = 0 := by
  have := H.2.2.2.1 0 hl
  rw [Nat.add_zero] at this
  rw [this]; exact dch0 d1
theorem cd_no (H : SP cs s head l1 d1 sep dac l2 d2 close) (h : s < e) (hsep : ¬ isD sep) (q : l1 < 1 ∨ ¬ s + 1 + l1 < e ∨ (1 < l1 ∧ dg d1 0 = 0)) : cdF cs (s + 1) e = none := by
  by_cases g : s + 1 + l1 < e
  · refine cd_none (Or.inl ?_)
    rw [(H.first h hsep).1 g]
    refine if_pos ?_
    rcases q with q | q | q
    · exact Or.inl (by omega)
    · exact absurd g q
    · exact Or.inr ⟨q.1, (H.lead (by omega)).mpr q.2⟩
  · exact cd_none ((H.first h hsep).2 g)
theorem SP.ce1 (H : SP cs s head l1 d1 sep dac l2 d2 close) (h : s < e) (hsep : ¬ isD sep) (q1 : ¬ l1 < 1) (q2 : s + 1 + l1 < e) (q3 : ¬ (1 < l1 ∧ dg d1 0 = 0)) : ceF cs (s + 1) e = some (s + 1 + l1) := by
  rw [(H.first h hsep).1 q2]
  exact if_neg fun z => z.elim (by omega) (fun z => q3 ⟨z.1, (H.lead (by omega)).mp z.2⟩)
theorem SP.n1 (H : SP cs s head l1 d1 sep dac l2 d2 close) (hl : l1 ≤ 11) : cnt cs (s + 1) (s + 1 + l1) = valF d1 l1 := cnt_val hl H.2.2.2.1
theorem cd_close (H : SP cs s head l1 d1 sep dac l2 d2 close) (hl : l1 ≤ 11) (c : ceF cs (s + 1) e = some (s + 1 + l1)) (q2 : s + 1 + l1 < e) (q : sep = 125) : cdF cs (s + 1) e = some (valF d1 l1, valF d1 l1, Int32.ofNat (s + 1 + l1 + 1)) := by
  rw [cd_end c (by rw [H.2.2.2.2.1, q]; decide), H.n1 hl]
  exact if_pos ⟨q2, by rw [H.2.2.2.2.1, q]⟩
theorem cd_sep (H : SP cs s head l1 d1 sep dac l2 d2 close) (c : ceF cs (s + 1) e = some (s + 1 + l1)) (q : ¬ sep = 125) (q' : ¬ sep = 44) : cdF cs (s + 1) e = none := by
  rw [cd_end c (by rw [H.2.2.2.2.1]; exact q')]
  exact if_neg fun z => q (by rw [← H.2.2.2.2.1]; exact z.2)
theorem cd_c1 (H : SP cs s head l1 d1 sep dac l2 d2 close) (hl : l1 ≤ 11) (c : ceF cs (s + 1) e = some (s + 1 + l1)) (q2 : s + 1 + l1 < e) (q : sep = 44) (hk : s + 1 + l1 + 1 < e) (h125 : cs.getD (s + 1 + l1 + 1) 0 = 125) : cdF cs (s + 1) e = some (valF d1 l1, -1, Int32.ofNat (s + 1 + l1 + 1 + 1)) := by
  rw [cd_open c q2 (by rw [H.2.2.2.2.1, q]) hk h125, H.n1 hl]
theorem cd_c2 (H : SP cs s head l1 d1 sep dac l2 d2 close) (c : ceF cs (s + 1) e = some (s + 1 + l1)) (q2 : s + 1 + l1 < e) (q : sep = 44) (hk : ¬ s + 1 + l1 + 1 < e) : cdF cs (s + 1) e = none := by
  rw [cd_two c q2 (by rw [H.2.2.2.2.1, q]) (fun z => hk z.1)]
  have e0 : e - (s + 1 + l1 + 1) = 0 := by omega
  have : ceF cs (s + 1 + l1 + 1) e = none := by
    unfold ceF
    rw [e0]
    exact if_pos rfl
  rw [this]; rfl
theorem cd_c3 (H : SP cs s head l1 d1 sep dac l2 d2 close) (hd : ¬ dac = 0) (hcl : ¬ isD close) (c : ceF cs (s + 1) e = some (s + 1 + l1)) (q2 : s + 1 + l1 < e) (q : sep = 44) (h0 : l2 = 0) (hk : ¬ close = 125) : cdF cs (s + 1) e = none := by
  have hx := (H.2.2.2.2.2.2 hd).2
  rw [h0, Nat.add_zero] at hx
  rw [cd_two c q2 (by rw [H.2.2.2.2.1, q]) (fun z => hk (hx.symm.trans z.2))]
  have g := ce_v (cs := cs) (i := s + 1 + l1 + 1) (l := 0) (fun t ht => absurd ht (by omega)) (by rw [Nat.add_zero, hx]; exact hcl) (e := e) (by omega)
  refine cd2_none ?_
  by_cases z : s + 1 + l1 + 1 + 0 < e
  · exact Or.inl ((g.1 z).trans (if_pos (Or.inl rfl)))
  · exact g.2 z
theorem SP.second (H : SP cs s head l1 d1 sep dac l2 d2 close) (hd : ¬ dac = 0) (hcl : ¬ isD close) (q2 : s + 1 + l1 < e) : (s + 1 + l1 + 1 + l2 < e → ceF cs (s + 1 + l1 + 1) e = if l2 = 0 ∨ (1 < l2 ∧ cs.getD (s + 1 + l1 + 1) 0 = 48) then none else some (s + 1 + l1 + 1 + l2)) ∧ (¬ s + 1 + l1 + 1 + l2 < e → ceF cs (s + 1 + l1 + 1) e = none ∨ ceF cs (s + 1 + l1 + 1) e = some e) := ce_v (cs := cs) (i := s + 1 + l1 + 1) (l := l2) (fun t ht => by rw [(H.2.2.2.2.2.2 hd).1 t ht]; exact dch_d _ _) (by rw [(H.2.2.2.2.2.2 hd).2]; exact hcl) (e := e) (by omega)
theorem SP.lead2 (H : SP cs s head l1 d1 sep dac l2 d2 close) (hd : ¬ dac = 0) (hl : 0 < l2) : cs.getD (s + 1 + l1 + 1) 0 = dch d2 0 := by
  have := (H.2.2.2.2.2.2 hd).1 0 hl
  rwa [Nat.add_zero] at this
theorem SP.two (H : SP cs s head l1 d1 sep dac l2 d2 close) (hd : ¬ dac = 0) (c : ceF cs (s + 1) e = some (s + 1 + l1)) (q2 : s + 1 + l1 < e) (q : sep = 44) (h0 : ¬ l2 = 0) : cdF cs (s + 1) e = cd2 cs e (s + 1 + l1 + 1) (cnt cs (s + 1) (s + 1 + l1)) (ceF cs (s + 1 + l1 + 1) e) :=
  cd_two c q2 (by rw [H.2.2.2.2.1, q]) (fun z => nd125 (by rw [← z.2, H.lead2 hd (by omega)]; exact dch_d _ _))
theorem cd_d1 (H : SP cs s head l1 d1 sep dac l2 d2 close) (hd : ¬ dac = 0) (hcl : ¬ isD close) (hl : l1 ≤ 11) (hl2 : l2 ≤ 11) (c : ceF cs (s + 1) e = some (s + 1 + l1)) (q2 : s + 1 + l1 < e) (q : sep = 44) (h0 : ¬ l2 = 0) (hk : s + 1 + l1 + 1 + l2 < e) (hz : ¬ (1 < l2 ∧ dg d2 0 = 0)) (h125 : close = 125) : cdF cs (s + 1) e = some (valF d1 l1, valF d2 l2, Int32.ofNat (s + 1 + l1 + 1 + l2 + 1)) := by
  rw [H.two hd c q2 q h0, (H.second hd hcl q2).1 hk, if_neg (fun z => z.elim h0 fun z => hz ⟨z.1, (dch0 d2).mp ((H.lead2 hd (by omega)).symm.trans z.2)⟩), H.n1 hl]
  show tlF cs e _ _ _ = _
  rw [cnt_val hl2 (H.2.2.2.2.2.2 hd).1]
  exact if_pos ⟨hk, by rw [(H.2.2.2.2.2.2 hd).2, h125]⟩
theorem cd_d2 (H : SP cs s head l1 d1 sep dac l2 d2 close) (hd : ¬ dac = 0) (hcl : ¬ isD close) (c : ceF cs (s + 1) e = some (s + 1 + l1)) (q2 : s + 1 + l1 < e) (q : sep = 44) (h0 : ¬ l2 = 0) (hz : ¬ s + 1 + l1 + 1 + l2 < e ∨ (1 < l2 ∧ dg d2 0 = 0) ∨ ¬ close = 125) : cdF cs (s + 1) e = none := by
  rw [H.two hd c q2 q h0]
  by_cases g : s + 1 + l1 + 1 + l2 < e
  · rw [(H.second hd hcl q2).1 g]
    by_cases z : l2 = 0 ∨ (1 < l2 ∧ cs.getD (s + 1 + l1 + 1) 0 = 48)
    · rw [if_pos z]; rfl
    · rw [if_neg z]
      rcases hz with hz | hz | hz
      · exact absurd g hz
      · exact absurd (Or.inr ⟨hz.1, (H.lead2 hd (by omega)).trans ((dch0 d2).mpr hz.2)⟩) z
      · exact if_neg fun y => hz ((H.2.2.2.2.2.2 hd).2.symm.trans y.2)
  · exact cd2_none ((H.second hd hcl q2).2 g)
end Leaf
-- lists
theorem set_eq {cs : List Int32} {i : Nat} {v : Int32} (h : i < cs.length) : (cs.set i v).getD i 0 = v := by simp [List.getD_eq_getElem?_getD, h]
theorem set_ne {cs : List Int32} {i j : Nat} {v : Int32} (h : ¬ i = j) : (cs.set i v).getD j 0 = cs.getD j 0 := by simp [List.getD_eq_getElem?_getD, List.getElem?_set, h]
theorem set_all {P : Int32 → Prop} {cs : List Int32} {i : Nat} {v : Int32} (h : ∀ c ∈ cs, P c) (hv : P v) : ∀ c ∈ cs.set i v, P c := fun c hc => (List.mem_or_eq_of_mem_set hc).elim (h c) fun q => q ▸ hv
def filF (v : Int64) (off len : Nat) : Nat → Nat → List Int32 → List Int32
  | 0, _, cs => cs
  | f + 1, j, cs => filF v off len f (j + 1) (if j < len then cs.set (off + j) (dch v j) else cs)
theorem dch_r (v : Int64) (t : Nat) : ¬ dch v t < 0 ∧ ¬ (255 : Int32) < dch v t := by
  have b := (dn_le v t).1
  exact ⟨n32nn (by omega), n32nlt (i := 255) (by omega) (by decide)⟩
theorem fil_v (v : Int64) (off len N : Nat) (hN : off + len ≤ N) : ∀ (f j : Nat) (cs : List Int32), j + f = 11 → len ≤ 11 → cs.length = N → (∀ c ∈ cs, ¬ c < 0 ∧ ¬ (255 : Int32) < c) → (∀ t, t < j → t < len → cs.getD (off + t) 0 = dch v t) →
    (filF v off len f j cs).length = N ∧ (∀ c ∈ filF v off len f j cs, ¬ c < 0 ∧ ¬ (255 : Int32) < c) ∧ (∀ t, t < len → (filF v off len f j cs).getD (off + t) 0 = dch v t) ∧ (∀ i, i < off → (filF v off len f j cs).getD i 0 = cs.getD i 0)
  | 0, j, cs, h, hl, h1, h2, h3 => ⟨h1, h2, fun t ht => h3 t (by omega) ht, fun i _ => rfl⟩
  | f + 1, j, cs, h, hl, h1, h2, h3 => by
    unfold filF
    by_cases q : j < len
    · rw [if_pos q]
      obtain ⟨a1, a2, a3, a4⟩ := fil_v v off len N hN f (j + 1) (cs.set (off + j) (dch v j)) (by omega) hl (by simp [h1]) (set_all h2 (dch_r v j)) (fun t ht ht' => by
        by_cases z : t = j
        · subst z; exact set_eq (by omega)
        · rw [set_ne (by omega)]; exact h3 t (by omega) ht')
      exact ⟨a1, a2, a3, fun i hi => (a4 i hi).trans (set_ne (by omega))⟩
    · rw [if_neg q]
      exact fil_v v off len N hN f (j + 1) cs (by omega) hl h1 h2 (fun t ht ht' => h3 t (by omega) ht')
def oI : Option Nat → Int32
  | none => -1
  | some j => Int32.ofNat j
def ceJ (cs : List Int32) (i j : Nat) : Int32 := if j = i then -1 else if i + 1 < j ∧ cs.getD i 0 = 48 then -1 else Int32.ofNat j
theorem ce_J (cs : List Int32) (i e : Nat) : oI (ceF cs i e) = ceJ cs i (runE cs e (e - i) i) := by
  unfold ceF ceJ
  by_cases h : runE cs e (e - i) i = i
  · simp only [if_pos h]; rfl
  · by_cases g : i + 1 < runE cs e (e - i) i ∧ cs.getD i 0 = 48
    · simp only [if_neg h, if_pos g]; rfl
    · simp only [if_neg h, if_neg g]; rfl
theorem run_le (cs : List Int32) (e : Nat) : ∀ (d j : Nat), j ≤ runE cs e d j ∧ (runE cs e d j ≤ j ∨ runE cs e d j ≤ e)
  | 0, j => ⟨Nat.le_refl _, Or.inl (Nat.le_refl _)⟩
  | d + 1, j => by
    unfold runE
    by_cases h : j < e ∧ isD (cs.getD j 0)
    · rw [if_pos h]
      have := run_le cs e d (j + 1)
      omega
    · rw [if_neg h]; exact ⟨Nat.le_refl _, Or.inl (Nat.le_refl _)⟩
theorem ce_le {cs : List Int32} {i e j : Nat} (h : ceF cs i e = some j) : i < j ∧ j ≤ e := by
  have r := run_le cs e (e - i) i
  unfold ceF at h
  by_cases q : runE cs e (e - i) i = i
  · simp only [if_pos q] at h; cases h
  · by_cases g : i + 1 < runE cs e (e - i) i ∧ cs.getD i 0 = 48
    · simp only [if_neg q, if_pos g] at h; cases h
    · simp only [if_neg q, if_neg g] at h
      cases h; omega
theorem cd_x0 {cs : List Int32} {i e : Nat} (h : ceF cs i e = none) : cdF cs i e = none := by unfold cdF; rw [h]
theorem cd_x1 {cs : List Int32} {i e j : Nat} (h : ceF cs i e = some j) (hc : ¬ (j < e ∧ cs.getD j 0 = 44)) : cdF cs i e = tlF cs e j (cnt cs i j) (cnt cs i j) := by
  unfold cdF; rw [h]; exact if_neg hc
theorem cd_x2 {cs : List Int32} {i e j : Nat} (h : ceF cs i e = some j) (hc : j < e ∧ cs.getD j 0 = 44) (h1 : j + 1 < e ∧ cs.getD (j + 1) 0 = 125) : cdF cs i e = tlF cs e (j + 1) (cnt cs i j) (-1) := by
  unfold cdF; rw [h]
  show (if j < e ∧ _ then (if j + 1 < e ∧ _ then _ else _) else _) = _
  rw [if_pos hc, if_pos h1]
theorem cd_x3 {cs : List Int32} {i e j : Nat} (h : ceF cs i e = some j) (hc : j < e ∧ cs.getD j 0 = 44) (h1 : ¬ (j + 1 < e ∧ cs.getD (j + 1) 0 = 125)) : cdF cs i e = cd2 cs e (j + 1) (cnt cs i j) (ceF cs (j + 1) e) := cd_two h hc.1 hc.2 h1
def atG (cs : List Int32) (s e : Nat) (ch : Int32) : Option R3 :=
  if ch = 42 then some (0, -1, Int32.ofNat (s + 1)) else if ch = 43 then some (1, -1, Int32.ofNat (s + 1)) else if ch = 63 then some (0, 1, Int32.ofNat (s + 1)) else if ch = 123 then cdF cs (s + 1) e else none
theorem at_y {cs : List Int32} {s e : Nat} (h : s < e) : atF cs s e = atG cs s e (cs.getD s 0) := by unfold atF atG; simp only [if_pos h]
theorem at_n {cs : List Int32} {s e : Nat} (h : ¬ s < e) : atF cs s e = atG cs s e 0 := by unfold atF atG; simp only [if_neg h]
theorem n32sub {i j : Nat} (h : j ≤ i) : Int32.ofNat i - Int32.ofNat j = Int32.ofNat (i - j) := by
  obtain ⟨d, rfl⟩ : ∃ d, i = d + j := ⟨i - j, by omega⟩
  rw [← n32add, Int32.add_sub_cancel, Nat.add_sub_cancel]
theorem dch_eq (v : Int64) (j : Nat) {u : Int32} (hu : u = Int32.ofNat j) : (48 : Int32) + dg v u = dch v j := by
  subst hu
  rw [(dn_le v j).2]; exact n32add 48 _
theorem z10 (x : Int64) : x = (0 : Int64) * 10 + x := by rw [Int64.zero_mul, Int64.zero_add]
theorem and_n (x m : Int32) (k : Nat) (hm : m.toInt = k) (hk : k < 1000) : ∃ i : Nat, i < k + 1 ∧ (x &&& m) = Int32.ofNat i := by
  have h := c_and x m (by omega)
  exact toInt_cases (n := k + 1) h.1 (by omega) (by omega)
theorem and_rem (x m : Int32) (hm : 0 ≤ m.toInt) (k : Nat) (h0 : 0 < k) (hk : k ≤ 1000) : ∃ i : Nat, i < k ∧ ((x &&& m) % Int32.ofNat k) = Int32.ofNat i := by
  have h := (c_iremV (x &&& m) (Int32.ofNat k)).1 (c_and x m hm).1 (by rw [n32i (by omega)]; omega)
  rw [n32i (by omega)] at h
  exact toInt_cases (n := k) h.1 h.2.1 hk
theorem mem_getD {P : Int32 → Prop} {cs : List Int32} (h : ∀ c ∈ cs, P c) {i : Nat} (hi : i < cs.length) : P (cs.getD i 0) := by
  rw [List.getD_eq_getElem?_getD, List.getElem?_eq_getElem hi]; exact h _ (List.getElem_mem hi)
def OptR (Z : State) (h : Heap) (r : Addr) : Option R3 → Prop
  | none => Exa Z h r "java/util/Optional" ∧ Fld Z h r "java/util/Optional" "value" "Ljava/lang/Object;" .null
  | some t => Exa Z h r "java/util/Optional" ∧ ∃ p, Fld Z h r "java/util/Optional" "value" "Ljava/lang/Object;" (.ref p) ∧ Exa Z h p "com/example/wardn/wardn/rules/RepetitionOperator" ∧ Fld Z h p "com/example/wardn/wardn/rules/RepetitionOperator" "min" "I" (.int t.1) ∧ Fld Z h p "com/example/wardn/wardn/rules/RepetitionOperator" "max" "I" (.int t.2.1) ∧ Fld Z h p "com/example/wardn/wardn/rules/RepetitionOperator" "end" "I" (.int t.2.2)
theorem OptR.exa {Z : State} {h : Heap} {r : Addr} {o : Option R3} (F : OptR Z h r o) : Exa Z h r "java/util/Optional" := by cases o <;> exact F.1
theorem d16_0 : decode jdk_31_method_10_code 0 = .ok (.aload_n 0, 1) := by decide +kernel
theorem d16_1 : decode jdk_31_method_10_code 1 = .ok (.ifnonnull 11, 3) := by decide +kernel
theorem d16_12 : decode jdk_31_method_10_code 12 = .ok (.aload_n 0, 1) := by decide +kernel
theorem d16_13 : decode jdk_31_method_10_code 13 = .ok (.areturn, 1) := by decide +kernel
theorem pn_java_util_Objects : plainName "java/util/Objects" = true := by first | (simp [plainName, overriddenIn]; done) | decide +kernel
theorem ef_ct_req1 (a : Addr) (m : MethodId) : entryFrame m #[(.ref a)] 1 = mkF m 0 #[.val (.ref a)] [] := by first | (simp [entryFrame, mkF, argsToLocals, Value.category]; done) | rfl
set_option maxRecDepth 65536 in
set_option maxHeartbeats 4000000 in
theorem ct_req1 {l : Launch} {Z : State} {a0 : Array Value} (G : Env1 Z a0) (a : Addr) (h0 : Heap) :
    Ct l Z EL1 [] [] (⟨"java/util/Objects", "requireNonNull", "(Ljava/lang/Object;)Ljava/lang/Object;"⟩ : MethodName) jdk_31_method_10_code 1 (some (.object "java/lang/Object")) ({ frames := 0, cells := 0, slots := 0, locals := 0 } : Room) #[(.ref a)] h0 (fun v h => v = some (.ref a) ∧ h0 = h) := by
  refine Ct.of_seg (a0 := a0) (plainFor_of_name pn_java_util_Objects) G.2.1 (ef_ct_req1 a) ?_
  refine Seg.aloadN d16_0 rfl rfl (pc' := 1) rfl ?_
  refine Seg.nonnY (pc' := 12) d16_1 (by decide) (by decide) ?_
  refine Seg.aloadN d16_12 rfl rfl (pc' := 13) rfl ?_
  exact Seg.retA rfl rfl rfl d16_13 (by decide) (by decide) ⟨rfl, rfl⟩
theorem d17_0 : decode jdk_32_method_2_code 0 = .ok (.aload_n 0, 1) := by decide +kernel
theorem d17_1 : decode jdk_32_method_2_code 1 = .ok (.invokespecial 7, 3) := by decide +kernel
theorem d17_4 : decode jdk_32_method_2_code 4 = .ok (.aload_n 0, 1) := by decide +kernel
theorem d17_5 : decode jdk_32_method_2_code 5 = .ok (.aload_n 1, 1) := by decide +kernel
theorem d17_6 : decode jdk_32_method_2_code 6 = .ok (.putfield 13, 3) := by decide +kernel
theorem d17_9 : decode jdk_32_method_2_code 9 = .ok (.return_, 1) := by decide +kernel
theorem pn_java_util_Optional : plainName "java/util/Optional" = true := by first | (simp [plainName, overriddenIn]; done) | decide +kernel
theorem ef_ct_joinit (x : Addr) (b : Addr) (v0 : Value) (m : MethodId) : entryFrame m #[(.ref x), (.ref b)] 2 = mkF m 0 #[.val (.ref x), .val (.ref b)] [] := by first | (simp [entryFrame, mkF, argsToLocals, Value.category]; done) | rfl
set_option maxRecDepth 65536 in
set_option maxHeartbeats 4000000 in
theorem ct_joinit {l : Launch} {Z : State} {a0 : Array Value} (G : Env1 Z a0) (x : Addr) (b : Addr) (v0 : Value) (h0 : Heap) (A : Exa Z h0 x "java/util/Optional") (F0 : Fld Z h0 x "java/util/Optional" "value" "Ljava/lang/Object;" v0) :
    Ct l Z EL1 [x] [] (⟨"java/util/Optional", "<init>", "(Ljava/lang/Object;)V"⟩ : MethodName) jdk_32_method_2_code 2 none ({ frames := 1, cells := 0, slots := 0, locals := 12 } : Room) #[(.ref x), (.ref b)] h0 (fun v h => v = none ∧ Keep h0 h [x] ∧ Fld Z h x "java/util/Optional" "value" "Ljava/lang/Object;" (.ref b)) := by
  refine Ct.of_seg (a0 := a0) (plainFor_of_name pn_java_util_Optional) G.2.1 (ef_ct_joinit x b v0) ?_
  refine Seg.aloadN d17_0 rfl rfl (pc' := 1) rfl ?_
  refine Seg.initO (wd G 87 rfl) (wd G 17 rfl) (wd G 18 rfl) rfl d17_1 (pc' := 4) rfl (by decide) (W := 0) (Nat.le_of_eq rfl) (by decide) ?_
  refine Seg.aloadN d17_4 rfl rfl (pc' := 5) rfl ?_
  refine Seg.aloadN d17_5 rfl rfl (pc' := 6) rfl ?_
  refine Seg.putF (host := "") (ty := (.object "java/lang/Object")) (v' := (.ref b)) (wd G 88 rfl) Via.refl F0 A (Or.inr ⟨(wd G 89 rfl), rfl, rfl⟩) (wd G 78 rfl) (by decide) rfl rfl (List.mem_of_getElem? (i := 0) rfl) d17_6 (pc' := 9) rfl ?_
  intro h_3 W_1 F_2
  exact Seg.ret0 rfl d17_9 (by decide) (by decide) ⟨rfl, Keep.of_wr W_1, F_2⟩
theorem d15_0 : decode jdk_32_method_3_code 0 = .ok (.new 2, 3) := by decide +kernel
theorem d15_3 : decode jdk_32_method_3_code 3 = .ok (.dup, 1) := by decide +kernel
theorem d15_4 : decode jdk_32_method_3_code 4 = .ok (.aload_n 0, 1) := by decide +kernel
theorem d15_5 : decode jdk_32_method_3_code 5 = .ok (.invokestatic 17, 3) := by decide +kernel
theorem pd_0 : parseMethodDescriptor "(Ljava/lang/Object;)Ljava/lang/Object;" = some ⟨[(.object "java/lang/Object")], some (.object "java/lang/Object")⟩ := by decide +kernel
theorem d15_8 : decode jdk_32_method_3_code 8 = .ok (.invokespecial 23, 3) := by decide +kernel
theorem pd_1 : parseMethodDescriptor "(Ljava/lang/Object;)V" = some ⟨[(.object "java/lang/Object")], none⟩ := by decide +kernel
theorem d15_11 : decode jdk_32_method_3_code 11 = .ok (.areturn, 1) := by decide +kernel
theorem ef_ct_joof (b : Addr) (m : MethodId) : entryFrame m #[(.ref b)] 1 = mkF m 0 #[.val (.ref b)] [] := by first | (simp [entryFrame, mkF, argsToLocals, Value.category]; done) | rfl
set_option maxRecDepth 65536 in
set_option maxHeartbeats 4000000 in
theorem ct_joof {l : Launch} {Z : State} {a0 : Array Value} (G : Env1 Z a0) (b : Addr) (h0 : Heap) :
    Ct l Z EL1 [] [] (⟨"java/util/Optional", "of", "(Ljava/lang/Object;)Ljava/util/Optional;"⟩ : MethodName) jdk_32_method_3_code 1 (some (.object "java/util/Optional")) ({ frames := 2, cells := 1, slots := 1, locals := 26 } : Room) #[(.ref b)] h0 (fun v h => ∃ r, v = some (.ref r) ∧ Ext h0 h ∧ Exa Z h r "java/util/Optional" ∧ Fld Z h r "java/util/Optional" "value" "Ljava/lang/Object;" (.ref b)) := by
  refine Ct.of_seg (a0 := a0) (plainFor_of_name pn_java_util_Optional) G.2.1 (ef_ct_joof b) ?_
  refine Seg.newO (wd G 77 rfl) (wd G 78 rfl) (wd G 75 rfl) d15_0 (pc' := 3) rfl (k' := 1) (n' := 1) rfl rfl (by decide) (by decide) ?_
  intro b_1 h_3 E_2 e_b_1 l_b_1 A_b_1 D_b_1
  have F_value_b_1 : Fld Z h_3 b_1 "java/util/Optional" "value" "Ljava/lang/Object;" Value.null := D_b_1 (Or.inr (wd G 89 rfl)) (ty := (.object "java/lang/Object")) (by decide)
  refine Seg.dup d15_3 rfl (pc' := 4) rfl ?_
  refine Seg.aloadN d15_4 rfl rfl (pc' := 5) rfl ?_
  refine Seg.callS (y' := (⟨"java/util/Objects", "requireNonNull", "(Ljava/lang/Object;)Ljava/lang/Object;"⟩ : MethodName)) (wd G 79 rfl) (wd G 80 rfl) (wd G 81 rfl) (wd G 82 rfl) ⟨by decide, by decide⟩ (Pays.of_ct (W := 2) (ct_req1 G b h_3) all0 (wd G 82 rfl) (wd G 81 rfl) (by decide) (by decide) rfl rfl) (argsL := [(.ref b)]) (rest := [(.ref b_1), (.ref b_1)]) rfl (lenOf pd_0 rfl) rfl (Nat.le_of_eq rfl) rfl d15_5 (pc' := 8) rfl (k' := 1) (n' := 1) rfl rfl (by decide) (by decide) ?_
  intro v_4 h_7 sz_5 q_6
  obtain ⟨rfl, rfl⟩ := q_6
  refine Seg.callN (y' := (⟨"java/util/Optional", "<init>", "(Ljava/lang/Object;)V"⟩ : MethodName)) (a := b_1) rfl (wd G 83 rfl) (wd G 84 rfl) (wd G 86 rfl) ⟨by decide, by decide⟩ (Pays.of_ct (W := 1) (ct_joinit G b_1 b .null h_3 A_b_1 F_value_b_1) (allS (List.mem_of_getElem? (i := 0) rfl) all0) (wd G 86 rfl) (wd G 75 rfl) (by decide) (by decide) rfl rfl) (argsL := [(.ref b)]) (rest := [(.ref b_1)]) rfl (lenOf pd_1 rfl) rfl (Nat.le_of_eq rfl) rfl d15_8 (pc' := 11) rfl (k' := 1) (n' := 1) rfl rfl (by decide) (by decide) ?_
  intro v_8 h_11 sz_9 q_10
  obtain ⟨rfl, K9, F9⟩ := q_10
  have E_12 : Ext h0 h_11 := ext_kp E_2 K9 (allS (Nat.le_trans (ext_rfl _).1 (Nat.le_of_eq e_b_1)) all0)
  have F_13 := (A_b_1.keep K9)
  exact Seg.retA rfl rfl rfl d15_11 (by decide) (by decide) ⟨b_1, rfl, E_12, F_13, F9⟩
theorem d23_0 : decode jdk_32_method_1_code 0 = .ok (.getstatic 1, 3) := by decide +kernel
theorem d23_3 : decode jdk_32_method_1_code 3 = .ok (.astore_n 0, 1) := by decide +kernel
theorem d23_4 : decode jdk_32_method_1_code 4 = .ok (.aload_n 0, 1) := by decide +kernel
theorem d23_5 : decode jdk_32_method_1_code 5 = .ok (.areturn, 1) := by decide +kernel
theorem ef_ct_joempty (oe : Addr) (m : MethodId) : entryFrame m #[] 1 = mkF m 0 #[.unset] [] := by first | (simp [entryFrame, mkF, argsToLocals, Value.category]; done) | rfl
set_option maxRecDepth 65536 in
set_option maxHeartbeats 4000000 in
theorem ct_joempty {l : Launch} {Z : State} {a0 : Array Value} (G : Env1 Z a0) (oe : Addr) (h0 : Heap) (Se : Sta Z Z.heap "java/util/Optional" "EMPTY" "Ljava/util/Optional;" (.ref oe)) :
    Ct l Z EL1 [] [] (⟨"java/util/Optional", "empty", "()Ljava/util/Optional;"⟩ : MethodName) jdk_32_method_1_code 1 (some (.object "java/util/Optional")) ({ frames := 0, cells := 0, slots := 0, locals := 0 } : Room) #[] h0 (fun v h => v = some (.ref oe) ∧ h0 = h) := by
  refine Ct.of_seg (a0 := a0) (plainFor_of_name pn_java_util_Optional) G.2.1 (ef_ct_joempty oe) ?_
  refine Seg.getS (wd G 120 rfl) Via.refl Se d23_0 (pc' := 3) rfl ?_
  refine Seg.astoreN (L' := #[.val (.ref oe)]) d23_3 rfl rfl (pc' := 4) rfl ?_
  refine Seg.aloadN d23_4 rfl rfl (pc' := 5) rfl ?_
  exact Seg.retA rfl rfl rfl d23_5 (by decide) (by decide) ⟨rfl, rfl⟩
theorem d27_0 : decode prog_22_method_9_code 0 = .ok (.iload_n 0, 1) := by decide +kernel
theorem d27_1 : decode prog_22_method_9_code 1 = .ok (.bipush 48, 2) := by decide +kernel
theorem d27_3 : decode prog_22_method_9_code 3 = .ok (.if_icmp .lt 13, 3) := by decide +kernel
theorem d27_16 : decode prog_22_method_9_code 16 = .ok (.iconst 0, 1) := by decide +kernel
theorem d27_17 : decode prog_22_method_9_code 17 = .ok (.ireturn, 1) := by decide +kernel
theorem d27_6 : decode prog_22_method_9_code 6 = .ok (.iload_n 0, 1) := by decide +kernel
theorem d27_7 : decode prog_22_method_9_code 7 = .ok (.bipush 57, 2) := by decide +kernel
theorem d27_9 : decode prog_22_method_9_code 9 = .ok (.if_icmp .gt 7, 3) := by decide +kernel
theorem d27_12 : decode prog_22_method_9_code 12 = .ok (.iconst 1, 1) := by decide +kernel
theorem d27_13 : decode prog_22_method_9_code 13 = .ok (.goto 4, 3) := by decide +kernel
theorem pn_com_example_wardn_wardn_rules_RepetitionOperator : plainName "com/example/wardn/wardn/rules/RepetitionOperator" = true := by first | (simp [plainName, overriddenIn]; done) | decide +kernel
theorem ef_ct_isd (u : Int32) (m : MethodId) : entryFrame m #[(.int u)] 1 = mkF m 0 #[.val (.int u)] [] := by first | (simp [entryFrame, mkF, argsToLocals, Value.category]; done) | rfl
set_option maxRecDepth 65536 in
set_option maxHeartbeats 4000000 in
theorem ct_isd {l : Launch} {Z : State} {a0 : Array Value} (G : Env1 Z a0) (u : Int32) (h0 : Heap) :
    Ct l Z EL1 [] [] (⟨"com/example/wardn/wardn/rules/RepetitionOperator", "isDigit", "(C)Z"⟩ : MethodName) prog_22_method_9_code 1 (some .boolean) ({ frames := 0, cells := 0, slots := 0, locals := 0 } : Room) #[(.int u)] h0 (fun v h => v = some (.int (if isD u then 1 else 0)) ∧ h0 = h) := by
  refine Ct.of_seg (a0 := a0) (plainFor_of_name pn_com_example_wardn_wardn_rules_RepetitionOperator) G.2.1 (ef_ct_isd u) ?_
  refine Seg.iloadN d27_0 rfl (pc' := 1) rfl ?_
  refine Seg.bipush (v := 48) d27_1 (by decide) (pc' := 3) rfl ?_
  by_cases h1 : u < 48
  · refine Seg.icY (pc' := 16) d27_3 (XT.ii_lt_t h1) (by decide) (by decide) ?_
    refine Seg.iconst (v := 0) d27_16 (by decide) (pc' := 17) rfl ?_
    exact Seg.retN (t := .boolean) (w := (0 : Int32)) rfl (by decide) (by decide) d27_17 (by decide) (by decide) ⟨by rw [if_neg (fun q => q.1 h1)], rfl⟩
  · refine Seg.icN d27_3 (XT.ii_lt_f h1) (pc' := 6) rfl ?_
    refine Seg.iloadN d27_6 rfl (pc' := 7) rfl ?_
    refine Seg.bipush (v := 57) d27_7 (by decide) (pc' := 9) rfl ?_
    by_cases h2 : (57 : Int32) < u
    · refine Seg.icY (pc' := 16) d27_9 (XT.ii_gt_t h2) (by decide) (by decide) ?_
      refine Seg.iconst (v := 0) d27_16 (by decide) (pc' := 17) rfl ?_
      exact Seg.retN (t := .boolean) (w := (0 : Int32)) rfl (by decide) (by decide) d27_17 (by decide) (by decide) ⟨by rw [if_neg (fun q => q.2 h2)], rfl⟩
    · refine Seg.icN d27_9 (XT.ii_gt_f h2) (pc' := 12) rfl ?_
      refine Seg.iconst (v := 1) d27_12 (by decide) (pc' := 13) rfl ?_
      refine Seg.goto (pc' := 17) d27_13 (by decide) (by decide) ?_
      exact Seg.retN (t := .boolean) (w := (1 : Int32)) rfl (by decide) (by decide) d27_17 (by decide) (by decide) ⟨by rw [if_pos ⟨h1, h2⟩], rfl⟩
theorem d26_2 : decode prog_22_method_7_code 2 = .ok (.iload_n 3, 1) := by decide +kernel
theorem d26_3 : decode prog_22_method_7_code 3 = .ok (.iload_n 2, 1) := by decide +kernel
theorem d26_4 : decode prog_22_method_7_code 4 = .ok (.if_icmp .ge 20, 3) := by decide +kernel
theorem d26_24 : decode prog_22_method_7_code 24 = .ok (.iload_n 3, 1) := by decide +kernel
theorem d26_25 : decode prog_22_method_7_code 25 = .ok (.iload_n 1, 1) := by decide +kernel
theorem d26_26 : decode prog_22_method_7_code 26 = .ok (.isub, 1) := by decide +kernel
theorem d26_27 : decode prog_22_method_7_code 27 = .ok (.iconst 1, 1) := by decide +kernel
theorem d26_28 : decode prog_22_method_7_code 28 = .ok (.if_icmp .le 17, 3) := by decide +kernel
theorem d26_31 : decode prog_22_method_7_code 31 = .ok (.aload_n 0, 1) := by decide +kernel
theorem d26_32 : decode prog_22_method_7_code 32 = .ok (.iload_n 1, 1) := by decide +kernel
theorem d26_33 : decode prog_22_method_7_code 33 = .ok (.invokevirtual 19, 3) := by decide +kernel
theorem pd_2 : parseMethodDescriptor "(I)C" = some ⟨[.int], some .char⟩ := by decide +kernel
theorem d26_36 : decode prog_22_method_7_code 36 = .ok (.bipush 48, 2) := by decide +kernel
theorem d26_38 : decode prog_22_method_7_code 38 = .ok (.if_icmp .ne 7, 3) := by decide +kernel
theorem d26_41 : decode prog_22_method_7_code 41 = .ok (.iconst 1, 1) := by decide +kernel
theorem d26_42 : decode prog_22_method_7_code 42 = .ok (.goto 4, 3) := by decide +kernel
theorem d26_46 : decode prog_22_method_7_code 46 = .ok (.istore 4, 2) := by decide +kernel
theorem d26_48 : decode prog_22_method_7_code 48 = .ok (.iload_n 3, 1) := by decide +kernel
theorem d26_49 : decode prog_22_method_7_code 49 = .ok (.iload_n 1, 1) := by decide +kernel
theorem d26_50 : decode prog_22_method_7_code 50 = .ok (.if_icmp .eq 8, 3) := by decide +kernel
theorem d26_53 : decode prog_22_method_7_code 53 = .ok (.iload 4, 2) := by decide +kernel
theorem d26_55 : decode prog_22_method_7_code 55 = .ok (.ifCond .eq 7, 3) := by decide +kernel
theorem d26_58 : decode prog_22_method_7_code 58 = .ok (.iconst (-1), 1) := by decide +kernel
theorem d26_59 : decode prog_22_method_7_code 59 = .ok (.goto 4, 3) := by decide +kernel
theorem d26_63 : decode prog_22_method_7_code 63 = .ok (.ireturn, 1) := by decide +kernel
theorem d26_45 : decode prog_22_method_7_code 45 = .ok (.iconst 0, 1) := by decide +kernel
theorem d26_62 : decode prog_22_method_7_code 62 = .ok (.iload_n 3, 1) := by decide +kernel
theorem d26_7 : decode prog_22_method_7_code 7 = .ok (.aload_n 0, 1) := by decide +kernel
theorem d26_8 : decode prog_22_method_7_code 8 = .ok (.iload_n 3, 1) := by decide +kernel
theorem d26_9 : decode prog_22_method_7_code 9 = .ok (.invokevirtual 19, 3) := by decide +kernel
theorem d26_12 : decode prog_22_method_7_code 12 = .ok (.invokestatic 49, 3) := by decide +kernel
theorem pd_3 : parseMethodDescriptor "(C)Z" = some ⟨[.char], some .boolean⟩ := by decide +kernel
theorem d26_15 : decode prog_22_method_7_code 15 = .ok (.ifCond .eq 9, 3) := by decide +kernel
theorem d26_18 : decode prog_22_method_7_code 18 = .ok (.iinc 3 1, 3) := by decide +kernel
theorem d26_21 : decode prog_22_method_7_code 21 = .ok (.goto (-19), 3) := by decide +kernel
set_option maxRecDepth 65536 in
set_option maxHeartbeats 4000000 in
theorem lp_ce {l : Launch} {Z : State} {a0 : Array Value} (G : Env1 Z a0) (a : Addr) (cs : List Int32) (i e : Nat) (h0 : Heap) (F : Str Z h0 a cs) (hc : ∀ c ∈ cs, ¬ c < 0 ∧ ¬ (255 : Int32) < c) (hl : cs.length = 27) (hi : i ≤ 27) (he : e ≤ 27) (d : Nat) : ∀ j : Nat, i ≤ j → j ≤ 27 → e ≤ j + d →
    Seg l Z a0 EL1 (⟨"com/example/wardn/wardn/rules/RepetitionOperator", "countEnd", "(Ljava/lang/String;II)I"⟩ : MethodName) prog_22_method_7_code 5 (some .int) ({ frames := 4, cells := 0, slots := 0, locals := 53 } : Room) (fun v h => v = some (.int (ceJ cs i (runE cs e d j))) ∧ h0 = h) h0 0 0 [] 2 #[.val (.ref a), .val (.int (Int32.ofNat i)), .val (.int (Int32.ofNat e)), .val (.int (Int32.ofNat j)), .unset] [] := by
  induction d with
  | zero =>
    intro j hij hj hd
    have f1 := F.exa
    refine Seg.iloadN d26_2 rfl (pc' := 3) rfl ?_
    refine Seg.iloadN d26_3 rfl (pc' := 4) rfl ?_
    refine Seg.icY (pc' := 24) d26_4 (XT.ii_ge_t (n32nlt (by omega) (by omega))) (by decide) (by decide) ?_
    refine Seg.iloadN d26_24 rfl (pc' := 25) rfl ?_
    refine Seg.iloadN d26_25 rfl (pc' := 26) rfl ?_
    refine Seg.isub (v := (Int32.ofNat (j - i))) d26_26 (n32sub hij) (pc' := 27) rfl ?_
    refine Seg.iconst (v := 1) d26_27 (by decide) (pc' := 28) rfl ?_
    by_cases g1 : 1 < j - i
    · refine Seg.icN d26_28 (XT.ii_le_f (n32lt (i := 1) g1 (by omega))) (pc' := 31) rfl ?_
      refine Seg.aloadN d26_31 rfl rfl (pc' := 32) rfl ?_
      refine Seg.iloadN d26_32 rfl (pc' := 33) rfl ?_
      refine Seg.callV (y' := (⟨"java/lang/String", "charAt", "(I)C"⟩ : MethodName)) (z := (⟨"java/lang/String", "charAt", "(I)C"⟩ : MethodName)) (a := a) (wd G 39 rfl) (wd G 40 rfl) (nf_sel (wd G 42 rfl)) (wd G 42 rfl) (wd G 41 rfl) ⟨by decide, by decide⟩ f1 (pays_chr (W := 0) G h0 i F (fun c q => (hc c q).2) (by omega) rfl (by decide) (by decide)) (argsL := [(.int (Int32.ofNat i))]) (rest := []) rfl (lenOf pd_2 rfl) rfl (Nat.le_of_eq rfl) rfl d26_33 (pc' := 36) rfl (k' := 0) (n' := 0) rfl rfl (by decide) (by decide) ?_
      intro v_1 h_4 sz_2 q_3
      obtain ⟨rfl, rfl⟩ := q_3
      refine Seg.bipush (v := 48) d26_36 (by decide) (pc' := 38) rfl ?_
      by_cases g2 : cs.getD i 0 = 48
      · refine Seg.icN d26_38 (XT.ii_ne_f g2) (pc' := 41) rfl ?_
        refine Seg.iconst (v := 1) d26_41 (by decide) (pc' := 42) rfl ?_
        refine Seg.goto (pc' := 46) d26_42 (by decide) (by decide) ?_
        refine Seg.istore (L' := #[.val (.ref a), .val (.int (Int32.ofNat i)), .val (.int (Int32.ofNat e)), .val (.int (Int32.ofNat j)), .val (.int (1 : Int32))]) d26_46 rfl (pc' := 48) rfl ?_
        refine Seg.iloadN d26_48 rfl (pc' := 49) rfl ?_
        refine Seg.iloadN d26_49 rfl (pc' := 50) rfl ?_
        refine Seg.icN d26_50 (XT.ii_eq_f fun q => absurd (n32eq (by omega) (by omega) q) (by omega)) (pc' := 53) rfl ?_
        refine Seg.iload d26_53 rfl (pc' := 55) rfl ?_
        refine Seg.ifN d26_55 (by decide) (pc' := 58) rfl ?_
        refine Seg.iconst (v := -1) d26_58 (by decide) (pc' := 59) rfl ?_
        refine Seg.goto (pc' := 63) d26_59 (by decide) (by decide) ?_
        exact Seg.retI rfl d26_63 (by decide) (by decide) ⟨by rw [runE, ceJ, if_neg (by omega), if_pos ⟨by omega, g2⟩], rfl⟩
      · refine Seg.icY (pc' := 45) d26_38 (XT.ii_ne_t g2) (by decide) (by decide) ?_
        refine Seg.iconst (v := 0) d26_45 (by decide) (pc' := 46) rfl ?_
        refine Seg.istore (L' := #[.val (.ref a), .val (.int (Int32.ofNat i)), .val (.int (Int32.ofNat e)), .val (.int (Int32.ofNat j)), .val (.int (0 : Int32))]) d26_46 rfl (pc' := 48) rfl ?_
        refine Seg.iloadN d26_48 rfl (pc' := 49) rfl ?_
        refine Seg.iloadN d26_49 rfl (pc' := 50) rfl ?_
        refine Seg.icN d26_50 (XT.ii_eq_f fun q => absurd (n32eq (by omega) (by omega) q) (by omega)) (pc' := 53) rfl ?_
        refine Seg.iload d26_53 rfl (pc' := 55) rfl ?_
        refine Seg.ifY (pc' := 62) d26_55 (by decide) (by decide) (by decide) ?_
        refine Seg.iloadN d26_62 rfl (pc' := 63) rfl ?_
        exact Seg.retI rfl d26_63 (by decide) (by decide) ⟨by rw [runE, ceJ, if_neg (by omega), if_neg (fun q => g2 q.2)], rfl⟩
    · refine Seg.icY (pc' := 45) d26_28 (XT.ii_le_t (n32nlt (i := 1) (by omega) (by decide))) (by decide) (by decide) ?_
      refine Seg.iconst (v := 0) d26_45 (by decide) (pc' := 46) rfl ?_
      refine Seg.istore (L' := #[.val (.ref a), .val (.int (Int32.ofNat i)), .val (.int (Int32.ofNat e)), .val (.int (Int32.ofNat j)), .val (.int (0 : Int32))]) d26_46 rfl (pc' := 48) rfl ?_
      refine Seg.iloadN d26_48 rfl (pc' := 49) rfl ?_
      refine Seg.iloadN d26_49 rfl (pc' := 50) rfl ?_
      by_cases g3 : j = i
      · refine Seg.icY (pc' := 58) d26_50 (XT.ii_eq_t (by rw [g3])) (by decide) (by decide) ?_
        refine Seg.iconst (v := -1) d26_58 (by decide) (pc' := 59) rfl ?_
        refine Seg.goto (pc' := 63) d26_59 (by decide) (by decide) ?_
        exact Seg.retI rfl d26_63 (by decide) (by decide) ⟨by rw [runE, ceJ, if_pos g3], rfl⟩
      · refine Seg.icN d26_50 (XT.ii_eq_f fun q => g3 (n32eq (by omega) (by omega) q)) (pc' := 53) rfl ?_
        refine Seg.iload d26_53 rfl (pc' := 55) rfl ?_
        refine Seg.ifY (pc' := 62) d26_55 (by decide) (by decide) (by decide) ?_
        refine Seg.iloadN d26_62 rfl (pc' := 63) rfl ?_
        exact Seg.retI rfl d26_63 (by decide) (by decide) ⟨by rw [runE, ceJ, if_neg g3, if_neg (by omega)], rfl⟩
  | succ d ih =>
    intro j hij hj hd
    have f1 := F.exa
    refine Seg.iloadN d26_2 rfl (pc' := 3) rfl ?_
    refine Seg.iloadN d26_3 rfl (pc' := 4) rfl ?_
    by_cases q1 : j < e
    · refine Seg.icN d26_4 (XT.ii_ge_f (n32lt q1 (by omega))) (pc' := 7) rfl ?_
      refine Seg.aloadN d26_7 rfl rfl (pc' := 8) rfl ?_
      refine Seg.iloadN d26_8 rfl (pc' := 9) rfl ?_
      refine Seg.callV (y' := (⟨"java/lang/String", "charAt", "(I)C"⟩ : MethodName)) (z := (⟨"java/lang/String", "charAt", "(I)C"⟩ : MethodName)) (a := a) (wd G 39 rfl) (wd G 40 rfl) (nf_sel (wd G 42 rfl)) (wd G 42 rfl) (wd G 41 rfl) ⟨by decide, by decide⟩ f1 (pays_chr (W := 0) G h0 j F (fun c q => (hc c q).2) (by omega) rfl (by decide) (by decide)) (argsL := [(.int (Int32.ofNat j))]) (rest := []) rfl (lenOf pd_2 rfl) rfl (Nat.le_of_eq rfl) rfl d26_9 (pc' := 12) rfl (k' := 0) (n' := 0) rfl rfl (by decide) (by decide) ?_
      intro v_1 h_4 sz_2 q_3
      obtain ⟨rfl, rfl⟩ := q_3
      refine Seg.callS (y' := (⟨"com/example/wardn/wardn/rules/RepetitionOperator", "isDigit", "(C)Z"⟩ : MethodName)) (wd G 132 rfl) (wd G 133 rfl) (wd G 37 rfl) (wd G 134 rfl) ⟨by decide, by decide⟩ (Pays.of_ct (W := 0) (ct_isd G (cs.getD j 0) h0) all0 (wd G 134 rfl) (wd G 37 rfl) (by decide) (by decide) rfl rfl) (argsL := [(.int (cs.getD j 0))]) (rest := []) rfl (lenOf pd_3 rfl) rfl (Nat.le_of_eq rfl) rfl d26_12 (pc' := 15) rfl (k' := 0) (n' := 0) rfl rfl (by decide) (by decide) ?_
      intro v_5 h_8 sz_6 q_7
      obtain ⟨rfl, rfl⟩ := q_7
      by_cases q2 : isD (cs.getD j 0)
      · refine Seg.ifN d26_15 (XT.i0_eq_f (by rw [if_pos q2]; decide)) (pc' := 18) rfl ?_
        refine Seg.iinc (v := 1) (z := (Int32.ofNat (j + 1))) (L' := #[.val (.ref a), .val (.int (Int32.ofNat i)), .val (.int (Int32.ofNat e)), .val (.int (Int32.ofNat (j + 1))), .unset]) d26_18 (by decide) rfl (n32s j) rfl (pc' := 21) rfl ?_
        refine Seg.goto (pc' := 2) d26_21 (by decide) (by decide) ?_
        refine Seg.post (fun v h q => ?_) (ih (j + 1) (by omega) (by omega) (by omega))
        rw [runE, if_pos ⟨q1, q2⟩]; exact q
      · refine Seg.ifY (pc' := 24) d26_15 (XT.i0_eq_t (if_neg q2)) (by decide) (by decide) ?_
        have er : runE cs e (d + 1) j = j := by rw [runE, if_neg (fun q => q2 q.2)]
        refine Seg.iloadN d26_24 rfl (pc' := 25) rfl ?_
        refine Seg.iloadN d26_25 rfl (pc' := 26) rfl ?_
        refine Seg.isub (v := (Int32.ofNat (j - i))) d26_26 (n32sub hij) (pc' := 27) rfl ?_
        refine Seg.iconst (v := 1) d26_27 (by decide) (pc' := 28) rfl ?_
        by_cases g1 : 1 < j - i
        · refine Seg.icN d26_28 (XT.ii_le_f (n32lt (i := 1) g1 (by omega))) (pc' := 31) rfl ?_
          refine Seg.aloadN d26_31 rfl rfl (pc' := 32) rfl ?_
          refine Seg.iloadN d26_32 rfl (pc' := 33) rfl ?_
          refine Seg.callV (y' := (⟨"java/lang/String", "charAt", "(I)C"⟩ : MethodName)) (z := (⟨"java/lang/String", "charAt", "(I)C"⟩ : MethodName)) (a := a) (wd G 39 rfl) (wd G 40 rfl) (nf_sel (wd G 42 rfl)) (wd G 42 rfl) (wd G 41 rfl) ⟨by decide, by decide⟩ f1 (pays_chr (W := 0) G h0 i F (fun c q => (hc c q).2) (by omega) rfl (by decide) (by decide)) (argsL := [(.int (Int32.ofNat i))]) (rest := []) rfl (lenOf pd_2 rfl) rfl (Nat.le_of_eq rfl) rfl d26_33 (pc' := 36) rfl (k' := 0) (n' := 0) rfl rfl (by decide) (by decide) ?_
          intro v_9 h_12 sz_10 q_11
          obtain ⟨rfl, rfl⟩ := q_11
          refine Seg.bipush (v := 48) d26_36 (by decide) (pc' := 38) rfl ?_
          by_cases g2 : cs.getD i 0 = 48
          · refine Seg.icN d26_38 (XT.ii_ne_f g2) (pc' := 41) rfl ?_
            refine Seg.iconst (v := 1) d26_41 (by decide) (pc' := 42) rfl ?_
            refine Seg.goto (pc' := 46) d26_42 (by decide) (by decide) ?_
            refine Seg.istore (L' := #[.val (.ref a), .val (.int (Int32.ofNat i)), .val (.int (Int32.ofNat e)), .val (.int (Int32.ofNat j)), .val (.int (1 : Int32))]) d26_46 rfl (pc' := 48) rfl ?_
            refine Seg.iloadN d26_48 rfl (pc' := 49) rfl ?_
            refine Seg.iloadN d26_49 rfl (pc' := 50) rfl ?_
            refine Seg.icN d26_50 (XT.ii_eq_f fun q => absurd (n32eq (by omega) (by omega) q) (by omega)) (pc' := 53) rfl ?_
            refine Seg.iload d26_53 rfl (pc' := 55) rfl ?_
            refine Seg.ifN d26_55 (by decide) (pc' := 58) rfl ?_
            refine Seg.iconst (v := -1) d26_58 (by decide) (pc' := 59) rfl ?_
            refine Seg.goto (pc' := 63) d26_59 (by decide) (by decide) ?_
            exact Seg.retI rfl d26_63 (by decide) (by decide) ⟨by rw [er, ceJ, if_neg (by omega), if_pos ⟨by omega, g2⟩], rfl⟩
          · refine Seg.icY (pc' := 45) d26_38 (XT.ii_ne_t g2) (by decide) (by decide) ?_
            refine Seg.iconst (v := 0) d26_45 (by decide) (pc' := 46) rfl ?_
            refine Seg.istore (L' := #[.val (.ref a), .val (.int (Int32.ofNat i)), .val (.int (Int32.ofNat e)), .val (.int (Int32.ofNat j)), .val (.int (0 : Int32))]) d26_46 rfl (pc' := 48) rfl ?_
            refine Seg.iloadN d26_48 rfl (pc' := 49) rfl ?_
            refine Seg.iloadN d26_49 rfl (pc' := 50) rfl ?_
            refine Seg.icN d26_50 (XT.ii_eq_f fun q => absurd (n32eq (by omega) (by omega) q) (by omega)) (pc' := 53) rfl ?_
            refine Seg.iload d26_53 rfl (pc' := 55) rfl ?_
            refine Seg.ifY (pc' := 62) d26_55 (by decide) (by decide) (by decide) ?_
            refine Seg.iloadN d26_62 rfl (pc' := 63) rfl ?_
            exact Seg.retI rfl d26_63 (by decide) (by decide) ⟨by rw [er, ceJ, if_neg (by omega), if_neg (fun q => g2 q.2)], rfl⟩
        · refine Seg.icY (pc' := 45) d26_28 (XT.ii_le_t (n32nlt (i := 1) (by omega) (by decide))) (by decide) (by decide) ?_
          refine Seg.iconst (v := 0) d26_45 (by decide) (pc' := 46) rfl ?_
          refine Seg.istore (L' := #[.val (.ref a), .val (.int (Int32.ofNat i)), .val (.int (Int32.ofNat e)), .val (.int (Int32.ofNat j)), .val (.int (0 : Int32))]) d26_46 rfl (pc' := 48) rfl ?_
          refine Seg.iloadN d26_48 rfl (pc' := 49) rfl ?_
          refine Seg.iloadN d26_49 rfl (pc' := 50) rfl ?_
          by_cases g3 : j = i
          · refine Seg.icY (pc' := 58) d26_50 (XT.ii_eq_t (by rw [g3])) (by decide) (by decide) ?_
            refine Seg.iconst (v := -1) d26_58 (by decide) (pc' := 59) rfl ?_
            refine Seg.goto (pc' := 63) d26_59 (by decide) (by decide) ?_
            exact Seg.retI rfl d26_63 (by decide) (by decide) ⟨by rw [er, ceJ, if_pos g3], rfl⟩
          · refine Seg.icN d26_50 (XT.ii_eq_f fun q => g3 (n32eq (by omega) (by omega) q)) (pc' := 53) rfl ?_
            refine Seg.iload d26_53 rfl (pc' := 55) rfl ?_
            refine Seg.ifY (pc' := 62) d26_55 (by decide) (by decide) (by decide) ?_
            refine Seg.iloadN d26_62 rfl (pc' := 63) rfl ?_
            exact Seg.retI rfl d26_63 (by decide) (by decide) ⟨by rw [er, ceJ, if_neg g3, if_neg (by omega)], rfl⟩
    · refine Seg.icY (pc' := 24) d26_4 (XT.ii_ge_t (n32nlt (by omega) (by omega))) (by decide) (by decide) ?_
      have er : runE cs e (d + 1) j = j := by rw [runE, if_neg (fun q => q1 q.1)]
      refine Seg.iloadN d26_24 rfl (pc' := 25) rfl ?_
      refine Seg.iloadN d26_25 rfl (pc' := 26) rfl ?_
      refine Seg.isub (v := (Int32.ofNat (j - i))) d26_26 (n32sub hij) (pc' := 27) rfl ?_
      refine Seg.iconst (v := 1) d26_27 (by decide) (pc' := 28) rfl ?_
      by_cases g1 : 1 < j - i
      · refine Seg.icN d26_28 (XT.ii_le_f (n32lt (i := 1) g1 (by omega))) (pc' := 31) rfl ?_
        refine Seg.aloadN d26_31 rfl rfl (pc' := 32) rfl ?_
        refine Seg.iloadN d26_32 rfl (pc' := 33) rfl ?_
        refine Seg.callV (y' := (⟨"java/lang/String", "charAt", "(I)C"⟩ : MethodName)) (z := (⟨"java/lang/String", "charAt", "(I)C"⟩ : MethodName)) (a := a) (wd G 39 rfl) (wd G 40 rfl) (nf_sel (wd G 42 rfl)) (wd G 42 rfl) (wd G 41 rfl) ⟨by decide, by decide⟩ f1 (pays_chr (W := 0) G h0 i F (fun c q => (hc c q).2) (by omega) rfl (by decide) (by decide)) (argsL := [(.int (Int32.ofNat i))]) (rest := []) rfl (lenOf pd_2 rfl) rfl (Nat.le_of_eq rfl) rfl d26_33 (pc' := 36) rfl (k' := 0) (n' := 0) rfl rfl (by decide) (by decide) ?_
        intro v_13 h_16 sz_14 q_15
        obtain ⟨rfl, rfl⟩ := q_15
        refine Seg.bipush (v := 48) d26_36 (by decide) (pc' := 38) rfl ?_
        by_cases g2 : cs.getD i 0 = 48
        · refine Seg.icN d26_38 (XT.ii_ne_f g2) (pc' := 41) rfl ?_
          refine Seg.iconst (v := 1) d26_41 (by decide) (pc' := 42) rfl ?_
          refine Seg.goto (pc' := 46) d26_42 (by decide) (by decide) ?_
          refine Seg.istore (L' := #[.val (.ref a), .val (.int (Int32.ofNat i)), .val (.int (Int32.ofNat e)), .val (.int (Int32.ofNat j)), .val (.int (1 : Int32))]) d26_46 rfl (pc' := 48) rfl ?_
          refine Seg.iloadN d26_48 rfl (pc' := 49) rfl ?_
          refine Seg.iloadN d26_49 rfl (pc' := 50) rfl ?_
          refine Seg.icN d26_50 (XT.ii_eq_f fun q => absurd (n32eq (by omega) (by omega) q) (by omega)) (pc' := 53) rfl ?_
          refine Seg.iload d26_53 rfl (pc' := 55) rfl ?_
          refine Seg.ifN d26_55 (by decide) (pc' := 58) rfl ?_
          refine Seg.iconst (v := -1) d26_58 (by decide) (pc' := 59) rfl ?_
          refine Seg.goto (pc' := 63) d26_59 (by decide) (by decide) ?_
          exact Seg.retI rfl d26_63 (by decide) (by decide) ⟨by rw [er, ceJ, if_neg (by omega), if_pos ⟨by omega, g2⟩], rfl⟩
        · refine Seg.icY (pc' := 45) d26_38 (XT.ii_ne_t g2) (by decide) (by decide) ?_
          refine Seg.iconst (v := 0) d26_45 (by decide) (pc' := 46) rfl ?_
          refine Seg.istore (L' := #[.val (.ref a), .val (.int (Int32.ofNat i)), .val (.int (Int32.ofNat e)), .val (.int (Int32.ofNat j)), .val (.int (0 : Int32))]) d26_46 rfl (pc' := 48) rfl ?_
          refine Seg.iloadN d26_48 rfl (pc' := 49) rfl ?_
          refine Seg.iloadN d26_49 rfl (pc' := 50) rfl ?_
          refine Seg.icN d26_50 (XT.ii_eq_f fun q => absurd (n32eq (by omega) (by omega) q) (by omega)) (pc' := 53) rfl ?_
          refine Seg.iload d26_53 rfl (pc' := 55) rfl ?_
          refine Seg.ifY (pc' := 62) d26_55 (by decide) (by decide) (by decide) ?_
          refine Seg.iloadN d26_62 rfl (pc' := 63) rfl ?_
          exact Seg.retI rfl d26_63 (by decide) (by decide) ⟨by rw [er, ceJ, if_neg (by omega), if_neg (fun q => g2 q.2)], rfl⟩
      · refine Seg.icY (pc' := 45) d26_28 (XT.ii_le_t (n32nlt (i := 1) (by omega) (by decide))) (by decide) (by decide) ?_
        refine Seg.iconst (v := 0) d26_45 (by decide) (pc' := 46) rfl ?_
        refine Seg.istore (L' := #[.val (.ref a), .val (.int (Int32.ofNat i)), .val (.int (Int32.ofNat e)), .val (.int (Int32.ofNat j)), .val (.int (0 : Int32))]) d26_46 rfl (pc' := 48) rfl ?_
        refine Seg.iloadN d26_48 rfl (pc' := 49) rfl ?_
        refine Seg.iloadN d26_49 rfl (pc' := 50) rfl ?_
        by_cases g3 : j = i
        · refine Seg.icY (pc' := 58) d26_50 (XT.ii_eq_t (by rw [g3])) (by decide) (by decide) ?_
          refine Seg.iconst (v := -1) d26_58 (by decide) (pc' := 59) rfl ?_
          refine Seg.goto (pc' := 63) d26_59 (by decide) (by decide) ?_
          exact Seg.retI rfl d26_63 (by decide) (by decide) ⟨by rw [er, ceJ, if_pos g3], rfl⟩
        · refine Seg.icN d26_50 (XT.ii_eq_f fun q => g3 (n32eq (by omega) (by omega) q)) (pc' := 53) rfl ?_
          refine Seg.iload d26_53 rfl (pc' := 55) rfl ?_
          refine Seg.ifY (pc' := 62) d26_55 (by decide) (by decide) (by decide) ?_
          refine Seg.iloadN d26_62 rfl (pc' := 63) rfl ?_
          exact Seg.retI rfl d26_63 (by decide) (by decide) ⟨by rw [er, ceJ, if_neg g3, if_neg (by omega)], rfl⟩
theorem d26_0 : decode prog_22_method_7_code 0 = .ok (.iload_n 1, 1) := by decide +kernel
theorem d26_1 : decode prog_22_method_7_code 1 = .ok (.istore_n 3, 1) := by decide +kernel
theorem ef_ct_ce (a : Addr) (cs : List Int32) (i : Nat) (e : Nat) (m : MethodId) : entryFrame m #[(.ref a), (.int (Int32.ofNat i)), (.int (Int32.ofNat e))] 5 = mkF m 0 #[.val (.ref a), .val (.int (Int32.ofNat i)), .val (.int (Int32.ofNat e)), .unset, .unset] [] := by first | (simp [entryFrame, mkF, argsToLocals, Value.category]; done) | rfl
set_option maxRecDepth 65536 in
set_option maxHeartbeats 4000000 in
theorem ct_ce {l : Launch} {Z : State} {a0 : Array Value} (G : Env1 Z a0) (a : Addr) (cs : List Int32) (i : Nat) (e : Nat) (h0 : Heap) (F : Str Z h0 a cs) (hc : ∀ c ∈ cs, ¬ c < 0 ∧ ¬ (255 : Int32) < c) (hl : cs.length = 27) (hi : i ≤ 27) (he : e ≤ 27) :
    Ct l Z EL1 [] [] (⟨"com/example/wardn/wardn/rules/RepetitionOperator", "countEnd", "(Ljava/lang/String;II)I"⟩ : MethodName) prog_22_method_7_code 5 (some .int) ({ frames := 4, cells := 0, slots := 0, locals := 53 } : Room) #[(.ref a), (.int (Int32.ofNat i)), (.int (Int32.ofNat e))] h0 (fun v h => v = some (.int (oI (ceF cs i e))) ∧ h0 = h) := by
  refine Ct.of_seg (a0 := a0) (plainFor_of_name pn_com_example_wardn_wardn_rules_RepetitionOperator) G.2.1 (ef_ct_ce a cs i e) ?_
  refine Seg.iloadN d26_0 rfl (pc' := 1) rfl ?_
  refine Seg.istoreN (L' := #[.val (.ref a), .val (.int (Int32.ofNat i)), .val (.int (Int32.ofNat e)), .val (.int (Int32.ofNat i)), .unset]) d26_1 rfl (pc' := 2) rfl ?_
  rw [ce_J]
  exact lp_ce G a cs i e h0 F hc hl hi he (e - i) i (Nat.le_refl _) hi (by omega)
theorem ct_ceN {l : Launch} {Z : State} {a0 : Array Value} (G : Env1 Z a0) (a : Addr) (cs : List Int32) (i : Nat) (e : Nat) (h0 : Heap) (F : Str Z h0 a cs) (hc : ∀ c ∈ cs, ¬ c < 0 ∧ ¬ (255 : Int32) < c) (hl : cs.length = 27) (hi : i ≤ 27) (he : e ≤ 27) (hx : ceF cs i e = none) :
    Ct l Z EL1 [] [] (⟨"com/example/wardn/wardn/rules/RepetitionOperator", "countEnd", "(Ljava/lang/String;II)I"⟩ : MethodName) prog_22_method_7_code 5 (some .int) ({ frames := 4, cells := 0, slots := 0, locals := 53 } : Room) #[.ref a, .int (Int32.ofNat i), .int (Int32.ofNat e)] h0 (fun v h => v = some (.int (-1)) ∧ h0 = h) := by
  have q := ct_ce (l := l) G a cs i e h0 F hc hl hi he
  rw [hx] at q
  exact q
theorem ct_ceS {l : Launch} {Z : State} {a0 : Array Value} (G : Env1 Z a0) (a : Addr) (cs : List Int32) (i : Nat) (e : Nat) (j : Nat) (h0 : Heap) (F : Str Z h0 a cs) (hc : ∀ c ∈ cs, ¬ c < 0 ∧ ¬ (255 : Int32) < c) (hl : cs.length = 27) (hi : i ≤ 27) (he : e ≤ 27) (hx : ceF cs i e = some j) :
    Ct l Z EL1 [] [] (⟨"com/example/wardn/wardn/rules/RepetitionOperator", "countEnd", "(Ljava/lang/String;II)I"⟩ : MethodName) prog_22_method_7_code 5 (some .int) ({ frames := 4, cells := 0, slots := 0, locals := 53 } : Room) #[.ref a, .int (Int32.ofNat i), .int (Int32.ofNat e)] h0 (fun v h => v = some (.int (Int32.ofNat j)) ∧ h0 = h) := by
  have q := ct_ce (l := l) G a cs i e h0 F hc hl hi he
  rw [hx] at q
  exact q
theorem d29_0 : decode jdk_29_method_70_code 0 = .ok (.lload_n 0, 1) := by decide +kernel
theorem d29_1 : decode jdk_29_method_70_code 1 = .ok (.lload_n 2, 1) := by decide +kernel
theorem d29_2 : decode jdk_29_method_70_code 2 = .ok (.lcmp, 1) := by decide +kernel
theorem d29_3 : decode jdk_29_method_70_code 3 = .ok (.ifCond .gt 7, 3) := by decide +kernel
theorem d29_10 : decode jdk_29_method_70_code 10 = .ok (.lload_n 2, 1) := by decide +kernel
theorem d29_11 : decode jdk_29_method_70_code 11 = .ok (.lreturn, 1) := by decide +kernel
theorem d29_6 : decode jdk_29_method_70_code 6 = .ok (.lload_n 0, 1) := by decide +kernel
theorem d29_7 : decode jdk_29_method_70_code 7 = .ok (.goto 4, 3) := by decide +kernel
theorem pf_java_lang_Math_min__JJ_J : plainFor (⟨"java/lang/Math", "min", "(JJ)J"⟩ : MethodName) = true := by decide +kernel
theorem ef_ct_minL (u : Int64) (m : MethodId) : entryFrame m #[(.long u), (.long (2147483647 : Int64))] 4 = mkF m 0 #[.val (.long u), .second, .val (.long (2147483647 : Int64)), .second] [] := by first | (simp [entryFrame, mkF, argsToLocals, Value.category]; done) | rfl
set_option maxRecDepth 65536 in
set_option maxHeartbeats 4000000 in
theorem ct_minL {l : Launch} {Z : State} {a0 : Array Value} (G : Env1 Z a0) (u : Int64) (h0 : Heap) :
    Ct l Z EL1 [] [] (⟨"java/lang/Math", "min", "(JJ)J"⟩ : MethodName) jdk_29_method_70_code 4 (some .long) ({ frames := 0, cells := 0, slots := 0, locals := 0 } : Room) #[(.long u), (.long (2147483647 : Int64))] h0 (fun v h => v = some (.long (mn64 u)) ∧ h0 = h) := by
  refine Ct.of_seg (a0 := a0) pf_java_lang_Math_min__JJ_J G.2.1 (ef_ct_minL u) ?_
  refine Seg.lloadN d29_0 rfl (pc' := 1) rfl ?_
  refine Seg.lloadN d29_1 rfl (pc' := 2) rfl ?_
  refine Seg.lcmp (v := (lcmpW u (2147483647 : Int64))) d29_2 rfl (pc' := 3) rfl ?_
  by_cases h1 : (2147483647 : Int64) < u
  · refine Seg.ifY (pc' := 10) d29_3 (XT.i0_gt_t ((lw_gt _ _).mpr h1)) (by decide) (by decide) ?_
    refine Seg.lloadN d29_10 rfl (pc' := 11) rfl ?_
    exact Seg.retL rfl d29_11 (by decide) (by decide) ⟨by rw [mn64, if_pos h1], rfl⟩
  · refine Seg.ifN d29_3 (XT.i0_gt_f fun q => h1 ((lw_gt _ _).mp q)) (pc' := 6) rfl ?_
    refine Seg.lloadN d29_6 rfl (pc' := 7) rfl ?_
    refine Seg.goto (pc' := 11) d29_7 (by decide) (by decide) ?_
    exact Seg.retL rfl d29_11 (by decide) (by decide) ⟨by rw [mn64, if_neg h1], rfl⟩
theorem d28_5 : decode prog_22_method_8_code 5 = .ok (.iload 5, 2) := by decide +kernel
theorem d28_7 : decode prog_22_method_8_code 7 = .ok (.iload_n 2, 1) := by decide +kernel
theorem d28_8 : decode prog_22_method_8_code 8 = .ok (.if_icmp .ge 33, 3) := by decide +kernel
theorem d28_41 : decode prog_22_method_8_code 41 = .ok (.lload_n 3, 1) := by decide +kernel
theorem d28_42 : decode prog_22_method_8_code 42 = .ok (.l2i, 1) := by decide +kernel
theorem d28_43 : decode prog_22_method_8_code 43 = .ok (.ireturn, 1) := by decide +kernel
theorem d28_11 : decode prog_22_method_8_code 11 = .ok (.ldc2_w 53, 3) := by decide +kernel
theorem d28_14 : decode prog_22_method_8_code 14 = .ok (.lload_n 3, 1) := by decide +kernel
theorem d28_15 : decode prog_22_method_8_code 15 = .ok (.lmul, 1) := by decide +kernel
theorem d28_16 : decode prog_22_method_8_code 16 = .ok (.aload_n 0, 1) := by decide +kernel
theorem d28_17 : decode prog_22_method_8_code 17 = .ok (.iload 5, 2) := by decide +kernel
theorem d28_19 : decode prog_22_method_8_code 19 = .ok (.invokevirtual 19, 3) := by decide +kernel
theorem d28_22 : decode prog_22_method_8_code 22 = .ok (.i2l, 1) := by decide +kernel
theorem d28_23 : decode prog_22_method_8_code 23 = .ok (.ladd, 1) := by decide +kernel
theorem d28_24 : decode prog_22_method_8_code 24 = .ok (.ldc2_w 55, 3) := by decide +kernel
theorem d28_27 : decode prog_22_method_8_code 27 = .ok (.lsub, 1) := by decide +kernel
theorem d28_28 : decode prog_22_method_8_code 28 = .ok (.ldc2_w 59, 3) := by decide +kernel
theorem d28_31 : decode prog_22_method_8_code 31 = .ok (.invokestatic 61, 3) := by decide +kernel
theorem pd_4 : parseMethodDescriptor "(JJ)J" = some ⟨[.long, .long], some .long⟩ := by decide +kernel
theorem d28_34 : decode prog_22_method_8_code 34 = .ok (.lstore_n 3, 1) := by decide +kernel
theorem d28_35 : decode prog_22_method_8_code 35 = .ok (.iinc 5 1, 3) := by decide +kernel
theorem d28_38 : decode prog_22_method_8_code 38 = .ok (.goto (-33), 3) := by decide +kernel
set_option maxRecDepth 65536 in
set_option maxHeartbeats 4000000 in
theorem lp_cnt {l : Launch} {Z : State} {a0 : Array Value} (G : Env1 Z a0) (a : Addr) (cs : List Int32) (i e : Nat) (h0 : Heap) (F : Str Z h0 a cs) (hc : ∀ c ∈ cs, ¬ c < 0 ∧ ¬ (255 : Int32) < c) (hl : cs.length = 27) (he : e ≤ 27) (d : Nat) : ∀ (j : Nat) (x : Int64), j + d = e →
    Seg l Z a0 EL1 (⟨"com/example/wardn/wardn/rules/RepetitionOperator", "count", "(Ljava/lang/String;II)I"⟩ : MethodName) prog_22_method_8_code 6 (some .int) ({ frames := 4, cells := 0, slots := 0, locals := 55 } : Room) (fun v h => v = some (.int (cnF cs d j x).toInt32) ∧ h0 = h) h0 0 0 [] 5 #[.val (.ref a), .val (.int (Int32.ofNat i)), .val (.int (Int32.ofNat e)), .val (.long x), .second, .val (.int (Int32.ofNat j))] [] := by
  induction d with
  | zero =>
    intro j x hd
    have f1 := F.exa
    refine Seg.iload d28_5 rfl (pc' := 7) rfl ?_
    refine Seg.iloadN d28_7 rfl (pc' := 8) rfl ?_
    refine Seg.icY (pc' := 41) d28_8 (XT.ii_ge_t (n32nlt (by omega) (by omega))) (by decide) (by decide) ?_
    refine Seg.lloadN d28_41 rfl (pc' := 42) rfl ?_
    refine Seg.l2i (v := (x).toInt32) d28_42 rfl (pc' := 43) rfl ?_
    exact Seg.retI rfl d28_43 (by decide) (by decide) ⟨rfl, rfl⟩
  | succ d ih =>
    intro j x hd
    have f1 := F.exa
    refine Seg.iload d28_5 rfl (pc' := 7) rfl ?_
    refine Seg.iloadN d28_7 rfl (pc' := 8) rfl ?_
    refine Seg.icN d28_8 (XT.ii_ge_f (n32lt (by omega) (by omega))) (pc' := 11) rfl ?_
    refine Seg.ldc2J (wd G 138 rfl) d28_11 (pc' := 14) rfl ?_
    refine Seg.lloadN d28_14 rfl (pc' := 15) rfl ?_
    refine Seg.lmul (v := ((10 : Int64) * x)) d28_15 rfl (pc' := 16) rfl ?_
    refine Seg.aloadN d28_16 rfl rfl (pc' := 17) rfl ?_
    refine Seg.iload d28_17 rfl (pc' := 19) rfl ?_
    refine Seg.callV (y' := (⟨"java/lang/String", "charAt", "(I)C"⟩ : MethodName)) (z := (⟨"java/lang/String", "charAt", "(I)C"⟩ : MethodName)) (a := a) (wd G 39 rfl) (wd G 40 rfl) (nf_sel (wd G 42 rfl)) (wd G 42 rfl) (wd G 41 rfl) ⟨by decide, by decide⟩ f1 (pays_chr (W := 2) G h0 j F (fun c q => (hc c q).2) (by omega) rfl (by decide) (by decide)) (argsL := [(.int (Int32.ofNat j))]) (rest := [(.long ((10 : Int64) * x))]) rfl (lenOf pd_2 rfl) rfl (Nat.le_of_eq rfl) rfl d28_19 (pc' := 22) rfl (k' := 0) (n' := 0) rfl rfl (by decide) (by decide) ?_
    intro v_1 h_4 sz_2 q_3
    obtain ⟨rfl, rfl⟩ := q_3
    refine Seg.i2l (v := ((cs.getD j 0)).toInt64) d28_22 rfl (pc' := 23) rfl ?_
    refine Seg.ladd (v := (((10 : Int64) * x) + ((cs.getD j 0)).toInt64)) d28_23 rfl (pc' := 24) rfl ?_
    refine Seg.ldc2J (wd G 139 rfl) d28_24 (pc' := 27) rfl ?_
    refine Seg.lsub (v := ((((10 : Int64) * x) + ((cs.getD j 0)).toInt64) - (48 : Int64))) d28_27 rfl (pc' := 28) rfl ?_
    refine Seg.ldc2J (wd G 140 rfl) d28_28 (pc' := 31) rfl ?_
    refine Seg.callS (y' := (⟨"java/lang/Math", "min", "(JJ)J"⟩ : MethodName)) (wd G 141 rfl) (wd G 142 rfl) (wd G 143 rfl) (wd G 144 rfl) ⟨by decide, by decide⟩ (Pays.of_ct (W := 0) (ct_minL G (((10 : Int64) * x + (cs.getD j 0).toInt64) - (48 : Int64)) h0) all0 (wd G 144 rfl) (wd G 143 rfl) (by decide) (by decide) rfl rfl) (argsL := [(.long ((((10 : Int64) * x) + ((cs.getD j 0)).toInt64) - (48 : Int64))), (.long (2147483647 : Int64))]) (rest := []) rfl (lenOf pd_4 rfl) rfl (Nat.le_of_eq rfl) rfl d28_31 (pc' := 34) rfl (k' := 0) (n' := 0) rfl rfl (by decide) (by decide) ?_
    intro v_5 h_8 sz_6 q_7
    obtain ⟨rfl, rfl⟩ := q_7
    refine Seg.lstoreN (L' := #[.val (.ref a), .val (.int (Int32.ofNat i)), .val (.int (Int32.ofNat e)), .val (.long (mn64 (((10 : Int64) * x + (cs.getD j 0).toInt64) - (48 : Int64)))), .second, .val (.int (Int32.ofNat j))]) d28_34 rfl (pc' := 35) rfl ?_
    refine Seg.iinc (v := 1) (z := (Int32.ofNat (j + 1))) (L' := #[.val (.ref a), .val (.int (Int32.ofNat i)), .val (.int (Int32.ofNat e)), .val (.long (mn64 (((10 : Int64) * x + (cs.getD j 0).toInt64) - (48 : Int64)))), .second, .val (.int (Int32.ofNat (j + 1)))]) d28_35 (by decide) rfl (n32s j) rfl (pc' := 38) rfl ?_
    refine Seg.goto (pc' := 5) d28_38 (by decide) (by decide) ?_
    exact ih (j + 1) _ (by omega)
theorem d28_0 : decode prog_22_method_8_code 0 = .ok (.lconst 0, 1) := by decide +kernel
theorem d28_1 : decode prog_22_method_8_code 1 = .ok (.lstore_n 3, 1) := by decide +kernel
theorem d28_2 : decode prog_22_method_8_code 2 = .ok (.iload_n 1, 1) := by decide +kernel
theorem d28_3 : decode prog_22_method_8_code 3 = .ok (.istore 5, 2) := by decide +kernel
theorem ef_ct_cnt (a : Addr) (cs : List Int32) (i : Nat) (e : Nat) (m : MethodId) : entryFrame m #[(.ref a), (.int (Int32.ofNat i)), (.int (Int32.ofNat e))] 6 = mkF m 0 #[.val (.ref a), .val (.int (Int32.ofNat i)), .val (.int (Int32.ofNat e)), .unset, .unset, .unset] [] := by first | (simp [entryFrame, mkF, argsToLocals, Value.category]; done) | rfl
set_option maxRecDepth 65536 in
set_option maxHeartbeats 4000000 in
theorem ct_cnt {l : Launch} {Z : State} {a0 : Array Value} (G : Env1 Z a0) (a : Addr) (cs : List Int32) (i : Nat) (e : Nat) (h0 : Heap) (F : Str Z h0 a cs) (hc : ∀ c ∈ cs, ¬ c < 0 ∧ ¬ (255 : Int32) < c) (hl : cs.length = 27) (hie : i ≤ e) (he : e ≤ 27) :
    Ct l Z EL1 [] [] (⟨"com/example/wardn/wardn/rules/RepetitionOperator", "count", "(Ljava/lang/String;II)I"⟩ : MethodName) prog_22_method_8_code 6 (some .int) ({ frames := 4, cells := 0, slots := 0, locals := 55 } : Room) #[(.ref a), (.int (Int32.ofNat i)), (.int (Int32.ofNat e))] h0 (fun v h => v = some (.int (cnt cs i e)) ∧ h0 = h) := by
  refine Ct.of_seg (a0 := a0) (plainFor_of_name pn_com_example_wardn_wardn_rules_RepetitionOperator) G.2.1 (ef_ct_cnt a cs i e) ?_
  refine Seg.lconst (v := 0) d28_0 (by decide) (pc' := 1) rfl ?_
  refine Seg.lstoreN (L' := #[.val (.ref a), .val (.int (Int32.ofNat i)), .val (.int (Int32.ofNat e)), .val (.long (0 : Int64)), .second, .unset]) d28_1 rfl (pc' := 2) rfl ?_
  refine Seg.iloadN d28_2 rfl (pc' := 3) rfl ?_
  refine Seg.istore (L' := #[.val (.ref a), .val (.int (Int32.ofNat i)), .val (.int (Int32.ofNat e)), .val (.long (0 : Int64)), .second, .val (.int (Int32.ofNat i))]) d28_3 rfl (pc' := 5) rfl ?_
  exact lp_cnt G a cs i e h0 F hc hl he (e - i) i 0 (by omega)
theorem d14_0 : decode prog_22_method_1_code 0 = .ok (.aload_n 0, 1) := by decide +kernel
theorem d14_1 : decode prog_22_method_1_code 1 = .ok (.invokespecial 1, 3) := by decide +kernel
theorem d14_4 : decode prog_22_method_1_code 4 = .ok (.aload_n 0, 1) := by decide +kernel
theorem d14_5 : decode prog_22_method_1_code 5 = .ok (.iload_n 1, 1) := by decide +kernel
theorem d14_6 : decode prog_22_method_1_code 6 = .ok (.putfield 7, 3) := by decide +kernel
theorem d14_9 : decode prog_22_method_1_code 9 = .ok (.aload_n 0, 1) := by decide +kernel
theorem d14_10 : decode prog_22_method_1_code 10 = .ok (.iload_n 2, 1) := by decide +kernel
theorem d14_11 : decode prog_22_method_1_code 11 = .ok (.putfield 13, 3) := by decide +kernel
theorem d14_14 : decode prog_22_method_1_code 14 = .ok (.aload_n 0, 1) := by decide +kernel
theorem d14_15 : decode prog_22_method_1_code 15 = .ok (.iload_n 3, 1) := by decide +kernel
theorem d14_16 : decode prog_22_method_1_code 16 = .ok (.putfield 16, 3) := by decide +kernel
theorem d14_19 : decode prog_22_method_1_code 19 = .ok (.return_, 1) := by decide +kernel
theorem ef_ct_ri (x : Addr) (u0 : Int32) (u1 : Int32) (u2 : Int32) (o0 : Value) (o1 : Value) (o2 : Value) (m : MethodId) : entryFrame m #[(.ref x), (.int u0), (.int u1), (.int u2)] 4 = mkF m 0 #[.val (.ref x), .val (.int u0), .val (.int u1), .val (.int u2)] [] := by first | (simp [entryFrame, mkF, argsToLocals, Value.category]; done) | rfl
set_option maxRecDepth 65536 in
set_option maxHeartbeats 4000000 in
theorem ct_ri {l : Launch} {Z : State} {a0 : Array Value} (G : Env1 Z a0) (x : Addr) (u0 : Int32) (u1 : Int32) (u2 : Int32) (o0 : Value) (o1 : Value) (o2 : Value) (h0 : Heap) (A : Exa Z h0 x "com/example/wardn/wardn/rules/RepetitionOperator") (F0 : Fld Z h0 x "com/example/wardn/wardn/rules/RepetitionOperator" "min" "I" o0) (F1 : Fld Z h0 x "com/example/wardn/wardn/rules/RepetitionOperator" "max" "I" o1) (F2 : Fld Z h0 x "com/example/wardn/wardn/rules/RepetitionOperator" "end" "I" o2) :
    Ct l Z EL1 [x] [] (⟨"com/example/wardn/wardn/rules/RepetitionOperator", "<init>", "(III)V"⟩ : MethodName) prog_22_method_1_code 4 none ({ frames := 1, cells := 0, slots := 0, locals := 12 } : Room) #[(.ref x), (.int u0), (.int u1), (.int u2)] h0 (fun v h => v = none ∧ Keep h0 h [x] ∧ Fld Z h x "com/example/wardn/wardn/rules/RepetitionOperator" "min" "I" (.int u0) ∧ Fld Z h x "com/example/wardn/wardn/rules/RepetitionOperator" "max" "I" (.int u1) ∧ Fld Z h x "com/example/wardn/wardn/rules/RepetitionOperator" "end" "I" (.int u2)) := by
  refine Ct.of_seg (a0 := a0) (plainFor_of_name pn_com_example_wardn_wardn_rules_RepetitionOperator) G.2.1 (ef_ct_ri x u0 u1 u2 o0 o1 o2) ?_
  refine Seg.aloadN d14_0 rfl rfl (pc' := 1) rfl ?_
  refine Seg.initO (wd G 66 rfl) (wd G 17 rfl) (wd G 18 rfl) rfl d14_1 (pc' := 4) rfl (by decide) (W := 0) (Nat.le_of_eq rfl) (by decide) ?_
  refine Seg.aloadN d14_4 rfl rfl (pc' := 5) rfl ?_
  refine Seg.iloadN d14_5 rfl (pc' := 6) rfl ?_
  refine Seg.putF (host := "") (ty := .int) (v' := (.int u0)) (wd G 67 rfl) Via.refl F0 A (Or.inr ⟨(wd G 68 rfl), rfl, rfl⟩) (wd G 62 rfl) (by decide) rfl rfl (List.mem_of_getElem? (i := 0) rfl) d14_6 (pc' := 9) rfl ?_
  intro h_3 W_1 F_2
  refine Seg.aloadN d14_9 rfl rfl (pc' := 10) rfl ?_
  refine Seg.iloadN d14_10 rfl (pc' := 11) rfl ?_
  have F_4 := (F1.other W_1 (Or.inr (slot_ne (Or.inr (wd G 70 rfl)) (Or.inr (wd G 68 rfl)) (by decide) (t := .int) (t' := .int) (by decide) (by decide))))
  have F_5 := (A.wr W_1)
  refine Seg.putF (host := "") (ty := .int) (v' := (.int u1)) (wd G 69 rfl) Via.refl F_4 F_5 (Or.inr ⟨(wd G 70 rfl), rfl, rfl⟩) (wd G 62 rfl) (by decide) rfl rfl (List.mem_of_getElem? (i := 0) rfl) d14_11 (pc' := 14) rfl ?_
  intro h_8 W_6 F_7
  refine Seg.aloadN d14_14 rfl rfl (pc' := 15) rfl ?_
  refine Seg.iloadN d14_15 rfl (pc' := 16) rfl ?_
  have F_9 := ((F2.other W_1 (Or.inr (slot_ne (Or.inr (wd G 72 rfl)) (Or.inr (wd G 68 rfl)) (by decide) (t := .int) (t' := .int) (by decide) (by decide)))).other W_6 (Or.inr (slot_ne (Or.inr (wd G 72 rfl)) (Or.inr (wd G 70 rfl)) (by decide) (t := .int) (t' := .int) (by decide) (by decide))))
  have F_10 := (F_5.wr W_6)
  refine Seg.putF (host := "") (ty := .int) (v' := (.int u2)) (wd G 71 rfl) Via.refl F_9 F_10 (Or.inr ⟨(wd G 72 rfl), rfl, rfl⟩) (wd G 62 rfl) (by decide) rfl rfl (List.mem_of_getElem? (i := 0) rfl) d14_16 (pc' := 19) rfl ?_
  intro h_13 W_11 F_12
  have F_14 := ((F_2.other W_6 (Or.inr (slot_ne (Or.inr (wd G 68 rfl)) (Or.inr (wd G 70 rfl)) (by decide) (t := .int) (t' := .int) (by decide) (by decide)))).other W_11 (Or.inr (slot_ne (Or.inr (wd G 68 rfl)) (Or.inr (wd G 72 rfl)) (by decide) (t := .int) (t' := .int) (by decide) (by decide))))
  have F_15 := (F_7.other W_11 (Or.inr (slot_ne (Or.inr (wd G 70 rfl)) (Or.inr (wd G 72 rfl)) (by decide) (t := .int) (t' := .int) (by decide) (by decide))))
  exact Seg.ret0 rfl d14_19 (by decide) (by decide) ⟨rfl, ((((Keep.refl h0 [x]).wr W_1 (Or.inl (List.mem_of_getElem? (i := 0) rfl))).wr W_6 (Or.inl (List.mem_of_getElem? (i := 0) rfl))).wr W_11 (Or.inl (List.mem_of_getElem? (i := 0) rfl))), F_14, F_15, F_12⟩
theorem d25_117 : decode prog_22_method_6_code 117 = .ok (.iload 6, 2) := by decide +kernel
theorem d25_119 : decode prog_22_method_6_code 119 = .ok (.iload_n 2, 1) := by decide +kernel
theorem d25_120 : decode prog_22_method_6_code 120 = .ok (.if_icmp .ge 18, 3) := by decide +kernel
theorem d25_123 : decode prog_22_method_6_code 123 = .ok (.aload_n 0, 1) := by decide +kernel
theorem d25_124 : decode prog_22_method_6_code 124 = .ok (.iload 6, 2) := by decide +kernel
theorem d25_126 : decode prog_22_method_6_code 126 = .ok (.invokevirtual 19, 3) := by decide +kernel
theorem d25_129 : decode prog_22_method_6_code 129 = .ok (.bipush 125, 2) := by decide +kernel
theorem d25_131 : decode prog_22_method_6_code 131 = .ok (.if_icmp .ne 7, 3) := by decide +kernel
theorem d25_134 : decode prog_22_method_6_code 134 = .ok (.iconst 1, 1) := by decide +kernel
theorem d25_135 : decode prog_22_method_6_code 135 = .ok (.goto 4, 3) := by decide +kernel
theorem d25_139 : decode prog_22_method_6_code 139 = .ok (.istore 7, 2) := by decide +kernel
theorem d25_141 : decode prog_22_method_6_code 141 = .ok (.iload 7, 2) := by decide +kernel
theorem d25_143 : decode prog_22_method_6_code 143 = .ok (.ifCond .eq 24, 3) := by decide +kernel
theorem d25_146 : decode prog_22_method_6_code 146 = .ok (.new 8, 3) := by decide +kernel
theorem d25_149 : decode prog_22_method_6_code 149 = .ok (.dup, 1) := by decide +kernel
theorem d25_150 : decode prog_22_method_6_code 150 = .ok (.iload 4, 2) := by decide +kernel
theorem d25_152 : decode prog_22_method_6_code 152 = .ok (.iload 5, 2) := by decide +kernel
theorem d25_154 : decode prog_22_method_6_code 154 = .ok (.iload 6, 2) := by decide +kernel
theorem d25_156 : decode prog_22_method_6_code 156 = .ok (.iconst 1, 1) := by decide +kernel
theorem d25_157 : decode prog_22_method_6_code 157 = .ok (.iadd, 1) := by decide +kernel
theorem d25_158 : decode prog_22_method_6_code 158 = .ok (.invokespecial 25, 3) := by decide +kernel
theorem pd_5 : parseMethodDescriptor "(III)V" = some ⟨[.int, .int, .int], none⟩ := by decide +kernel
theorem d25_161 : decode prog_22_method_6_code 161 = .ok (.invokestatic 28, 3) := by decide +kernel
theorem pd_6 : parseMethodDescriptor "(Ljava/lang/Object;)Ljava/util/Optional;" = some ⟨[(.object "java/lang/Object")], some (.object "java/util/Optional")⟩ := by decide +kernel
theorem d25_164 : decode prog_22_method_6_code 164 = .ok (.goto 6, 3) := by decide +kernel
theorem d25_170 : decode prog_22_method_6_code 170 = .ok (.areturn, 1) := by decide +kernel
theorem d25_138 : decode prog_22_method_6_code 138 = .ok (.iconst 0, 1) := by decide +kernel
theorem d25_167 : decode prog_22_method_6_code 167 = .ok (.invokestatic 38, 3) := by decide +kernel
theorem pd_7 : parseMethodDescriptor "()Ljava/util/Optional;" = some ⟨[], some (.object "java/util/Optional")⟩ := by decide +kernel
set_option maxRecDepth 65536 in
set_option maxHeartbeats 4000000 in
theorem sgc117 {l : Launch} {Z : State} {a0 : Array Value} (G : Env1 Z a0) (a : Addr) (cs : List Int32) (e : Nat) (j : Nat) (mn : Int32) (mx : Int32) (s1 : Slot) (s3 : Slot) (sl7 : Slot) (s8 : Slot) (h0 : Heap) (F : Str Z h0 a cs) (hc : ∀ c ∈ cs, ¬ c < 0 ∧ ¬ (255 : Int32) < c) (hl : cs.length = 27) (he : e ≤ 27) (hj : j ≤ 27) (s7 : sl7 = .unset ∨ ∃ v : Int32, sl7 = .val (.int v)) :
    Seg l Z a0 EL1 (⟨"com/example/wardn/wardn/rules/RepetitionOperator", "counted", "(Ljava/lang/String;II)Ljava/util/Optional;"⟩ : MethodName) prog_22_method_6_code 9 (some (.object "java/util/Optional")) ({ frames := 6, cells := 2, slots := 4, locals := 130 } : Room) (fun v h => ∃ r, v = some (.ref r) ∧ Ext h0 h ∧ OptR Z h r (tlF cs e j mn mx)) h0 0 0 [] 117 #[.val (.ref a), s1, .val (.int (Int32.ofNat e)), s3, .val (.int mn), .val (.int mx), .val (.int (Int32.ofNat j)), sl7, s8] [] := by
  have f1 := F.exa
  refine Seg.iload d25_117 rfl (pc' := 119) rfl ?_
  refine Seg.iloadN d25_119 rfl (pc' := 120) rfl ?_
  by_cases g1 : j < e
  · refine Seg.icN d25_120 (XT.ii_ge_f (n32lt g1 (by omega))) (pc' := 123) rfl ?_
    refine Seg.aloadN d25_123 rfl rfl (pc' := 124) rfl ?_
    refine Seg.iload d25_124 rfl (pc' := 126) rfl ?_
    refine Seg.callV (y' := (⟨"java/lang/String", "charAt", "(I)C"⟩ : MethodName)) (z := (⟨"java/lang/String", "charAt", "(I)C"⟩ : MethodName)) (a := a) (wd G 39 rfl) (wd G 40 rfl) (nf_sel (wd G 42 rfl)) (wd G 42 rfl) (wd G 41 rfl) ⟨by decide, by decide⟩ f1 (pays_chr (W := 0) G h0 j F (fun c q => (hc c q).2) (by omega) rfl (by decide) (by decide)) (argsL := [(.int (Int32.ofNat j))]) (rest := []) rfl (lenOf pd_2 rfl) rfl (Nat.le_of_eq rfl) rfl d25_126 (pc' := 129) rfl (k' := 0) (n' := 0) rfl rfl (by decide) (by decide) ?_
    intro v_1 h_4 sz_2 q_3
    obtain ⟨rfl, rfl⟩ := q_3
    refine Seg.bipush (v := 125) d25_129 (by decide) (pc' := 131) rfl ?_
    by_cases g2 : cs.getD j 0 = 125
    · refine Seg.icN d25_131 (XT.ii_ne_f g2) (pc' := 134) rfl ?_
      refine Seg.iconst (v := 1) d25_134 (by decide) (pc' := 135) rfl ?_
      refine Seg.goto (pc' := 139) d25_135 (by decide) (by decide) ?_
      refine Seg.istore (L' := #[.val (.ref a), s1, .val (.int (Int32.ofNat e)), s3, .val (.int mn), .val (.int mx), .val (.int (Int32.ofNat j)), .val (.int (1 : Int32)), s8]) d25_139 (by rcases s7 with rfl | ⟨_, rfl⟩ <;> rfl) (pc' := 141) rfl ?_
      refine Seg.iload d25_141 rfl (pc' := 143) rfl ?_
      refine Seg.ifN d25_143 (by decide) (pc' := 146) rfl ?_
      refine Seg.newO (wd G 61 rfl) (wd G 62 rfl) (wd G 37 rfl) d25_146 (pc' := 149) rfl (k' := 1) (n' := 3) rfl rfl (by decide) (by decide) ?_
      intro b_5 h_7 E_6 e_b_5 l_b_5 A_b_5 D_b_5
      have F_min_b_5 : Fld Z h_7 b_5 "com/example/wardn/wardn/rules/RepetitionOperator" "min" "I" (.int (0 : Int32)) := D_b_5 (Or.inr (wd G 68 rfl)) (ty := .int) (by decide)
      have F_max_b_5 : Fld Z h_7 b_5 "com/example/wardn/wardn/rules/RepetitionOperator" "max" "I" (.int (0 : Int32)) := D_b_5 (Or.inr (wd G 70 rfl)) (ty := .int) (by decide)
      have F_end_b_5 : Fld Z h_7 b_5 "com/example/wardn/wardn/rules/RepetitionOperator" "end" "I" (.int (0 : Int32)) := D_b_5 (Or.inr (wd G 72 rfl)) (ty := .int) (by decide)
      refine Seg.dup d25_149 rfl (pc' := 150) rfl ?_
      refine Seg.iload d25_150 rfl (pc' := 152) rfl ?_
      refine Seg.iload d25_152 rfl (pc' := 154) rfl ?_
      refine Seg.iload d25_154 rfl (pc' := 156) rfl ?_
      refine Seg.iconst (v := 1) d25_156 (by decide) (pc' := 157) rfl ?_
      refine Seg.iadd (v := (Int32.ofNat (j + 1))) d25_157 (n32s j) (pc' := 158) rfl ?_
      refine Seg.callN (y' := (⟨"com/example/wardn/wardn/rules/RepetitionOperator", "<init>", "(III)V"⟩ : MethodName)) (a := b_5) rfl (wd G 63 rfl) (wd G 64 rfl) (wd G 65 rfl) ⟨by decide, by decide⟩ (Pays.of_ct (W := 1) (ct_ri G b_5 mn mx (Int32.ofNat (j + 1)) (.int 0) (.int 0) (.int 0) h_7 A_b_5 F_min_b_5 F_max_b_5 F_end_b_5) (allS (List.mem_of_getElem? (i := 0) rfl) all0) (wd G 65 rfl) (wd G 37 rfl) (by decide) (by decide) rfl rfl) (argsL := [(.int mn), (.int mx), (.int (Int32.ofNat (j + 1)))]) (rest := [(.ref b_5)]) rfl (lenOf pd_5 rfl) rfl (Nat.le_of_eq rfl) rfl d25_158 (pc' := 161) rfl (k' := 1) (n' := 3) rfl rfl (by decide) (by decide) ?_
      intro v_8 h_11 sz_9 q_10
      obtain ⟨rfl, K7, G0, G1, G2⟩ := q_10
      refine Seg.callS (y' := (⟨"java/util/Optional", "of", "(Ljava/lang/Object;)Ljava/util/Optional;"⟩ : MethodName)) (wd G 73 rfl) (wd G 74 rfl) (wd G 75 rfl) (wd G 76 rfl) ⟨by decide, by decide⟩ (Pays.of_ct (W := 0) (ct_joof G b_5 h_11) all0 (wd G 76 rfl) (wd G 75 rfl) (by decide) (by decide) rfl rfl) (argsL := [(.ref b_5)]) (rest := []) rfl (lenOf pd_6 rfl) rfl (Nat.le_of_eq rfl) rfl d25_161 (pc' := 164) rfl (k' := 2) (n' := 4) rfl rfl (by decide) (by decide) ?_
      intro v_12 h_15 sz_13 q_14
      obtain ⟨r, rfl, E7, X7, V7⟩ := q_14
      refine Seg.goto (pc' := 170) d25_164 (by decide) (by decide) ?_
      have E_16 : Ext h0 h_11 := ext_kp E_6 K7 (allS (Nat.le_trans (ext_rfl _).1 (Nat.le_of_eq e_b_5)) all0)
      have E_17 : Ext h0 h_15 := ext_tr E_16 E7
      have F_18 := ((A_b_5.keep K7).ext E7)
      have F_19 := G0.ext E7
      have F_20 := G1.ext E7
      have F_21 := G2.ext E7
      rw [tlF, if_pos ⟨g1, g2⟩]
      exact Seg.retA rfl rfl rfl d25_170 (by decide) (by decide) ⟨r, rfl, E_17, X7, b_5, V7, F_18, F_19, F_20, F_21⟩
    · refine Seg.icY (pc' := 138) d25_131 (XT.ii_ne_t g2) (by decide) (by decide) ?_
      refine Seg.iconst (v := 0) d25_138 (by decide) (pc' := 139) rfl ?_
      refine Seg.istore (L' := #[.val (.ref a), s1, .val (.int (Int32.ofNat e)), s3, .val (.int mn), .val (.int mx), .val (.int (Int32.ofNat j)), .val (.int (0 : Int32)), s8]) d25_139 (by rcases s7 with rfl | ⟨_, rfl⟩ <;> rfl) (pc' := 141) rfl ?_
      refine Seg.iload d25_141 rfl (pc' := 143) rfl ?_
      refine Seg.ifY (pc' := 167) d25_143 (by decide) (by decide) (by decide) ?_
      obtain ⟨oe, Se, Xe, Ve⟩ := G.2.2.2.2
      refine Seg.start fun hZ0 => ?_
      refine Seg.callS (y' := (⟨"java/util/Optional", "empty", "()Ljava/util/Optional;"⟩ : MethodName)) (wd G 117 rfl) (wd G 118 rfl) (wd G 75 rfl) (wd G 119 rfl) ⟨by decide, by decide⟩ (Pays.of_ct (W := 0) (ct_joempty G oe h0 Se) all0 (wd G 119 rfl) (wd G 75 rfl) (by decide) (by decide) rfl rfl) (argsL := []) (rest := []) rfl (lenOf pd_7 rfl) rfl (Nat.le_of_eq rfl) rfl d25_167 (pc' := 170) rfl (k' := 0) (n' := 0) rfl rfl (by decide) (by decide) ?_
      intro v_22 h_25 sz_23 q_24
      obtain ⟨rfl, rfl⟩ := q_24
      rw [tlF, if_neg (fun q => g2 q.2)]
      exact Seg.retA rfl rfl rfl d25_170 (by decide) (by decide) ⟨oe, rfl, ext_rfl _, Xe.ext hZ0, Ve.ext hZ0⟩
  · refine Seg.icY (pc' := 138) d25_120 (XT.ii_ge_t (n32nlt (by omega) (by omega))) (by decide) (by decide) ?_
    refine Seg.iconst (v := 0) d25_138 (by decide) (pc' := 139) rfl ?_
    refine Seg.istore (L' := #[.val (.ref a), s1, .val (.int (Int32.ofNat e)), s3, .val (.int mn), .val (.int mx), .val (.int (Int32.ofNat j)), .val (.int (0 : Int32)), s8]) d25_139 (by rcases s7 with rfl | ⟨_, rfl⟩ <;> rfl) (pc' := 141) rfl ?_
    refine Seg.iload d25_141 rfl (pc' := 143) rfl ?_
    refine Seg.ifY (pc' := 167) d25_143 (by decide) (by decide) (by decide) ?_
    obtain ⟨oe, Se, Xe, Ve⟩ := G.2.2.2.2
    refine Seg.start fun hZ0 => ?_
    refine Seg.callS (y' := (⟨"java/util/Optional", "empty", "()Ljava/util/Optional;"⟩ : MethodName)) (wd G 117 rfl) (wd G 118 rfl) (wd G 75 rfl) (wd G 119 rfl) ⟨by decide, by decide⟩ (Pays.of_ct (W := 0) (ct_joempty G oe h0 Se) all0 (wd G 119 rfl) (wd G 75 rfl) (by decide) (by decide) rfl rfl) (argsL := []) (rest := []) rfl (lenOf pd_7 rfl) rfl (Nat.le_of_eq rfl) rfl d25_167 (pc' := 170) rfl (k' := 0) (n' := 0) rfl rfl (by decide) (by decide) ?_
    intro v_26 h_29 sz_27 q_28
    obtain ⟨rfl, rfl⟩ := q_28
    rw [tlF, if_neg (fun q => g1 q.1)]
    exact Seg.retA rfl rfl rfl d25_170 (by decide) (by decide) ⟨oe, rfl, ext_rfl _, Xe.ext hZ0, Ve.ext hZ0⟩
theorem d25_0 : decode prog_22_method_6_code 0 = .ok (.aload_n 0, 1) := by decide +kernel
theorem d25_1 : decode prog_22_method_6_code 1 = .ok (.iload_n 1, 1) := by decide +kernel
theorem d25_2 : decode prog_22_method_6_code 2 = .ok (.iload_n 2, 1) := by decide +kernel
theorem d25_3 : decode prog_22_method_6_code 3 = .ok (.invokestatic 42, 3) := by decide +kernel
theorem pd_8 : parseMethodDescriptor "(Ljava/lang/String;II)I" = some ⟨[(.object "java/lang/String"), .int, .int], some .int⟩ := by decide +kernel
theorem d25_6 : decode prog_22_method_6_code 6 = .ok (.istore_n 3, 1) := by decide +kernel
theorem d25_7 : decode prog_22_method_6_code 7 = .ok (.iload_n 3, 1) := by decide +kernel
theorem d25_8 : decode prog_22_method_6_code 8 = .ok (.ifCond .ge 7, 3) := by decide +kernel
theorem d25_11 : decode prog_22_method_6_code 11 = .ok (.invokestatic 38, 3) := by decide +kernel
theorem d25_14 : decode prog_22_method_6_code 14 = .ok (.areturn, 1) := by decide +kernel
theorem d25_15 : decode prog_22_method_6_code 15 = .ok (.aload_n 0, 1) := by decide +kernel
theorem d25_16 : decode prog_22_method_6_code 16 = .ok (.iload_n 1, 1) := by decide +kernel
theorem d25_17 : decode prog_22_method_6_code 17 = .ok (.iload_n 3, 1) := by decide +kernel
theorem d25_18 : decode prog_22_method_6_code 18 = .ok (.invokestatic 46, 3) := by decide +kernel
theorem d25_21 : decode prog_22_method_6_code 21 = .ok (.istore 4, 2) := by decide +kernel
theorem d25_23 : decode prog_22_method_6_code 23 = .ok (.iload 4, 2) := by decide +kernel
theorem d25_25 : decode prog_22_method_6_code 25 = .ok (.istore 5, 2) := by decide +kernel
theorem d25_27 : decode prog_22_method_6_code 27 = .ok (.iload_n 3, 1) := by decide +kernel
theorem d25_28 : decode prog_22_method_6_code 28 = .ok (.istore 6, 2) := by decide +kernel
theorem d25_30 : decode prog_22_method_6_code 30 = .ok (.iload 6, 2) := by decide +kernel
theorem d25_32 : decode prog_22_method_6_code 32 = .ok (.iload_n 2, 1) := by decide +kernel
theorem d25_33 : decode prog_22_method_6_code 33 = .ok (.if_icmp .ge 84, 3) := by decide +kernel
theorem d25_36 : decode prog_22_method_6_code 36 = .ok (.aload_n 0, 1) := by decide +kernel
theorem d25_37 : decode prog_22_method_6_code 37 = .ok (.iload 6, 2) := by decide +kernel
theorem d25_39 : decode prog_22_method_6_code 39 = .ok (.invokevirtual 19, 3) := by decide +kernel
theorem d25_42 : decode prog_22_method_6_code 42 = .ok (.bipush 44, 2) := by decide +kernel
theorem d25_44 : decode prog_22_method_6_code 44 = .ok (.if_icmp .ne 73, 3) := by decide +kernel
theorem d25_47 : decode prog_22_method_6_code 47 = .ok (.iinc 6 1, 3) := by decide +kernel
theorem d25_50 : decode prog_22_method_6_code 50 = .ok (.iload 6, 2) := by decide +kernel
theorem d25_52 : decode prog_22_method_6_code 52 = .ok (.iload_n 2, 1) := by decide +kernel
theorem d25_53 : decode prog_22_method_6_code 53 = .ok (.if_icmp .ge 14, 3) := by decide +kernel
theorem d25_56 : decode prog_22_method_6_code 56 = .ok (.aload_n 0, 1) := by decide +kernel
theorem d25_57 : decode prog_22_method_6_code 57 = .ok (.iload 6, 2) := by decide +kernel
theorem d25_59 : decode prog_22_method_6_code 59 = .ok (.invokevirtual 19, 3) := by decide +kernel
theorem d25_62 : decode prog_22_method_6_code 62 = .ok (.bipush 125, 2) := by decide +kernel
theorem d25_64 : decode prog_22_method_6_code 64 = .ok (.if_icmp .eq 7, 3) := by decide +kernel
theorem d25_71 : decode prog_22_method_6_code 71 = .ok (.iconst 0, 1) := by decide +kernel
theorem d25_72 : decode prog_22_method_6_code 72 = .ok (.istore 7, 2) := by decide +kernel
theorem d25_74 : decode prog_22_method_6_code 74 = .ok (.iload 7, 2) := by decide +kernel
theorem d25_76 : decode prog_22_method_6_code 76 = .ok (.ifCond .eq 38, 3) := by decide +kernel
theorem d25_114 : decode prog_22_method_6_code 114 = .ok (.iconst (-1), 1) := by decide +kernel
theorem d25_115 : decode prog_22_method_6_code 115 = .ok (.istore 5, 2) := by decide +kernel
theorem d25_67 : decode prog_22_method_6_code 67 = .ok (.iconst 1, 1) := by decide +kernel
theorem d25_68 : decode prog_22_method_6_code 68 = .ok (.goto 4, 3) := by decide +kernel
theorem d25_79 : decode prog_22_method_6_code 79 = .ok (.aload_n 0, 1) := by decide +kernel
theorem d25_80 : decode prog_22_method_6_code 80 = .ok (.iload 6, 2) := by decide +kernel
theorem d25_82 : decode prog_22_method_6_code 82 = .ok (.iload_n 2, 1) := by decide +kernel
theorem d25_83 : decode prog_22_method_6_code 83 = .ok (.invokestatic 42, 3) := by decide +kernel
theorem d25_86 : decode prog_22_method_6_code 86 = .ok (.istore 8, 2) := by decide +kernel
theorem d25_88 : decode prog_22_method_6_code 88 = .ok (.iload 8, 2) := by decide +kernel
theorem d25_90 : decode prog_22_method_6_code 90 = .ok (.ifCond .ge 7, 3) := by decide +kernel
theorem d25_93 : decode prog_22_method_6_code 93 = .ok (.invokestatic 38, 3) := by decide +kernel
theorem d25_96 : decode prog_22_method_6_code 96 = .ok (.areturn, 1) := by decide +kernel
theorem d25_97 : decode prog_22_method_6_code 97 = .ok (.aload_n 0, 1) := by decide +kernel
theorem d25_98 : decode prog_22_method_6_code 98 = .ok (.iload 6, 2) := by decide +kernel
theorem d25_100 : decode prog_22_method_6_code 100 = .ok (.iload 8, 2) := by decide +kernel
theorem d25_102 : decode prog_22_method_6_code 102 = .ok (.invokestatic 46, 3) := by decide +kernel
theorem d25_105 : decode prog_22_method_6_code 105 = .ok (.istore 5, 2) := by decide +kernel
theorem d25_107 : decode prog_22_method_6_code 107 = .ok (.iload 8, 2) := by decide +kernel
theorem d25_109 : decode prog_22_method_6_code 109 = .ok (.istore 6, 2) := by decide +kernel
theorem d25_111 : decode prog_22_method_6_code 111 = .ok (.goto 6, 3) := by decide +kernel
theorem ef_ct_cd (a : Addr) (cs : List Int32) (i : Nat) (e : Nat) (m : MethodId) : entryFrame m #[(.ref a), (.int (Int32.ofNat i)), (.int (Int32.ofNat e))] 9 = mkF m 0 #[.val (.ref a), .val (.int (Int32.ofNat i)), .val (.int (Int32.ofNat e)), .unset, .unset, .unset, .unset, .unset, .unset] [] := by first | (simp [entryFrame, mkF, argsToLocals, Value.category]; done) | rfl
set_option maxRecDepth 65536 in
set_option maxHeartbeats 4000000 in
theorem ct_cd {l : Launch} {Z : State} {a0 : Array Value} (G : Env1 Z a0) (a : Addr) (cs : List Int32) (i : Nat) (e : Nat) (h0 : Heap) (F : Str Z h0 a cs) (hc : ∀ c ∈ cs, ¬ c < 0 ∧ ¬ (255 : Int32) < c) (hl : cs.length = 27) (hi : i ≤ 27) (he : e ≤ 27) :
    Ct l Z EL1 [] [] (⟨"com/example/wardn/wardn/rules/RepetitionOperator", "counted", "(Ljava/lang/String;II)Ljava/util/Optional;"⟩ : MethodName) prog_22_method_6_code 9 (some (.object "java/util/Optional")) ({ frames := 6, cells := 2, slots := 4, locals := 130 } : Room) #[(.ref a), (.int (Int32.ofNat i)), (.int (Int32.ofNat e))] h0 (fun v h => ∃ r, v = some (.ref r) ∧ Ext h0 h ∧ OptR Z h r (cdF cs i e)) := by
  refine Ct.of_seg (a0 := a0) (plainFor_of_name pn_com_example_wardn_wardn_rules_RepetitionOperator) G.2.1 (ef_ct_cd a cs i e) ?_
  have f1 := F.exa
  refine Seg.aloadN d25_0 rfl rfl (pc' := 1) rfl ?_
  refine Seg.iloadN d25_1 rfl (pc' := 2) rfl ?_
  refine Seg.iloadN d25_2 rfl (pc' := 3) rfl ?_
  cases hx : ceF cs i e with
  | none =>
    refine Seg.callS (y' := (⟨"com/example/wardn/wardn/rules/RepetitionOperator", "countEnd", "(Ljava/lang/String;II)I"⟩ : MethodName)) (wd G 129 rfl) (wd G 130 rfl) (wd G 37 rfl) (wd G 131 rfl) ⟨by decide, by decide⟩ (Pays.of_ct (W := 0) (ct_ceN G a cs i e h0 F hc hl hi he hx) all0 (wd G 131 rfl) (wd G 37 rfl) (by decide) (by decide) rfl rfl) (argsL := [(.ref a), (.int (Int32.ofNat i)), (.int (Int32.ofNat e))]) (rest := []) rfl (lenOf pd_8 rfl) rfl (Nat.le_of_eq rfl) rfl d25_3 (pc' := 6) rfl (k' := 0) (n' := 0) rfl rfl (by decide) (by decide) ?_
    intro v_1 h_4 sz_2 q_3
    obtain ⟨rfl, rfl⟩ := q_3
    refine Seg.istoreN (L' := #[.val (.ref a), .val (.int (Int32.ofNat i)), .val (.int (Int32.ofNat e)), .val (.int (-1 : Int32)), .unset, .unset, .unset, .unset, .unset]) d25_6 rfl (pc' := 7) rfl ?_
    refine Seg.iloadN d25_7 rfl (pc' := 8) rfl ?_
    refine Seg.ifN d25_8 (by decide) (pc' := 11) rfl ?_
    obtain ⟨oe, Se, Xe, Ve⟩ := G.2.2.2.2
    refine Seg.start fun hZ0 => ?_
    refine Seg.callS (y' := (⟨"java/util/Optional", "empty", "()Ljava/util/Optional;"⟩ : MethodName)) (wd G 117 rfl) (wd G 118 rfl) (wd G 75 rfl) (wd G 119 rfl) ⟨by decide, by decide⟩ (Pays.of_ct (W := 0) (ct_joempty G oe h0 Se) all0 (wd G 119 rfl) (wd G 75 rfl) (by decide) (by decide) rfl rfl) (argsL := []) (rest := []) rfl (lenOf pd_7 rfl) rfl (Nat.le_of_eq rfl) rfl d25_11 (pc' := 14) rfl (k' := 0) (n' := 0) rfl rfl (by decide) (by decide) ?_
    intro v_5 h_8 sz_6 q_7
    obtain ⟨rfl, rfl⟩ := q_7
    rw [cd_x0 hx]
    exact Seg.retA rfl rfl rfl d25_14 (by decide) (by decide) ⟨oe, rfl, ext_rfl _, Xe.ext hZ0, Ve.ext hZ0⟩
  | some j =>
    have hb := ce_le hx
    refine Seg.callS (y' := (⟨"com/example/wardn/wardn/rules/RepetitionOperator", "countEnd", "(Ljava/lang/String;II)I"⟩ : MethodName)) (wd G 129 rfl) (wd G 130 rfl) (wd G 37 rfl) (wd G 131 rfl) ⟨by decide, by decide⟩ (Pays.of_ct (W := 0) (ct_ceS G a cs i e j h0 F hc hl hi he hx) all0 (wd G 131 rfl) (wd G 37 rfl) (by decide) (by decide) rfl rfl) (argsL := [(.ref a), (.int (Int32.ofNat i)), (.int (Int32.ofNat e))]) (rest := []) rfl (lenOf pd_8 rfl) rfl (Nat.le_of_eq rfl) rfl d25_3 (pc' := 6) rfl (k' := 0) (n' := 0) rfl rfl (by decide) (by decide) ?_
    intro v_9 h_12 sz_10 q_11
    obtain ⟨rfl, rfl⟩ := q_11
    refine Seg.istoreN (L' := #[.val (.ref a), .val (.int (Int32.ofNat i)), .val (.int (Int32.ofNat e)), .val (.int (Int32.ofNat j)), .unset, .unset, .unset, .unset, .unset]) d25_6 rfl (pc' := 7) rfl ?_
    refine Seg.iloadN d25_7 rfl (pc' := 8) rfl ?_
    refine Seg.ifY (pc' := 15) d25_8 (XT.i0_ge_t (n32nn (by omega))) (by decide) (by decide) ?_
    refine Seg.aloadN d25_15 rfl rfl (pc' := 16) rfl ?_
    refine Seg.iloadN d25_16 rfl (pc' := 17) rfl ?_
    refine Seg.iloadN d25_17 rfl (pc' := 18) rfl ?_
    refine Seg.callS (y' := (⟨"com/example/wardn/wardn/rules/RepetitionOperator", "count", "(Ljava/lang/String;II)I"⟩ : MethodName)) (wd G 135 rfl) (wd G 136 rfl) (wd G 37 rfl) (wd G 137 rfl) ⟨by decide, by decide⟩ (Pays.of_ct (W := 0) (ct_cnt G a cs i j h0 F hc hl (by omega) (by omega)) all0 (wd G 137 rfl) (wd G 37 rfl) (by decide) (by decide) rfl rfl) (argsL := [(.ref a), (.int (Int32.ofNat i)), (.int (Int32.ofNat j))]) (rest := []) rfl (lenOf pd_8 rfl) rfl (Nat.le_of_eq rfl) rfl d25_18 (pc' := 21) rfl (k' := 0) (n' := 0) rfl rfl (by decide) (by decide) ?_
    intro v_13 h_16 sz_14 q_15
    obtain ⟨rfl, rfl⟩ := q_15
    refine Seg.istore (L' := #[.val (.ref a), .val (.int (Int32.ofNat i)), .val (.int (Int32.ofNat e)), .val (.int (Int32.ofNat j)), .val (.int (cnt cs i j)), .unset, .unset, .unset, .unset]) d25_21 rfl (pc' := 23) rfl ?_
    refine Seg.iload d25_23 rfl (pc' := 25) rfl ?_
    refine Seg.istore (L' := #[.val (.ref a), .val (.int (Int32.ofNat i)), .val (.int (Int32.ofNat e)), .val (.int (Int32.ofNat j)), .val (.int (cnt cs i j)), .val (.int (cnt cs i j)), .unset, .unset, .unset]) d25_25 rfl (pc' := 27) rfl ?_
    refine Seg.iloadN d25_27 rfl (pc' := 28) rfl ?_
    refine Seg.istore (L' := #[.val (.ref a), .val (.int (Int32.ofNat i)), .val (.int (Int32.ofNat e)), .val (.int (Int32.ofNat j)), .val (.int (cnt cs i j)), .val (.int (cnt cs i j)), .val (.int (Int32.ofNat j)), .unset, .unset]) d25_28 rfl (pc' := 30) rfl ?_
    refine Seg.iload d25_30 rfl (pc' := 32) rfl ?_
    refine Seg.iloadN d25_32 rfl (pc' := 33) rfl ?_
    by_cases g1 : j < e
    · refine Seg.icN d25_33 (XT.ii_ge_f (n32lt g1 (by omega))) (pc' := 36) rfl ?_
      refine Seg.aloadN d25_36 rfl rfl (pc' := 37) rfl ?_
      refine Seg.iload d25_37 rfl (pc' := 39) rfl ?_
      refine Seg.callV (y' := (⟨"java/lang/String", "charAt", "(I)C"⟩ : MethodName)) (z := (⟨"java/lang/String", "charAt", "(I)C"⟩ : MethodName)) (a := a) (wd G 39 rfl) (wd G 40 rfl) (nf_sel (wd G 42 rfl)) (wd G 42 rfl) (wd G 41 rfl) ⟨by decide, by decide⟩ f1 (pays_chr (W := 0) G h0 j F (fun c q => (hc c q).2) (by omega) rfl (by decide) (by decide)) (argsL := [(.int (Int32.ofNat j))]) (rest := []) rfl (lenOf pd_2 rfl) rfl (Nat.le_of_eq rfl) rfl d25_39 (pc' := 42) rfl (k' := 0) (n' := 0) rfl rfl (by decide) (by decide) ?_
      intro v_17 h_20 sz_18 q_19
      obtain ⟨rfl, rfl⟩ := q_19
      refine Seg.bipush (v := 44) d25_42 (by decide) (pc' := 44) rfl ?_
      by_cases g2 : cs.getD j 0 = 44
      · refine Seg.icN d25_44 (XT.ii_ne_f g2) (pc' := 47) rfl ?_
        refine Seg.iinc (v := 1) (z := (Int32.ofNat (j + 1))) (L' := #[.val (.ref a), .val (.int (Int32.ofNat i)), .val (.int (Int32.ofNat e)), .val (.int (Int32.ofNat j)), .val (.int (cnt cs i j)), .val (.int (cnt cs i j)), .val (.int (Int32.ofNat (j + 1))), .unset, .unset]) d25_47 (by decide) rfl (n32s j) rfl (pc' := 50) rfl ?_
        refine Seg.iload d25_50 rfl (pc' := 52) rfl ?_
        refine Seg.iloadN d25_52 rfl (pc' := 53) rfl ?_
        by_cases g3 : j + 1 < e
        · refine Seg.icN d25_53 (XT.ii_ge_f (n32lt g3 (by omega))) (pc' := 56) rfl ?_
          refine Seg.aloadN d25_56 rfl rfl (pc' := 57) rfl ?_
          refine Seg.iload d25_57 rfl (pc' := 59) rfl ?_
          refine Seg.callV (y' := (⟨"java/lang/String", "charAt", "(I)C"⟩ : MethodName)) (z := (⟨"java/lang/String", "charAt", "(I)C"⟩ : MethodName)) (a := a) (wd G 39 rfl) (wd G 40 rfl) (nf_sel (wd G 42 rfl)) (wd G 42 rfl) (wd G 41 rfl) ⟨by decide, by decide⟩ f1 (pays_chr (W := 0) G h0 (j + 1) F (fun c q => (hc c q).2) (by omega) rfl (by decide) (by decide)) (argsL := [(.int (Int32.ofNat (j + 1)))]) (rest := []) rfl (lenOf pd_2 rfl) rfl (Nat.le_of_eq rfl) rfl d25_59 (pc' := 62) rfl (k' := 0) (n' := 0) rfl rfl (by decide) (by decide) ?_
          intro v_21 h_24 sz_22 q_23
          obtain ⟨rfl, rfl⟩ := q_23
          refine Seg.bipush (v := 125) d25_62 (by decide) (pc' := 64) rfl ?_
          by_cases g4 : cs.getD (j + 1) 0 = 125
          · refine Seg.icY (pc' := 71) d25_64 (XT.ii_eq_t g4) (by decide) (by decide) ?_
            refine Seg.iconst (v := 0) d25_71 (by decide) (pc' := 72) rfl ?_
            refine Seg.istore (L' := #[.val (.ref a), .val (.int (Int32.ofNat i)), .val (.int (Int32.ofNat e)), .val (.int (Int32.ofNat j)), .val (.int (cnt cs i j)), .val (.int (cnt cs i j)), .val (.int (Int32.ofNat (j + 1))), .val (.int (0 : Int32)), .unset]) d25_72 rfl (pc' := 74) rfl ?_
            refine Seg.iload d25_74 rfl (pc' := 76) rfl ?_
            refine Seg.ifY (pc' := 114) d25_76 (by decide) (by decide) (by decide) ?_
            refine Seg.iconst (v := -1) d25_114 (by decide) (pc' := 115) rfl ?_
            refine Seg.istore (L' := #[.val (.ref a), .val (.int (Int32.ofNat i)), .val (.int (Int32.ofNat e)), .val (.int (Int32.ofNat j)), .val (.int (cnt cs i j)), .val (.int (-1 : Int32)), .val (.int (Int32.ofNat (j + 1))), .val (.int (0 : Int32)), .unset]) d25_115 rfl (pc' := 117) rfl ?_
            exact Seg.post (fun v h q => by rw [cd_x2 hx ⟨g1, g2⟩ ⟨g3, g4⟩]; exact q) (sgc117 G a cs e (j + 1) (cnt cs i j) (-1) _ _ _ _ h0 F hc hl he (by omega) (Or.inr ⟨_, rfl⟩))
          · refine Seg.icN d25_64 (XT.ii_eq_f g4) (pc' := 67) rfl ?_
            refine Seg.iconst (v := 1) d25_67 (by decide) (pc' := 68) rfl ?_
            refine Seg.goto (pc' := 72) d25_68 (by decide) (by decide) ?_
            refine Seg.istore (L' := #[.val (.ref a), .val (.int (Int32.ofNat i)), .val (.int (Int32.ofNat e)), .val (.int (Int32.ofNat j)), .val (.int (cnt cs i j)), .val (.int (cnt cs i j)), .val (.int (Int32.ofNat (j + 1))), .val (.int (1 : Int32)), .unset]) d25_72 rfl (pc' := 74) rfl ?_
            refine Seg.iload d25_74 rfl (pc' := 76) rfl ?_
            refine Seg.ifN d25_76 (by decide) (pc' := 79) rfl ?_
            refine Seg.aloadN d25_79 rfl rfl (pc' := 80) rfl ?_
            refine Seg.iload d25_80 rfl (pc' := 82) rfl ?_
            refine Seg.iloadN d25_82 rfl (pc' := 83) rfl ?_
            cases hy : ceF cs (j + 1) e with
            | none =>
              refine Seg.callS (y' := (⟨"com/example/wardn/wardn/rules/RepetitionOperator", "countEnd", "(Ljava/lang/String;II)I"⟩ : MethodName)) (wd G 129 rfl) (wd G 130 rfl) (wd G 37 rfl) (wd G 131 rfl) ⟨by decide, by decide⟩ (Pays.of_ct (W := 0) (ct_ceN G a cs (j + 1) e h0 F hc hl (by omega) he hy) all0 (wd G 131 rfl) (wd G 37 rfl) (by decide) (by decide) rfl rfl) (argsL := [(.ref a), (.int (Int32.ofNat (j + 1))), (.int (Int32.ofNat e))]) (rest := []) rfl (lenOf pd_8 rfl) rfl (Nat.le_of_eq rfl) rfl d25_83 (pc' := 86) rfl (k' := 0) (n' := 0) rfl rfl (by decide) (by decide) ?_
              intro v_25 h_28 sz_26 q_27
              obtain ⟨rfl, rfl⟩ := q_27
              refine Seg.istore (L' := #[.val (.ref a), .val (.int (Int32.ofNat i)), .val (.int (Int32.ofNat e)), .val (.int (Int32.ofNat j)), .val (.int (cnt cs i j)), .val (.int (cnt cs i j)), .val (.int (Int32.ofNat (j + 1))), .val (.int (1 : Int32)), .val (.int (-1 : Int32))]) d25_86 rfl (pc' := 88) rfl ?_
              refine Seg.iload d25_88 rfl (pc' := 90) rfl ?_
              refine Seg.ifN d25_90 (by decide) (pc' := 93) rfl ?_
              obtain ⟨oe, Se, Xe, Ve⟩ := G.2.2.2.2
              refine Seg.start fun hZ0 => ?_
              refine Seg.callS (y' := (⟨"java/util/Optional", "empty", "()Ljava/util/Optional;"⟩ : MethodName)) (wd G 117 rfl) (wd G 118 rfl) (wd G 75 rfl) (wd G 119 rfl) ⟨by decide, by decide⟩ (Pays.of_ct (W := 0) (ct_joempty G oe h0 Se) all0 (wd G 119 rfl) (wd G 75 rfl) (by decide) (by decide) rfl rfl) (argsL := []) (rest := []) rfl (lenOf pd_7 rfl) rfl (Nat.le_of_eq rfl) rfl d25_93 (pc' := 96) rfl (k' := 0) (n' := 0) rfl rfl (by decide) (by decide) ?_
              intro v_29 h_32 sz_30 q_31
              obtain ⟨rfl, rfl⟩ := q_31
              rw [cd_x3 hx ⟨g1, g2⟩ (fun q => g4 q.2), hy]
              exact Seg.retA rfl rfl rfl d25_96 (by decide) (by decide) ⟨oe, rfl, ext_rfl _, Xe.ext hZ0, Ve.ext hZ0⟩
            | some j2 =>
              have hb2 := ce_le hy
              refine Seg.callS (y' := (⟨"com/example/wardn/wardn/rules/RepetitionOperator", "countEnd", "(Ljava/lang/String;II)I"⟩ : MethodName)) (wd G 129 rfl) (wd G 130 rfl) (wd G 37 rfl) (wd G 131 rfl) ⟨by decide, by decide⟩ (Pays.of_ct (W := 0) (ct_ceS G a cs (j + 1) e j2 h0 F hc hl (by omega) he hy) all0 (wd G 131 rfl) (wd G 37 rfl) (by decide) (by decide) rfl rfl) (argsL := [(.ref a), (.int (Int32.ofNat (j + 1))), (.int (Int32.ofNat e))]) (rest := []) rfl (lenOf pd_8 rfl) rfl (Nat.le_of_eq rfl) rfl d25_83 (pc' := 86) rfl (k' := 0) (n' := 0) rfl rfl (by decide) (by decide) ?_
              intro v_33 h_36 sz_34 q_35
              obtain ⟨rfl, rfl⟩ := q_35
              refine Seg.istore (L' := #[.val (.ref a), .val (.int (Int32.ofNat i)), .val (.int (Int32.ofNat e)), .val (.int (Int32.ofNat j)), .val (.int (cnt cs i j)), .val (.int (cnt cs i j)), .val (.int (Int32.ofNat (j + 1))), .val (.int (1 : Int32)), .val (.int (Int32.ofNat j2))]) d25_86 rfl (pc' := 88) rfl ?_
              refine Seg.iload d25_88 rfl (pc' := 90) rfl ?_
              refine Seg.ifY (pc' := 97) d25_90 (XT.i0_ge_t (n32nn (by omega))) (by decide) (by decide) ?_
              refine Seg.aloadN d25_97 rfl rfl (pc' := 98) rfl ?_
              refine Seg.iload d25_98 rfl (pc' := 100) rfl ?_
              refine Seg.iload d25_100 rfl (pc' := 102) rfl ?_
              refine Seg.callS (y' := (⟨"com/example/wardn/wardn/rules/RepetitionOperator", "count", "(Ljava/lang/String;II)I"⟩ : MethodName)) (wd G 135 rfl) (wd G 136 rfl) (wd G 37 rfl) (wd G 137 rfl) ⟨by decide, by decide⟩ (Pays.of_ct (W := 0) (ct_cnt G a cs (j + 1) j2 h0 F hc hl (by omega) (by omega)) all0 (wd G 137 rfl) (wd G 37 rfl) (by decide) (by decide) rfl rfl) (argsL := [(.ref a), (.int (Int32.ofNat (j + 1))), (.int (Int32.ofNat j2))]) (rest := []) rfl (lenOf pd_8 rfl) rfl (Nat.le_of_eq rfl) rfl d25_102 (pc' := 105) rfl (k' := 0) (n' := 0) rfl rfl (by decide) (by decide) ?_
              intro v_37 h_40 sz_38 q_39
              obtain ⟨rfl, rfl⟩ := q_39
              refine Seg.istore (L' := #[.val (.ref a), .val (.int (Int32.ofNat i)), .val (.int (Int32.ofNat e)), .val (.int (Int32.ofNat j)), .val (.int (cnt cs i j)), .val (.int (cnt cs (j + 1) j2)), .val (.int (Int32.ofNat (j + 1))), .val (.int (1 : Int32)), .val (.int (Int32.ofNat j2))]) d25_105 rfl (pc' := 107) rfl ?_
              refine Seg.iload d25_107 rfl (pc' := 109) rfl ?_
              refine Seg.istore (L' := #[.val (.ref a), .val (.int (Int32.ofNat i)), .val (.int (Int32.ofNat e)), .val (.int (Int32.ofNat j)), .val (.int (cnt cs i j)), .val (.int (cnt cs (j + 1) j2)), .val (.int (Int32.ofNat j2)), .val (.int (1 : Int32)), .val (.int (Int32.ofNat j2))]) d25_109 rfl (pc' := 111) rfl ?_
              refine Seg.goto (pc' := 117) d25_111 (by decide) (by decide) ?_
              exact Seg.post (fun v h q => by rw [cd_x3 hx ⟨g1, g2⟩ (fun q => g4 q.2), hy]; exact q) (sgc117 G a cs e j2 (cnt cs i j) (cnt cs (j + 1) j2) _ _ _ _ h0 F hc hl he (by omega) (Or.inr ⟨_, rfl⟩))
        · refine Seg.icY (pc' := 67) d25_53 (XT.ii_ge_t (n32nlt (by omega) (by omega))) (by decide) (by decide) ?_
          refine Seg.iconst (v := 1) d25_67 (by decide) (pc' := 68) rfl ?_
          refine Seg.goto (pc' := 72) d25_68 (by decide) (by decide) ?_
          refine Seg.istore (L' := #[.val (.ref a), .val (.int (Int32.ofNat i)), .val (.int (Int32.ofNat e)), .val (.int (Int32.ofNat j)), .val (.int (cnt cs i j)), .val (.int (cnt cs i j)), .val (.int (Int32.ofNat (j + 1))), .val (.int (1 : Int32)), .unset]) d25_72 rfl (pc' := 74) rfl ?_
          refine Seg.iload d25_74 rfl (pc' := 76) rfl ?_
          refine Seg.ifN d25_76 (by decide) (pc' := 79) rfl ?_
          refine Seg.aloadN d25_79 rfl rfl (pc' := 80) rfl ?_
          refine Seg.iload d25_80 rfl (pc' := 82) rfl ?_
          refine Seg.iloadN d25_82 rfl (pc' := 83) rfl ?_
          cases hy : ceF cs (j + 1) e with
          | none =>
            refine Seg.callS (y' := (⟨"com/example/wardn/wardn/rules/RepetitionOperator", "countEnd", "(Ljava/lang/String;II)I"⟩ : MethodName)) (wd G 129 rfl) (wd G 130 rfl) (wd G 37 rfl) (wd G 131 rfl) ⟨by decide, by decide⟩ (Pays.of_ct (W := 0) (ct_ceN G a cs (j + 1) e h0 F hc hl (by omega) he hy) all0 (wd G 131 rfl) (wd G 37 rfl) (by decide) (by decide) rfl rfl) (argsL := [(.ref a), (.int (Int32.ofNat (j + 1))), (.int (Int32.ofNat e))]) (rest := []) rfl (lenOf pd_8 rfl) rfl (Nat.le_of_eq rfl) rfl d25_83 (pc' := 86) rfl (k' := 0) (n' := 0) rfl rfl (by decide) (by decide) ?_
            intro v_41 h_44 sz_42 q_43
            obtain ⟨rfl, rfl⟩ := q_43
            refine Seg.istore (L' := #[.val (.ref a), .val (.int (Int32.ofNat i)), .val (.int (Int32.ofNat e)), .val (.int (Int32.ofNat j)), .val (.int (cnt cs i j)), .val (.int (cnt cs i j)), .val (.int (Int32.ofNat (j + 1))), .val (.int (1 : Int32)), .val (.int (-1 : Int32))]) d25_86 rfl (pc' := 88) rfl ?_
            refine Seg.iload d25_88 rfl (pc' := 90) rfl ?_
            refine Seg.ifN d25_90 (by decide) (pc' := 93) rfl ?_
            obtain ⟨oe, Se, Xe, Ve⟩ := G.2.2.2.2
            refine Seg.start fun hZ0 => ?_
            refine Seg.callS (y' := (⟨"java/util/Optional", "empty", "()Ljava/util/Optional;"⟩ : MethodName)) (wd G 117 rfl) (wd G 118 rfl) (wd G 75 rfl) (wd G 119 rfl) ⟨by decide, by decide⟩ (Pays.of_ct (W := 0) (ct_joempty G oe h0 Se) all0 (wd G 119 rfl) (wd G 75 rfl) (by decide) (by decide) rfl rfl) (argsL := []) (rest := []) rfl (lenOf pd_7 rfl) rfl (Nat.le_of_eq rfl) rfl d25_93 (pc' := 96) rfl (k' := 0) (n' := 0) rfl rfl (by decide) (by decide) ?_
            intro v_45 h_48 sz_46 q_47
            obtain ⟨rfl, rfl⟩ := q_47
            rw [cd_x3 hx ⟨g1, g2⟩ (fun q => g3 q.1), hy]
            exact Seg.retA rfl rfl rfl d25_96 (by decide) (by decide) ⟨oe, rfl, ext_rfl _, Xe.ext hZ0, Ve.ext hZ0⟩
          | some j2 =>
            have hb2 := ce_le hy
            refine Seg.callS (y' := (⟨"com/example/wardn/wardn/rules/RepetitionOperator", "countEnd", "(Ljava/lang/String;II)I"⟩ : MethodName)) (wd G 129 rfl) (wd G 130 rfl) (wd G 37 rfl) (wd G 131 rfl) ⟨by decide, by decide⟩ (Pays.of_ct (W := 0) (ct_ceS G a cs (j + 1) e j2 h0 F hc hl (by omega) he hy) all0 (wd G 131 rfl) (wd G 37 rfl) (by decide) (by decide) rfl rfl) (argsL := [(.ref a), (.int (Int32.ofNat (j + 1))), (.int (Int32.ofNat e))]) (rest := []) rfl (lenOf pd_8 rfl) rfl (Nat.le_of_eq rfl) rfl d25_83 (pc' := 86) rfl (k' := 0) (n' := 0) rfl rfl (by decide) (by decide) ?_
            intro v_49 h_52 sz_50 q_51
            obtain ⟨rfl, rfl⟩ := q_51
            refine Seg.istore (L' := #[.val (.ref a), .val (.int (Int32.ofNat i)), .val (.int (Int32.ofNat e)), .val (.int (Int32.ofNat j)), .val (.int (cnt cs i j)), .val (.int (cnt cs i j)), .val (.int (Int32.ofNat (j + 1))), .val (.int (1 : Int32)), .val (.int (Int32.ofNat j2))]) d25_86 rfl (pc' := 88) rfl ?_
            refine Seg.iload d25_88 rfl (pc' := 90) rfl ?_
            refine Seg.ifY (pc' := 97) d25_90 (XT.i0_ge_t (n32nn (by omega))) (by decide) (by decide) ?_
            refine Seg.aloadN d25_97 rfl rfl (pc' := 98) rfl ?_
            refine Seg.iload d25_98 rfl (pc' := 100) rfl ?_
            refine Seg.iload d25_100 rfl (pc' := 102) rfl ?_
            refine Seg.callS (y' := (⟨"com/example/wardn/wardn/rules/RepetitionOperator", "count", "(Ljava/lang/String;II)I"⟩ : MethodName)) (wd G 135 rfl) (wd G 136 rfl) (wd G 37 rfl) (wd G 137 rfl) ⟨by decide, by decide⟩ (Pays.of_ct (W := 0) (ct_cnt G a cs (j + 1) j2 h0 F hc hl (by omega) (by omega)) all0 (wd G 137 rfl) (wd G 37 rfl) (by decide) (by decide) rfl rfl) (argsL := [(.ref a), (.int (Int32.ofNat (j + 1))), (.int (Int32.ofNat j2))]) (rest := []) rfl (lenOf pd_8 rfl) rfl (Nat.le_of_eq rfl) rfl d25_102 (pc' := 105) rfl (k' := 0) (n' := 0) rfl rfl (by decide) (by decide) ?_
            intro v_53 h_56 sz_54 q_55
            obtain ⟨rfl, rfl⟩ := q_55
            refine Seg.istore (L' := #[.val (.ref a), .val (.int (Int32.ofNat i)), .val (.int (Int32.ofNat e)), .val (.int (Int32.ofNat j)), .val (.int (cnt cs i j)), .val (.int (cnt cs (j + 1) j2)), .val (.int (Int32.ofNat (j + 1))), .val (.int (1 : Int32)), .val (.int (Int32.ofNat j2))]) d25_105 rfl (pc' := 107) rfl ?_
            refine Seg.iload d25_107 rfl (pc' := 109) rfl ?_
            refine Seg.istore (L' := #[.val (.ref a), .val (.int (Int32.ofNat i)), .val (.int (Int32.ofNat e)), .val (.int (Int32.ofNat j)), .val (.int (cnt cs i j)), .val (.int (cnt cs (j + 1) j2)), .val (.int (Int32.ofNat j2)), .val (.int (1 : Int32)), .val (.int (Int32.ofNat j2))]) d25_109 rfl (pc' := 111) rfl ?_
            refine Seg.goto (pc' := 117) d25_111 (by decide) (by decide) ?_
            exact Seg.post (fun v h q => by rw [cd_x3 hx ⟨g1, g2⟩ (fun q => g3 q.1), hy]; exact q) (sgc117 G a cs e j2 (cnt cs i j) (cnt cs (j + 1) j2) _ _ _ _ h0 F hc hl he (by omega) (Or.inr ⟨_, rfl⟩))
      · refine Seg.icY (pc' := 117) d25_44 (XT.ii_ne_t g2) (by decide) (by decide) ?_
        exact Seg.post (fun v h q => by rw [cd_x1 hx (fun q => g2 q.2)]; exact q) (sgc117 G a cs e j (cnt cs i j) (cnt cs i j) _ _ _ _ h0 F hc hl he (by omega) (Or.inl rfl))
    · refine Seg.icY (pc' := 117) d25_33 (XT.ii_ge_t (n32nlt (by omega) (by omega))) (by decide) (by decide) ?_
      exact Seg.post (fun v h q => by rw [cd_x1 hx (fun q => g1 q.1)]; exact q) (sgc117 G a cs e j (cnt cs i j) (cnt cs i j) _ _ _ _ h0 F hc hl he (by omega) (Or.inl rfl))
theorem d8_14 : decode prog_22_method_2_code 14 = .ok (.istore_n 3, 1) := by decide +kernel
theorem d8_15 : decode prog_22_method_2_code 15 = .ok (.iload_n 3, 1) := by decide +kernel
theorem d8_16 : decode prog_22_method_2_code 16 = .ok (.bipush 42, 2) := by decide +kernel
theorem d8_18 : decode prog_22_method_2_code 18 = .ok (.if_icmp .ne 23, 3) := by decide +kernel
theorem d8_21 : decode prog_22_method_2_code 21 = .ok (.new 8, 3) := by decide +kernel
theorem d8_24 : decode prog_22_method_2_code 24 = .ok (.dup, 1) := by decide +kernel
theorem d8_25 : decode prog_22_method_2_code 25 = .ok (.iconst 0, 1) := by decide +kernel
theorem d8_26 : decode prog_22_method_2_code 26 = .ok (.iconst (-1), 1) := by decide +kernel
theorem d8_27 : decode prog_22_method_2_code 27 = .ok (.iload_n 1, 1) := by decide +kernel
theorem d8_28 : decode prog_22_method_2_code 28 = .ok (.iconst 1, 1) := by decide +kernel
theorem d8_29 : decode prog_22_method_2_code 29 = .ok (.iadd, 1) := by decide +kernel
theorem d8_30 : decode prog_22_method_2_code 30 = .ok (.invokespecial 25, 3) := by decide +kernel
theorem d8_33 : decode prog_22_method_2_code 33 = .ok (.invokestatic 28, 3) := by decide +kernel
theorem d8_36 : decode prog_22_method_2_code 36 = .ok (.astore 4, 2) := by decide +kernel
theorem d8_38 : decode prog_22_method_2_code 38 = .ok (.goto 79, 3) := by decide +kernel
theorem d8_117 : decode prog_22_method_2_code 117 = .ok (.aload 4, 2) := by decide +kernel
theorem d8_119 : decode prog_22_method_2_code 119 = .ok (.areturn, 1) := by decide +kernel
theorem d8_41 : decode prog_22_method_2_code 41 = .ok (.iload_n 3, 1) := by decide +kernel
theorem d8_42 : decode prog_22_method_2_code 42 = .ok (.bipush 43, 2) := by decide +kernel
theorem d8_44 : decode prog_22_method_2_code 44 = .ok (.if_icmp .ne 23, 3) := by decide +kernel
theorem d8_47 : decode prog_22_method_2_code 47 = .ok (.new 8, 3) := by decide +kernel
theorem d8_50 : decode prog_22_method_2_code 50 = .ok (.dup, 1) := by decide +kernel
theorem d8_51 : decode prog_22_method_2_code 51 = .ok (.iconst 1, 1) := by decide +kernel
theorem d8_52 : decode prog_22_method_2_code 52 = .ok (.iconst (-1), 1) := by decide +kernel
theorem d8_53 : decode prog_22_method_2_code 53 = .ok (.iload_n 1, 1) := by decide +kernel
theorem d8_54 : decode prog_22_method_2_code 54 = .ok (.iconst 1, 1) := by decide +kernel
theorem d8_55 : decode prog_22_method_2_code 55 = .ok (.iadd, 1) := by decide +kernel
theorem d8_56 : decode prog_22_method_2_code 56 = .ok (.invokespecial 25, 3) := by decide +kernel
theorem d8_59 : decode prog_22_method_2_code 59 = .ok (.invokestatic 28, 3) := by decide +kernel
theorem d8_62 : decode prog_22_method_2_code 62 = .ok (.astore 4, 2) := by decide +kernel
theorem d8_64 : decode prog_22_method_2_code 64 = .ok (.goto 53, 3) := by decide +kernel
theorem d8_67 : decode prog_22_method_2_code 67 = .ok (.iload_n 3, 1) := by decide +kernel
theorem d8_68 : decode prog_22_method_2_code 68 = .ok (.bipush 63, 2) := by decide +kernel
theorem d8_70 : decode prog_22_method_2_code 70 = .ok (.if_icmp .ne 23, 3) := by decide +kernel
theorem d8_73 : decode prog_22_method_2_code 73 = .ok (.new 8, 3) := by decide +kernel
theorem d8_76 : decode prog_22_method_2_code 76 = .ok (.dup, 1) := by decide +kernel
theorem d8_77 : decode prog_22_method_2_code 77 = .ok (.iconst 0, 1) := by decide +kernel
theorem d8_78 : decode prog_22_method_2_code 78 = .ok (.iconst 1, 1) := by decide +kernel
theorem d8_79 : decode prog_22_method_2_code 79 = .ok (.iload_n 1, 1) := by decide +kernel
theorem d8_80 : decode prog_22_method_2_code 80 = .ok (.iconst 1, 1) := by decide +kernel
theorem d8_81 : decode prog_22_method_2_code 81 = .ok (.iadd, 1) := by decide +kernel
theorem d8_82 : decode prog_22_method_2_code 82 = .ok (.invokespecial 25, 3) := by decide +kernel
theorem d8_85 : decode prog_22_method_2_code 85 = .ok (.invokestatic 28, 3) := by decide +kernel
theorem d8_88 : decode prog_22_method_2_code 88 = .ok (.astore 4, 2) := by decide +kernel
theorem d8_90 : decode prog_22_method_2_code 90 = .ok (.goto 27, 3) := by decide +kernel
theorem d8_93 : decode prog_22_method_2_code 93 = .ok (.iload_n 3, 1) := by decide +kernel
theorem d8_94 : decode prog_22_method_2_code 94 = .ok (.bipush 123, 2) := by decide +kernel
theorem d8_96 : decode prog_22_method_2_code 96 = .ok (.if_icmp .ne 16, 3) := by decide +kernel
theorem d8_99 : decode prog_22_method_2_code 99 = .ok (.aload_n 0, 1) := by decide +kernel
theorem d8_100 : decode prog_22_method_2_code 100 = .ok (.iload_n 1, 1) := by decide +kernel
theorem d8_101 : decode prog_22_method_2_code 101 = .ok (.iconst 1, 1) := by decide +kernel
theorem d8_102 : decode prog_22_method_2_code 102 = .ok (.iadd, 1) := by decide +kernel
theorem d8_103 : decode prog_22_method_2_code 103 = .ok (.iload_n 2, 1) := by decide +kernel
theorem d8_104 : decode prog_22_method_2_code 104 = .ok (.invokestatic 34, 3) := by decide +kernel
theorem pd_9 : parseMethodDescriptor "(Ljava/lang/String;II)Ljava/util/Optional;" = some ⟨[(.object "java/lang/String"), .int, .int], some (.object "java/util/Optional")⟩ := by decide +kernel
theorem d8_107 : decode prog_22_method_2_code 107 = .ok (.astore 4, 2) := by decide +kernel
theorem d8_109 : decode prog_22_method_2_code 109 = .ok (.goto 8, 3) := by decide +kernel
theorem d8_112 : decode prog_22_method_2_code 112 = .ok (.invokestatic 38, 3) := by decide +kernel
theorem d8_115 : decode prog_22_method_2_code 115 = .ok (.astore 4, 2) := by decide +kernel
set_option maxRecDepth 65536 in
set_option maxHeartbeats 4000000 in
theorem sga14 {l : Launch} {Z : State} {a0 : Array Value} (G : Env1 Z a0) (a : Addr) (cs : List Int32) (s : Nat) (e : Nat) (ch : Int32) (h0 : Heap) (F : Str Z h0 a cs) (hc : ∀ c ∈ cs, ¬ c < 0 ∧ ¬ (255 : Int32) < c) (hl : cs.length = 27) (hs : s ≤ 26) (he : e ≤ 27) :
    Seg l Z a0 EL1 (⟨"com/example/wardn/wardn/rules/RepetitionOperator", "at", "(Ljava/lang/String;II)Ljava/util/Optional;"⟩ : MethodName) prog_22_method_2_code 5 (some (.object "java/util/Optional")) ({ frames := 7, cells := 2, slots := 4, locals := 160 } : Room) (fun v h => ∃ r, v = some (.ref r) ∧ Ext h0 h ∧ OptR Z h r (atG cs s e ch)) h0 0 0 [] 14 #[.val (.ref a), .val (.int (Int32.ofNat s)), .val (.int (Int32.ofNat e)), .unset, .unset] [(.int ch)] := by
  refine Seg.istoreN (L' := #[.val (.ref a), .val (.int (Int32.ofNat s)), .val (.int (Int32.ofNat e)), .val (.int ch), .unset]) d8_14 rfl (pc' := 15) rfl ?_
  refine Seg.iloadN d8_15 rfl (pc' := 16) rfl ?_
  refine Seg.bipush (v := 42) d8_16 (by decide) (pc' := 18) rfl ?_
  by_cases g0 : ch = 42
  · refine Seg.icN d8_18 (XT.ii_ne_f g0) (pc' := 21) rfl ?_
    refine Seg.newO (wd G 61 rfl) (wd G 62 rfl) (wd G 37 rfl) d8_21 (pc' := 24) rfl (k' := 1) (n' := 3) rfl rfl (by decide) (by decide) ?_
    intro b_1 h_3 E_2 e_b_1 l_b_1 A_b_1 D_b_1
    have F_min_b_1 : Fld Z h_3 b_1 "com/example/wardn/wardn/rules/RepetitionOperator" "min" "I" (.int (0 : Int32)) := D_b_1 (Or.inr (wd G 68 rfl)) (ty := .int) (by decide)
    have F_max_b_1 : Fld Z h_3 b_1 "com/example/wardn/wardn/rules/RepetitionOperator" "max" "I" (.int (0 : Int32)) := D_b_1 (Or.inr (wd G 70 rfl)) (ty := .int) (by decide)
    have F_end_b_1 : Fld Z h_3 b_1 "com/example/wardn/wardn/rules/RepetitionOperator" "end" "I" (.int (0 : Int32)) := D_b_1 (Or.inr (wd G 72 rfl)) (ty := .int) (by decide)
    refine Seg.dup d8_24 rfl (pc' := 25) rfl ?_
    refine Seg.iconst (v := 0) d8_25 (by decide) (pc' := 26) rfl ?_
    refine Seg.iconst (v := -1) d8_26 (by decide) (pc' := 27) rfl ?_
    refine Seg.iloadN d8_27 rfl (pc' := 28) rfl ?_
    refine Seg.iconst (v := 1) d8_28 (by decide) (pc' := 29) rfl ?_
    refine Seg.iadd (v := (Int32.ofNat (s + 1))) d8_29 (n32s s) (pc' := 30) rfl ?_
    refine Seg.callN (y' := (⟨"com/example/wardn/wardn/rules/RepetitionOperator", "<init>", "(III)V"⟩ : MethodName)) (a := b_1) rfl (wd G 63 rfl) (wd G 64 rfl) (wd G 65 rfl) ⟨by decide, by decide⟩ (Pays.of_ct (W := 1) (ct_ri G b_1 0 (-1) (Int32.ofNat (s + 1)) (.int 0) (.int 0) (.int 0) h_3 A_b_1 F_min_b_1 F_max_b_1 F_end_b_1) (allS (List.mem_of_getElem? (i := 0) rfl) all0) (wd G 65 rfl) (wd G 37 rfl) (by decide) (by decide) rfl rfl) (argsL := [(.int (0 : Int32)), (.int (-1 : Int32)), (.int (Int32.ofNat (s + 1)))]) (rest := [(.ref b_1)]) rfl (lenOf pd_5 rfl) rfl (Nat.le_of_eq rfl) rfl d8_30 (pc' := 33) rfl (k' := 1) (n' := 3) rfl rfl (by decide) (by decide) ?_
    intro v_4 h_7 sz_5 q_6
    obtain ⟨rfl, K7, G0, G1, G2⟩ := q_6
    refine Seg.callS (y' := (⟨"java/util/Optional", "of", "(Ljava/lang/Object;)Ljava/util/Optional;"⟩ : MethodName)) (wd G 73 rfl) (wd G 74 rfl) (wd G 75 rfl) (wd G 76 rfl) ⟨by decide, by decide⟩ (Pays.of_ct (W := 0) (ct_joof G b_1 h_7) all0 (wd G 76 rfl) (wd G 75 rfl) (by decide) (by decide) rfl rfl) (argsL := [(.ref b_1)]) (rest := []) rfl (lenOf pd_6 rfl) rfl (Nat.le_of_eq rfl) rfl d8_33 (pc' := 36) rfl (k' := 2) (n' := 4) rfl rfl (by decide) (by decide) ?_
    intro v_8 h_11 sz_9 q_10
    obtain ⟨r, rfl, E7, X7, V7⟩ := q_10
    refine Seg.astore (L' := #[.val (.ref a), .val (.int (Int32.ofNat s)), .val (.int (Int32.ofNat e)), .val (.int ch), .val (.ref r)]) d8_36 rfl rfl (pc' := 38) rfl ?_
    refine Seg.goto (pc' := 117) d8_38 (by decide) (by decide) ?_
    refine Seg.aload d8_117 rfl rfl (pc' := 119) rfl ?_
    have E_12 : Ext h0 h_7 := ext_kp E_2 K7 (allS (Nat.le_trans (ext_rfl _).1 (Nat.le_of_eq e_b_1)) all0)
    have E_13 : Ext h0 h_11 := ext_tr E_12 E7
    have F_14 := ((A_b_1.keep K7).ext E7)
    have F_15 := G0.ext E7
    have F_16 := G1.ext E7
    have F_17 := G2.ext E7
    rw [atG, if_pos g0]
    exact Seg.retA rfl rfl rfl d8_119 (by decide) (by decide) ⟨r, rfl, E_13, X7, b_1, V7, F_14, F_15, F_16, F_17⟩
  · refine Seg.icY (pc' := 41) d8_18 (XT.ii_ne_t g0) (by decide) (by decide) ?_
    refine Seg.iloadN d8_41 rfl (pc' := 42) rfl ?_
    refine Seg.bipush (v := 43) d8_42 (by decide) (pc' := 44) rfl ?_
    by_cases g1 : ch = 43
    · refine Seg.icN d8_44 (XT.ii_ne_f g1) (pc' := 47) rfl ?_
      refine Seg.newO (wd G 61 rfl) (wd G 62 rfl) (wd G 37 rfl) d8_47 (pc' := 50) rfl (k' := 1) (n' := 3) rfl rfl (by decide) (by decide) ?_
      intro b_18 h_20 E_19 e_b_18 l_b_18 A_b_18 D_b_18
      have F_min_b_18 : Fld Z h_20 b_18 "com/example/wardn/wardn/rules/RepetitionOperator" "min" "I" (.int (0 : Int32)) := D_b_18 (Or.inr (wd G 68 rfl)) (ty := .int) (by decide)
      have F_max_b_18 : Fld Z h_20 b_18 "com/example/wardn/wardn/rules/RepetitionOperator" "max" "I" (.int (0 : Int32)) := D_b_18 (Or.inr (wd G 70 rfl)) (ty := .int) (by decide)
      have F_end_b_18 : Fld Z h_20 b_18 "com/example/wardn/wardn/rules/RepetitionOperator" "end" "I" (.int (0 : Int32)) := D_b_18 (Or.inr (wd G 72 rfl)) (ty := .int) (by decide)
      refine Seg.dup d8_50 rfl (pc' := 51) rfl ?_
      refine Seg.iconst (v := 1) d8_51 (by decide) (pc' := 52) rfl ?_
      refine Seg.iconst (v := -1) d8_52 (by decide) (pc' := 53) rfl ?_
      refine Seg.iloadN d8_53 rfl (pc' := 54) rfl ?_
      refine Seg.iconst (v := 1) d8_54 (by decide) (pc' := 55) rfl ?_
      refine Seg.iadd (v := (Int32.ofNat (s + 1))) d8_55 (n32s s) (pc' := 56) rfl ?_
      refine Seg.callN (y' := (⟨"com/example/wardn/wardn/rules/RepetitionOperator", "<init>", "(III)V"⟩ : MethodName)) (a := b_18) rfl (wd G 63 rfl) (wd G 64 rfl) (wd G 65 rfl) ⟨by decide, by decide⟩ (Pays.of_ct (W := 1) (ct_ri G b_18 1 (-1) (Int32.ofNat (s + 1)) (.int 0) (.int 0) (.int 0) h_20 A_b_18 F_min_b_18 F_max_b_18 F_end_b_18) (allS (List.mem_of_getElem? (i := 0) rfl) all0) (wd G 65 rfl) (wd G 37 rfl) (by decide) (by decide) rfl rfl) (argsL := [(.int (1 : Int32)), (.int (-1 : Int32)), (.int (Int32.ofNat (s + 1)))]) (rest := [(.ref b_18)]) rfl (lenOf pd_5 rfl) rfl (Nat.le_of_eq rfl) rfl d8_56 (pc' := 59) rfl (k' := 1) (n' := 3) rfl rfl (by decide) (by decide) ?_
      intro v_21 h_24 sz_22 q_23
      obtain ⟨rfl, K7, G0, G1, G2⟩ := q_23
      refine Seg.callS (y' := (⟨"java/util/Optional", "of", "(Ljava/lang/Object;)Ljava/util/Optional;"⟩ : MethodName)) (wd G 73 rfl) (wd G 74 rfl) (wd G 75 rfl) (wd G 76 rfl) ⟨by decide, by decide⟩ (Pays.of_ct (W := 0) (ct_joof G b_18 h_24) all0 (wd G 76 rfl) (wd G 75 rfl) (by decide) (by decide) rfl rfl) (argsL := [(.ref b_18)]) (rest := []) rfl (lenOf pd_6 rfl) rfl (Nat.le_of_eq rfl) rfl d8_59 (pc' := 62) rfl (k' := 2) (n' := 4) rfl rfl (by decide) (by decide) ?_
      intro v_25 h_28 sz_26 q_27
      obtain ⟨r, rfl, E7, X7, V7⟩ := q_27
      refine Seg.astore (L' := #[.val (.ref a), .val (.int (Int32.ofNat s)), .val (.int (Int32.ofNat e)), .val (.int ch), .val (.ref r)]) d8_62 rfl rfl (pc' := 64) rfl ?_
      refine Seg.goto (pc' := 117) d8_64 (by decide) (by decide) ?_
      refine Seg.aload d8_117 rfl rfl (pc' := 119) rfl ?_
      have E_29 : Ext h0 h_24 := ext_kp E_19 K7 (allS (Nat.le_trans (ext_rfl _).1 (Nat.le_of_eq e_b_18)) all0)
      have E_30 : Ext h0 h_28 := ext_tr E_29 E7
      have F_31 := ((A_b_18.keep K7).ext E7)
      have F_32 := G0.ext E7
      have F_33 := G1.ext E7
      have F_34 := G2.ext E7
      rw [atG, if_neg g0, if_pos g1]
      exact Seg.retA rfl rfl rfl d8_119 (by decide) (by decide) ⟨r, rfl, E_30, X7, b_18, V7, F_31, F_32, F_33, F_34⟩
    · refine Seg.icY (pc' := 67) d8_44 (XT.ii_ne_t g1) (by decide) (by decide) ?_
      refine Seg.iloadN d8_67 rfl (pc' := 68) rfl ?_
      refine Seg.bipush (v := 63) d8_68 (by decide) (pc' := 70) rfl ?_
      by_cases g2 : ch = 63
      · refine Seg.icN d8_70 (XT.ii_ne_f g2) (pc' := 73) rfl ?_
        refine Seg.newO (wd G 61 rfl) (wd G 62 rfl) (wd G 37 rfl) d8_73 (pc' := 76) rfl (k' := 1) (n' := 3) rfl rfl (by decide) (by decide) ?_
        intro b_35 h_37 E_36 e_b_35 l_b_35 A_b_35 D_b_35
        have F_min_b_35 : Fld Z h_37 b_35 "com/example/wardn/wardn/rules/RepetitionOperator" "min" "I" (.int (0 : Int32)) := D_b_35 (Or.inr (wd G 68 rfl)) (ty := .int) (by decide)
        have F_max_b_35 : Fld Z h_37 b_35 "com/example/wardn/wardn/rules/RepetitionOperator" "max" "I" (.int (0 : Int32)) := D_b_35 (Or.inr (wd G 70 rfl)) (ty := .int) (by decide)
        have F_end_b_35 : Fld Z h_37 b_35 "com/example/wardn/wardn/rules/RepetitionOperator" "end" "I" (.int (0 : Int32)) := D_b_35 (Or.inr (wd G 72 rfl)) (ty := .int) (by decide)
        refine Seg.dup d8_76 rfl (pc' := 77) rfl ?_
        refine Seg.iconst (v := 0) d8_77 (by decide) (pc' := 78) rfl ?_
        refine Seg.iconst (v := 1) d8_78 (by decide) (pc' := 79) rfl ?_
        refine Seg.iloadN d8_79 rfl (pc' := 80) rfl ?_
        refine Seg.iconst (v := 1) d8_80 (by decide) (pc' := 81) rfl ?_
        refine Seg.iadd (v := (Int32.ofNat (s + 1))) d8_81 (n32s s) (pc' := 82) rfl ?_
        refine Seg.callN (y' := (⟨"com/example/wardn/wardn/rules/RepetitionOperator", "<init>", "(III)V"⟩ : MethodName)) (a := b_35) rfl (wd G 63 rfl) (wd G 64 rfl) (wd G 65 rfl) ⟨by decide, by decide⟩ (Pays.of_ct (W := 1) (ct_ri G b_35 0 1 (Int32.ofNat (s + 1)) (.int 0) (.int 0) (.int 0) h_37 A_b_35 F_min_b_35 F_max_b_35 F_end_b_35) (allS (List.mem_of_getElem? (i := 0) rfl) all0) (wd G 65 rfl) (wd G 37 rfl) (by decide) (by decide) rfl rfl) (argsL := [(.int (0 : Int32)), (.int (1 : Int32)), (.int (Int32.ofNat (s + 1)))]) (rest := [(.ref b_35)]) rfl (lenOf pd_5 rfl) rfl (Nat.le_of_eq rfl) rfl d8_82 (pc' := 85) rfl (k' := 1) (n' := 3) rfl rfl (by decide) (by decide) ?_
        intro v_38 h_41 sz_39 q_40
        obtain ⟨rfl, K7, G0, G1, G2⟩ := q_40
        refine Seg.callS (y' := (⟨"java/util/Optional", "of", "(Ljava/lang/Object;)Ljava/util/Optional;"⟩ : MethodName)) (wd G 73 rfl) (wd G 74 rfl) (wd G 75 rfl) (wd G 76 rfl) ⟨by decide, by decide⟩ (Pays.of_ct (W := 0) (ct_joof G b_35 h_41) all0 (wd G 76 rfl) (wd G 75 rfl) (by decide) (by decide) rfl rfl) (argsL := [(.ref b_35)]) (rest := []) rfl (lenOf pd_6 rfl) rfl (Nat.le_of_eq rfl) rfl d8_85 (pc' := 88) rfl (k' := 2) (n' := 4) rfl rfl (by decide) (by decide) ?_
        intro v_42 h_45 sz_43 q_44
        obtain ⟨r, rfl, E7, X7, V7⟩ := q_44
        refine Seg.astore (L' := #[.val (.ref a), .val (.int (Int32.ofNat s)), .val (.int (Int32.ofNat e)), .val (.int ch), .val (.ref r)]) d8_88 rfl rfl (pc' := 90) rfl ?_
        refine Seg.goto (pc' := 117) d8_90 (by decide) (by decide) ?_
        refine Seg.aload d8_117 rfl rfl (pc' := 119) rfl ?_
        have E_46 : Ext h0 h_41 := ext_kp E_36 K7 (allS (Nat.le_trans (ext_rfl _).1 (Nat.le_of_eq e_b_35)) all0)
        have E_47 : Ext h0 h_45 := ext_tr E_46 E7
        have F_48 := ((A_b_35.keep K7).ext E7)
        have F_49 := G0.ext E7
        have F_50 := G1.ext E7
        have F_51 := G2.ext E7
        rw [atG, if_neg g0, if_neg g1, if_pos g2]
        exact Seg.retA rfl rfl rfl d8_119 (by decide) (by decide) ⟨r, rfl, E_47, X7, b_35, V7, F_48, F_49, F_50, F_51⟩
      · refine Seg.icY (pc' := 93) d8_70 (XT.ii_ne_t g2) (by decide) (by decide) ?_
        refine Seg.iloadN d8_93 rfl (pc' := 94) rfl ?_
        refine Seg.bipush (v := 123) d8_94 (by decide) (pc' := 96) rfl ?_
        by_cases g3 : ch = 123
        · refine Seg.icN d8_96 (XT.ii_ne_f g3) (pc' := 99) rfl ?_
          refine Seg.aloadN d8_99 rfl rfl (pc' := 100) rfl ?_
          refine Seg.iloadN d8_100 rfl (pc' := 101) rfl ?_
          refine Seg.iconst (v := 1) d8_101 (by decide) (pc' := 102) rfl ?_
          refine Seg.iadd (v := (Int32.ofNat (s + 1))) d8_102 (n32s s) (pc' := 103) rfl ?_
          refine Seg.iloadN d8_103 rfl (pc' := 104) rfl ?_
          refine Seg.callS (y' := (⟨"com/example/wardn/wardn/rules/RepetitionOperator", "counted", "(Ljava/lang/String;II)Ljava/util/Optional;"⟩ : MethodName)) (wd G 126 rfl) (wd G 127 rfl) (wd G 37 rfl) (wd G 128 rfl) ⟨by decide, by decide⟩ (Pays.of_ct (W := 0) (ct_cd G a cs (s + 1) e h0 F hc hl (by omega) he) all0 (wd G 128 rfl) (wd G 37 rfl) (by decide) (by decide) rfl rfl) (argsL := [(.ref a), (.int (Int32.ofNat (s + 1))), (.int (Int32.ofNat e))]) (rest := []) rfl (lenOf pd_9 rfl) rfl (Nat.le_of_eq rfl) rfl d8_104 (pc' := 107) rfl (k' := 2) (n' := 4) rfl rfl (by decide) (by decide) ?_
          intro v_52 h_55 sz_53 q_54
          obtain ⟨r, rfl, E7, O7⟩ := q_54
          refine Seg.astore (L' := #[.val (.ref a), .val (.int (Int32.ofNat s)), .val (.int (Int32.ofNat e)), .val (.int ch), .val (.ref r)]) d8_107 rfl rfl (pc' := 109) rfl ?_
          refine Seg.goto (pc' := 117) d8_109 (by decide) (by decide) ?_
          refine Seg.aload d8_117 rfl rfl (pc' := 119) rfl ?_
          rw [atG, if_neg g0, if_neg g1, if_neg g2, if_pos g3]
          exact Seg.retA rfl rfl rfl d8_119 (by decide) (by decide) ⟨r, rfl, E7, O7⟩
        · refine Seg.icY (pc' := 112) d8_96 (XT.ii_ne_t g3) (by decide) (by decide) ?_
          obtain ⟨oe, Se, Xe, Ve⟩ := G.2.2.2.2
          refine Seg.start fun hZ0 => ?_
          refine Seg.callS (y' := (⟨"java/util/Optional", "empty", "()Ljava/util/Optional;"⟩ : MethodName)) (wd G 117 rfl) (wd G 118 rfl) (wd G 75 rfl) (wd G 119 rfl) ⟨by decide, by decide⟩ (Pays.of_ct (W := 0) (ct_joempty G oe h0 Se) all0 (wd G 119 rfl) (wd G 75 rfl) (by decide) (by decide) rfl rfl) (argsL := []) (rest := []) rfl (lenOf pd_7 rfl) rfl (Nat.le_of_eq rfl) rfl d8_112 (pc' := 115) rfl (k' := 0) (n' := 0) rfl rfl (by decide) (by decide) ?_
          intro v_56 h_59 sz_57 q_58
          obtain ⟨rfl, rfl⟩ := q_58
          refine Seg.astore (L' := #[.val (.ref a), .val (.int (Int32.ofNat s)), .val (.int (Int32.ofNat e)), .val (.int ch), .val (.ref oe)]) d8_115 rfl rfl (pc' := 117) rfl ?_
          refine Seg.aload d8_117 rfl rfl (pc' := 119) rfl ?_
          rw [atG, if_neg g0, if_neg g1, if_neg g2, if_neg g3]
          exact Seg.retA rfl rfl rfl d8_119 (by decide) (by decide) ⟨oe, rfl, ext_rfl _, Xe.ext hZ0, Ve.ext hZ0⟩
theorem d8_0 : decode prog_22_method_2_code 0 = .ok (.iload_n 1, 1) := by decide +kernel
theorem d8_1 : decode prog_22_method_2_code 1 = .ok (.iload_n 2, 1) := by decide +kernel
theorem d8_2 : decode prog_22_method_2_code 2 = .ok (.if_icmp .ge 11, 3) := by decide +kernel
theorem d8_5 : decode prog_22_method_2_code 5 = .ok (.aload_n 0, 1) := by decide +kernel
theorem d8_6 : decode prog_22_method_2_code 6 = .ok (.iload_n 1, 1) := by decide +kernel
theorem d8_7 : decode prog_22_method_2_code 7 = .ok (.invokevirtual 19, 3) := by decide +kernel
theorem d8_10 : decode prog_22_method_2_code 10 = .ok (.goto 4, 3) := by decide +kernel
theorem d8_13 : decode prog_22_method_2_code 13 = .ok (.iconst 0, 1) := by decide +kernel
theorem ef_ct_at (a : Addr) (cs : List Int32) (s : Nat) (e : Nat) (m : MethodId) : entryFrame m #[(.ref a), (.int (Int32.ofNat s)), (.int (Int32.ofNat e))] 5 = mkF m 0 #[.val (.ref a), .val (.int (Int32.ofNat s)), .val (.int (Int32.ofNat e)), .unset, .unset] [] := by first | (simp [entryFrame, mkF, argsToLocals, Value.category]; done) | rfl
set_option maxRecDepth 65536 in
set_option maxHeartbeats 4000000 in
theorem ct_at {l : Launch} {Z : State} {a0 : Array Value} (G : Env1 Z a0) (a : Addr) (cs : List Int32) (s : Nat) (e : Nat) (h0 : Heap) (F : Str Z h0 a cs) (hc : ∀ c ∈ cs, ¬ c < 0 ∧ ¬ (255 : Int32) < c) (hl : cs.length = 27) (hs : s ≤ 26) (he : e ≤ 27) :
    Ct l Z EL1 [] [] (⟨"com/example/wardn/wardn/rules/RepetitionOperator", "at", "(Ljava/lang/String;II)Ljava/util/Optional;"⟩ : MethodName) prog_22_method_2_code 5 (some (.object "java/util/Optional")) ({ frames := 7, cells := 2, slots := 4, locals := 160 } : Room) #[(.ref a), (.int (Int32.ofNat s)), (.int (Int32.ofNat e))] h0 (fun v h => ∃ r, v = some (.ref r) ∧ Ext h0 h ∧ OptR Z h r (atF cs s e)) := by
  refine Ct.of_seg (a0 := a0) (plainFor_of_name pn_com_example_wardn_wardn_rules_RepetitionOperator) G.2.1 (ef_ct_at a cs s e) ?_
  have f1 := F.exa
  refine Seg.iloadN d8_0 rfl (pc' := 1) rfl ?_
  refine Seg.iloadN d8_1 rfl (pc' := 2) rfl ?_
  by_cases g1 : s < e
  · refine Seg.icN d8_2 (XT.ii_ge_f (n32lt g1 (by omega))) (pc' := 5) rfl ?_
    refine Seg.aloadN d8_5 rfl rfl (pc' := 6) rfl ?_
    refine Seg.iloadN d8_6 rfl (pc' := 7) rfl ?_
    refine Seg.callV (y' := (⟨"java/lang/String", "charAt", "(I)C"⟩ : MethodName)) (z := (⟨"java/lang/String", "charAt", "(I)C"⟩ : MethodName)) (a := a) (wd G 39 rfl) (wd G 40 rfl) (nf_sel (wd G 42 rfl)) (wd G 42 rfl) (wd G 41 rfl) ⟨by decide, by decide⟩ f1 (pays_chr (W := 0) G h0 s F (fun c q => (hc c q).2) (by omega) rfl (by decide) (by decide)) (argsL := [(.int (Int32.ofNat s))]) (rest := []) rfl (lenOf pd_2 rfl) rfl (Nat.le_of_eq rfl) rfl d8_7 (pc' := 10) rfl (k' := 0) (n' := 0) rfl rfl (by decide) (by decide) ?_
    intro v_1 h_4 sz_2 q_3
    obtain ⟨rfl, rfl⟩ := q_3
    refine Seg.goto (pc' := 14) d8_10 (by decide) (by decide) ?_
    rw [at_y g1]
    exact sga14 G a cs s e _ h0 F hc hl hs he
  · refine Seg.icY (pc' := 13) d8_2 (XT.ii_ge_t (n32nlt (by omega) (by omega))) (by decide) (by decide) ?_
    refine Seg.iconst (v := 0) d8_13 (by decide) (pc' := 14) rfl ?_
    rw [at_n g1]
    exact sga14 G a cs s e _ h0 F hc hl hs he
theorem d24_0 : decode method_3_code 0 = .ok (.lload_n 0, 1) := by decide +kernel
theorem d24_1 : decode method_3_code 1 = .ok (.iconst 4, 1) := by decide +kernel
theorem d24_2 : decode method_3_code 2 = .ok (.iload_n 2, 1) := by decide +kernel
theorem d24_3 : decode method_3_code 3 = .ok (.imul, 1) := by decide +kernel
theorem d24_4 : decode method_3_code 4 = .ok (.lushr, 1) := by decide +kernel
theorem d24_5 : decode method_3_code 5 = .ok (.ldc2_w 52, 3) := by decide +kernel
theorem d24_8 : decode method_3_code 8 = .ok (.land, 1) := by decide +kernel
theorem d24_9 : decode method_3_code 9 = .ok (.ldc2_w 54, 3) := by decide +kernel
theorem d24_12 : decode method_3_code 12 = .ok (.lrem, 1) := by decide +kernel
theorem d24_13 : decode method_3_code 13 = .ok (.l2i, 1) := by decide +kernel
theorem d24_14 : decode method_3_code 14 = .ok (.ireturn, 1) := by decide +kernel
theorem pn_com_example_wardn_wardn_rules_RepetitionOperatorAtPinLaw : plainName "com/example/wardn/wardn/rules/RepetitionOperatorAtPinLaw" = true := by first | (simp [plainName, overriddenIn]; done) | decide +kernel
theorem ef_ct_dg (v : Int64) (u : Int32) (m : MethodId) : entryFrame m #[(.long v), (.int u)] 3 = mkF m 0 #[.val (.long v), .second, .val (.int u)] [] := by first | (simp [entryFrame, mkF, argsToLocals, Value.category]; done) | rfl
set_option maxRecDepth 65536 in
set_option maxHeartbeats 4000000 in
theorem ct_dg {l : Launch} {Z : State} {a0 : Array Value} (G : Env1 Z a0) (v : Int64) (u : Int32) (h0 : Heap) :
    Ct l Z EL1 [] [] (⟨"com/example/wardn/wardn/rules/RepetitionOperatorAtPinLaw", "digitOf", "(JI)I"⟩ : MethodName) method_3_code 3 (some .int) ({ frames := 0, cells := 0, slots := 0, locals := 0 } : Room) #[(.long v), (.int u)] h0 (fun v' h => v' = some (.int (dg v u)) ∧ h0 = h) := by
  refine Ct.of_seg (a0 := a0) (plainFor_of_name pn_com_example_wardn_wardn_rules_RepetitionOperatorAtPinLaw) G.2.1 (ef_ct_dg v u) ?_
  refine Seg.lloadN d24_0 rfl (pc' := 1) rfl ?_
  refine Seg.iconst (v := 4) d24_1 (by decide) (pc' := 2) rfl ?_
  refine Seg.iloadN d24_2 rfl (pc' := 3) rfl ?_
  refine Seg.imul (v := ((4 : Int32) * u)) d24_3 rfl (pc' := 4) rfl ?_
  refine Seg.lushr (v := (XT.ushrL v ((4 : Int32) * u))) d24_4 rfl (pc' := 5) rfl ?_
  refine Seg.ldc2J (wd G 124 rfl) d24_5 (pc' := 8) rfl ?_
  refine Seg.land (v := ((XT.ushrL v ((4 : Int32) * u)) &&& (15 : Int64))) d24_8 rfl (pc' := 9) rfl ?_
  refine Seg.ldc2J (wd G 125 rfl) d24_9 (pc' := 12) rfl ?_
  refine Seg.lrem (v := (((XT.ushrL v ((4 : Int32) * u)) &&& (15 : Int64)) - (((XT.ushrL v ((4 : Int32) * u)) &&& (15 : Int64)) / (10 : Int64)) * (10 : Int64))) d24_12 (by decide) rfl (pc' := 13) rfl ?_
  refine Seg.l2i (v := ((((XT.ushrL v ((4 : Int32) * u)) &&& (15 : Int64)) - (((XT.ushrL v ((4 : Int32) * u)) &&& (15 : Int64)) / (10 : Int64)) * (10 : Int64))).toInt32) d24_13 rfl (pc' := 14) rfl ?_
  exact Seg.retI rfl d24_14 (by decide) (by decide) ⟨rfl, rfl⟩
theorem d1_221 : decode method_4_code 221 = .ok (.return_, 1) := by decide +kernel
set_option maxRecDepth 65536 in
set_option maxHeartbeats 4000000 in
theorem fd_11 {l : Launch} {Z : State} {a0 : Array Value} (G : Env1 Z a0) (hh : Heap) (p : Addr) (kp : ClassId) (off : Nat) (len : Nat) (v : Int64) (cs : List Int32) (h : Heap) (K : Keep hh h [p]) (A : Arv Z h p kp .char 27 (cs.map Value.int) (.int 0)) (hl : cs.length = 27) (ho : off + len ≤ 27) (hlen : len ≤ 11) :
    Seg l Z a0 EL1 (⟨"com/example/wardn/wardn/rules/RepetitionOperatorAtPinLaw", "fillDigits", "([CIIJ)V"⟩ : MethodName) method_4_code 5 none ({ frames := 1, cells := 0, slots := 0, locals := 40 } : Room) (fun v' h' => v' = none ∧ Keep hh h' [p] ∧ Arv Z h' p kp .char 27 ((filF v off len 0 11 cs).map Value.int) (.int 0)) h 0 0 [p] 221 #[.val (.ref p), .val (.int (Int32.ofNat off)), .val (.int (Int32.ofNat len)), .val (.long v), .second] [] := by
  exact Seg.ret0 rfl d1_221 (by decide) (by decide) ⟨rfl, K, A⟩
theorem d1_199 : decode method_4_code 199 = .ok (.iload_n 2, 1) := by decide +kernel
theorem d1_200 : decode method_4_code 200 = .ok (.bipush 10, 2) := by decide +kernel
theorem d1_202 : decode method_4_code 202 = .ok (.if_icmp .le 19, 3) := by decide +kernel
theorem d1_205 : decode method_4_code 205 = .ok (.aload_n 0, 1) := by decide +kernel
theorem d1_206 : decode method_4_code 206 = .ok (.iload_n 1, 1) := by decide +kernel
theorem d1_207 : decode method_4_code 207 = .ok (.bipush 10, 2) := by decide +kernel
theorem d1_209 : decode method_4_code 209 = .ok (.iadd, 1) := by decide +kernel
theorem d1_210 : decode method_4_code 210 = .ok (.bipush 48, 2) := by decide +kernel
theorem d1_212 : decode method_4_code 212 = .ok (.lload_n 3, 1) := by decide +kernel
theorem d1_213 : decode method_4_code 213 = .ok (.bipush 10, 2) := by decide +kernel
theorem d1_215 : decode method_4_code 215 = .ok (.invokestatic 25, 3) := by decide +kernel
theorem pd_10 : parseMethodDescriptor "(JI)I" = some ⟨[.long, .int], some .int⟩ := by decide +kernel
theorem d1_218 : decode method_4_code 218 = .ok (.iadd, 1) := by decide +kernel
theorem d1_219 : decode method_4_code 219 = .ok (.i2c, 1) := by decide +kernel
theorem d1_220 : decode method_4_code 220 = .ok (.castore, 1) := by decide +kernel
set_option maxRecDepth 65536 in
set_option maxHeartbeats 4000000 in
theorem fd_10 {l : Launch} {Z : State} {a0 : Array Value} (G : Env1 Z a0) (hh : Heap) (p : Addr) (kp : ClassId) (off : Nat) (len : Nat) (v : Int64) (cs : List Int32) (h : Heap) (K : Keep hh h [p]) (A : Arv Z h p kp .char 27 (cs.map Value.int) (.int 0)) (hl : cs.length = 27) (ho : off + len ≤ 27) (hlen : len ≤ 11) :
    Seg l Z a0 EL1 (⟨"com/example/wardn/wardn/rules/RepetitionOperatorAtPinLaw", "fillDigits", "([CIIJ)V"⟩ : MethodName) method_4_code 5 none ({ frames := 1, cells := 0, slots := 0, locals := 40 } : Room) (fun v' h' => v' = none ∧ Keep hh h' [p] ∧ Arv Z h' p kp .char 27 ((filF v off len 1 10 cs).map Value.int) (.int 0)) h 0 0 [p] 199 #[.val (.ref p), .val (.int (Int32.ofNat off)), .val (.int (Int32.ofNat len)), .val (.long v), .second] [] := by
  refine Seg.iloadN d1_199 rfl (pc' := 200) rfl ?_
  refine Seg.bipush (v := 10) d1_200 (by decide) (pc' := 202) rfl ?_
  by_cases g1 : 10 < len
  · refine Seg.icN d1_202 (XT.ii_le_f (n32lt (i := 10) g1 (by omega))) (pc' := 205) rfl ?_
    refine Seg.aloadN d1_205 rfl rfl (pc' := 206) rfl ?_
    refine Seg.iloadN d1_206 rfl (pc' := 207) rfl ?_
    refine Seg.bipush (v := 10) d1_207 (by decide) (pc' := 209) rfl ?_
    refine Seg.iadd (v := (Int32.ofNat (off + 10))) d1_209 (n32add _ 10) (pc' := 210) rfl ?_
    refine Seg.bipush (v := 48) d1_210 (by decide) (pc' := 212) rfl ?_
    refine Seg.lloadN d1_212 rfl (pc' := 213) rfl ?_
    refine Seg.bipush (v := 10) d1_213 (by decide) (pc' := 215) rfl ?_
    refine Seg.callS (y' := (⟨"com/example/wardn/wardn/rules/RepetitionOperatorAtPinLaw", "digitOf", "(JI)I"⟩ : MethodName)) (wd G 121 rfl) (wd G 122 rfl) (wd G 3 rfl) (wd G 123 rfl) ⟨by decide, by decide⟩ (Pays.of_ct (W := 3) (ct_dg G v 10 h) all0 (wd G 123 rfl) (wd G 3 rfl) (by decide) (by decide) rfl rfl) (argsL := [(.long v), (.int (10 : Int32))]) (rest := [(.int (48 : Int32)), (.int (Int32.ofNat (off + 10))), (.ref p)]) rfl (lenOf pd_10 rfl) rfl (Nat.le_of_eq rfl) rfl d1_215 (pc' := 218) rfl (k' := 0) (n' := 0) rfl rfl (by decide) (by decide) ?_
    intro v_1 h_4 sz_2 q_3
    obtain ⟨rfl, rfl⟩ := q_3
    refine Seg.iadd (v := (dch v 10)) d1_218 (dch_eq v 10 rfl) (pc' := 219) rfl ?_
    refine Seg.i2c (v := (dch v 10)) d1_219 (nar255 (dch_r v 10)) (pc' := 220) rfl ?_
    refine Seg.castore (v' := dch v 10) (i := off + 10) A (n32in (n := 27) (by omega) (by decide)) (n32c (by omega)) (by rw [List.length_map]; omega) (nar255 (dch_r v 10)) (List.mem_of_getElem? (i := 0) rfl) d1_220 (pc' := 221) rfl ?_
    intro h1 W1 A1
    rw [← List.map_set] at A1
    exact Seg.post (fun v' h' q => by rw [filF, if_pos g1]; exact q) (fd_11 G hh p kp off len v (cs.set (off + 10) (dch v 10)) h1 (K.wr W1 (Or.inl (List.mem_of_getElem? (i := 0) rfl))) A1 (by rw [List.length_set]; exact hl) ho hlen)
  · refine Seg.icY (pc' := 221) d1_202 (XT.ii_le_t (n32nlt (n := len) (i := 10) (by omega) (by decide))) (by decide) (by decide) ?_
    exact Seg.post (fun v' h' q => by rw [filF, if_neg g1]; exact q) (fd_11 G hh p kp off len v cs h K A hl ho hlen)
theorem d1_177 : decode method_4_code 177 = .ok (.iload_n 2, 1) := by decide +kernel
theorem d1_178 : decode method_4_code 178 = .ok (.bipush 9, 2) := by decide +kernel
theorem d1_180 : decode method_4_code 180 = .ok (.if_icmp .le 19, 3) := by decide +kernel
theorem d1_183 : decode method_4_code 183 = .ok (.aload_n 0, 1) := by decide +kernel
theorem d1_184 : decode method_4_code 184 = .ok (.iload_n 1, 1) := by decide +kernel
theorem d1_185 : decode method_4_code 185 = .ok (.bipush 9, 2) := by decide +kernel
theorem d1_187 : decode method_4_code 187 = .ok (.iadd, 1) := by decide +kernel
theorem d1_188 : decode method_4_code 188 = .ok (.bipush 48, 2) := by decide +kernel
theorem d1_190 : decode method_4_code 190 = .ok (.lload_n 3, 1) := by decide +kernel
theorem d1_191 : decode method_4_code 191 = .ok (.bipush 9, 2) := by decide +kernel
theorem d1_193 : decode method_4_code 193 = .ok (.invokestatic 25, 3) := by decide +kernel
theorem d1_196 : decode method_4_code 196 = .ok (.iadd, 1) := by decide +kernel
theorem d1_197 : decode method_4_code 197 = .ok (.i2c, 1) := by decide +kernel
theorem d1_198 : decode method_4_code 198 = .ok (.castore, 1) := by decide +kernel
set_option maxRecDepth 65536 in
set_option maxHeartbeats 4000000 in
theorem fd_9 {l : Launch} {Z : State} {a0 : Array Value} (G : Env1 Z a0) (hh : Heap) (p : Addr) (kp : ClassId) (off : Nat) (len : Nat) (v : Int64) (cs : List Int32) (h : Heap) (K : Keep hh h [p]) (A : Arv Z h p kp .char 27 (cs.map Value.int) (.int 0)) (hl : cs.length = 27) (ho : off + len ≤ 27) (hlen : len ≤ 11) :
    Seg l Z a0 EL1 (⟨"com/example/wardn/wardn/rules/RepetitionOperatorAtPinLaw", "fillDigits", "([CIIJ)V"⟩ : MethodName) method_4_code 5 none ({ frames := 1, cells := 0, slots := 0, locals := 40 } : Room) (fun v' h' => v' = none ∧ Keep hh h' [p] ∧ Arv Z h' p kp .char 27 ((filF v off len 2 9 cs).map Value.int) (.int 0)) h 0 0 [p] 177 #[.val (.ref p), .val (.int (Int32.ofNat off)), .val (.int (Int32.ofNat len)), .val (.long v), .second] [] := by
  refine Seg.iloadN d1_177 rfl (pc' := 178) rfl ?_
  refine Seg.bipush (v := 9) d1_178 (by decide) (pc' := 180) rfl ?_
  by_cases g1 : 9 < len
  · refine Seg.icN d1_180 (XT.ii_le_f (n32lt (i := 9) g1 (by omega))) (pc' := 183) rfl ?_
    refine Seg.aloadN d1_183 rfl rfl (pc' := 184) rfl ?_
    refine Seg.iloadN d1_184 rfl (pc' := 185) rfl ?_
    refine Seg.bipush (v := 9) d1_185 (by decide) (pc' := 187) rfl ?_
    refine Seg.iadd (v := (Int32.ofNat (off + 9))) d1_187 (n32add _ 9) (pc' := 188) rfl ?_
    refine Seg.bipush (v := 48) d1_188 (by decide) (pc' := 190) rfl ?_
    refine Seg.lloadN d1_190 rfl (pc' := 191) rfl ?_
    refine Seg.bipush (v := 9) d1_191 (by decide) (pc' := 193) rfl ?_
    refine Seg.callS (y' := (⟨"com/example/wardn/wardn/rules/RepetitionOperatorAtPinLaw", "digitOf", "(JI)I"⟩ : MethodName)) (wd G 121 rfl) (wd G 122 rfl) (wd G 3 rfl) (wd G 123 rfl) ⟨by decide, by decide⟩ (Pays.of_ct (W := 3) (ct_dg G v 9 h) all0 (wd G 123 rfl) (wd G 3 rfl) (by decide) (by decide) rfl rfl) (argsL := [(.long v), (.int (9 : Int32))]) (rest := [(.int (48 : Int32)), (.int (Int32.ofNat (off + 9))), (.ref p)]) rfl (lenOf pd_10 rfl) rfl (Nat.le_of_eq rfl) rfl d1_193 (pc' := 196) rfl (k' := 0) (n' := 0) rfl rfl (by decide) (by decide) ?_
    intro v_1 h_4 sz_2 q_3
    obtain ⟨rfl, rfl⟩ := q_3
    refine Seg.iadd (v := (dch v 9)) d1_196 (dch_eq v 9 rfl) (pc' := 197) rfl ?_
    refine Seg.i2c (v := (dch v 9)) d1_197 (nar255 (dch_r v 9)) (pc' := 198) rfl ?_
    refine Seg.castore (v' := dch v 9) (i := off + 9) A (n32in (n := 27) (by omega) (by decide)) (n32c (by omega)) (by rw [List.length_map]; omega) (nar255 (dch_r v 9)) (List.mem_of_getElem? (i := 0) rfl) d1_198 (pc' := 199) rfl ?_
    intro h1 W1 A1
    rw [← List.map_set] at A1
    exact Seg.post (fun v' h' q => by rw [filF, if_pos g1]; exact q) (fd_10 G hh p kp off len v (cs.set (off + 9) (dch v 9)) h1 (K.wr W1 (Or.inl (List.mem_of_getElem? (i := 0) rfl))) A1 (by rw [List.length_set]; exact hl) ho hlen)
  · refine Seg.icY (pc' := 199) d1_180 (XT.ii_le_t (n32nlt (n := len) (i := 9) (by omega) (by decide))) (by decide) (by decide) ?_
    exact Seg.post (fun v' h' q => by rw [filF, if_neg g1]; exact q) (fd_10 G hh p kp off len v cs h K A hl ho hlen)
theorem d1_155 : decode method_4_code 155 = .ok (.iload_n 2, 1) := by decide +kernel
theorem d1_156 : decode method_4_code 156 = .ok (.bipush 8, 2) := by decide +kernel
theorem d1_158 : decode method_4_code 158 = .ok (.if_icmp .le 19, 3) := by decide +kernel
theorem d1_161 : decode method_4_code 161 = .ok (.aload_n 0, 1) := by decide +kernel
theorem d1_162 : decode method_4_code 162 = .ok (.iload_n 1, 1) := by decide +kernel
theorem d1_163 : decode method_4_code 163 = .ok (.bipush 8, 2) := by decide +kernel
theorem d1_165 : decode method_4_code 165 = .ok (.iadd, 1) := by decide +kernel
theorem d1_166 : decode method_4_code 166 = .ok (.bipush 48, 2) := by decide +kernel
theorem d1_168 : decode method_4_code 168 = .ok (.lload_n 3, 1) := by decide +kernel
theorem d1_169 : decode method_4_code 169 = .ok (.bipush 8, 2) := by decide +kernel
theorem d1_171 : decode method_4_code 171 = .ok (.invokestatic 25, 3) := by decide +kernel
theorem d1_174 : decode method_4_code 174 = .ok (.iadd, 1) := by decide +kernel
theorem d1_175 : decode method_4_code 175 = .ok (.i2c, 1) := by decide +kernel
theorem d1_176 : decode method_4_code 176 = .ok (.castore, 1) := by decide +kernel
set_option maxRecDepth 65536 in
set_option maxHeartbeats 4000000 in
theorem fd_8 {l : Launch} {Z : State} {a0 : Array Value} (G : Env1 Z a0) (hh : Heap) (p : Addr) (kp : ClassId) (off : Nat) (len : Nat) (v : Int64) (cs : List Int32) (h : Heap) (K : Keep hh h [p]) (A : Arv Z h p kp .char 27 (cs.map Value.int) (.int 0)) (hl : cs.length = 27) (ho : off + len ≤ 27) (hlen : len ≤ 11) :
    Seg l Z a0 EL1 (⟨"com/example/wardn/wardn/rules/RepetitionOperatorAtPinLaw", "fillDigits", "([CIIJ)V"⟩ : MethodName) method_4_code 5 none ({ frames := 1, cells := 0, slots := 0, locals := 40 } : Room) (fun v' h' => v' = none ∧ Keep hh h' [p] ∧ Arv Z h' p kp .char 27 ((filF v off len 3 8 cs).map Value.int) (.int 0)) h 0 0 [p] 155 #[.val (.ref p), .val (.int (Int32.ofNat off)), .val (.int (Int32.ofNat len)), .val (.long v), .second] [] := by
  refine Seg.iloadN d1_155 rfl (pc' := 156) rfl ?_
  refine Seg.bipush (v := 8) d1_156 (by decide) (pc' := 158) rfl ?_
  by_cases g1 : 8 < len
  · refine Seg.icN d1_158 (XT.ii_le_f (n32lt (i := 8) g1 (by omega))) (pc' := 161) rfl ?_
    refine Seg.aloadN d1_161 rfl rfl (pc' := 162) rfl ?_
    refine Seg.iloadN d1_162 rfl (pc' := 163) rfl ?_
    refine Seg.bipush (v := 8) d1_163 (by decide) (pc' := 165) rfl ?_
    refine Seg.iadd (v := (Int32.ofNat (off + 8))) d1_165 (n32add _ 8) (pc' := 166) rfl ?_
    refine Seg.bipush (v := 48) d1_166 (by decide) (pc' := 168) rfl ?_
    refine Seg.lloadN d1_168 rfl (pc' := 169) rfl ?_
    refine Seg.bipush (v := 8) d1_169 (by decide) (pc' := 171) rfl ?_
    refine Seg.callS (y' := (⟨"com/example/wardn/wardn/rules/RepetitionOperatorAtPinLaw", "digitOf", "(JI)I"⟩ : MethodName)) (wd G 121 rfl) (wd G 122 rfl) (wd G 3 rfl) (wd G 123 rfl) ⟨by decide, by decide⟩ (Pays.of_ct (W := 3) (ct_dg G v 8 h) all0 (wd G 123 rfl) (wd G 3 rfl) (by decide) (by decide) rfl rfl) (argsL := [(.long v), (.int (8 : Int32))]) (rest := [(.int (48 : Int32)), (.int (Int32.ofNat (off + 8))), (.ref p)]) rfl (lenOf pd_10 rfl) rfl (Nat.le_of_eq rfl) rfl d1_171 (pc' := 174) rfl (k' := 0) (n' := 0) rfl rfl (by decide) (by decide) ?_
    intro v_1 h_4 sz_2 q_3
    obtain ⟨rfl, rfl⟩ := q_3
    refine Seg.iadd (v := (dch v 8)) d1_174 (dch_eq v 8 rfl) (pc' := 175) rfl ?_
    refine Seg.i2c (v := (dch v 8)) d1_175 (nar255 (dch_r v 8)) (pc' := 176) rfl ?_
    refine Seg.castore (v' := dch v 8) (i := off + 8) A (n32in (n := 27) (by omega) (by decide)) (n32c (by omega)) (by rw [List.length_map]; omega) (nar255 (dch_r v 8)) (List.mem_of_getElem? (i := 0) rfl) d1_176 (pc' := 177) rfl ?_
    intro h1 W1 A1
    rw [← List.map_set] at A1
    exact Seg.post (fun v' h' q => by rw [filF, if_pos g1]; exact q) (fd_9 G hh p kp off len v (cs.set (off + 8) (dch v 8)) h1 (K.wr W1 (Or.inl (List.mem_of_getElem? (i := 0) rfl))) A1 (by rw [List.length_set]; exact hl) ho hlen)
  · refine Seg.icY (pc' := 177) d1_158 (XT.ii_le_t (n32nlt (n := len) (i := 8) (by omega) (by decide))) (by decide) (by decide) ?_
    exact Seg.post (fun v' h' q => by rw [filF, if_neg g1]; exact q) (fd_9 G hh p kp off len v cs h K A hl ho hlen)
theorem d1_133 : decode method_4_code 133 = .ok (.iload_n 2, 1) := by decide +kernel
theorem d1_134 : decode method_4_code 134 = .ok (.bipush 7, 2) := by decide +kernel
theorem d1_136 : decode method_4_code 136 = .ok (.if_icmp .le 19, 3) := by decide +kernel
theorem d1_139 : decode method_4_code 139 = .ok (.aload_n 0, 1) := by decide +kernel
theorem d1_140 : decode method_4_code 140 = .ok (.iload_n 1, 1) := by decide +kernel
theorem d1_141 : decode method_4_code 141 = .ok (.bipush 7, 2) := by decide +kernel
theorem d1_143 : decode method_4_code 143 = .ok (.iadd, 1) := by decide +kernel
theorem d1_144 : decode method_4_code 144 = .ok (.bipush 48, 2) := by decide +kernel
theorem d1_146 : decode method_4_code 146 = .ok (.lload_n 3, 1) := by decide +kernel
theorem d1_147 : decode method_4_code 147 = .ok (.bipush 7, 2) := by decide +kernel
theorem d1_149 : decode method_4_code 149 = .ok (.invokestatic 25, 3) := by decide +kernel
theorem d1_152 : decode method_4_code 152 = .ok (.iadd, 1) := by decide +kernel
theorem d1_153 : decode method_4_code 153 = .ok (.i2c, 1) := by decide +kernel
theorem d1_154 : decode method_4_code 154 = .ok (.castore, 1) := by decide +kernel
set_option maxRecDepth 65536 in
set_option maxHeartbeats 4000000 in
theorem fd_7 {l : Launch} {Z : State} {a0 : Array Value} (G : Env1 Z a0) (hh : Heap) (p : Addr) (kp : ClassId) (off : Nat) (len : Nat) (v : Int64) (cs : List Int32) (h : Heap) (K : Keep hh h [p]) (A : Arv Z h p kp .char 27 (cs.map Value.int) (.int 0)) (hl : cs.length = 27) (ho : off + len ≤ 27) (hlen : len ≤ 11) :
    Seg l Z a0 EL1 (⟨"com/example/wardn/wardn/rules/RepetitionOperatorAtPinLaw", "fillDigits", "([CIIJ)V"⟩ : MethodName) method_4_code 5 none ({ frames := 1, cells := 0, slots := 0, locals := 40 } : Room) (fun v' h' => v' = none ∧ Keep hh h' [p] ∧ Arv Z h' p kp .char 27 ((filF v off len 4 7 cs).map Value.int) (.int 0)) h 0 0 [p] 133 #[.val (.ref p), .val (.int (Int32.ofNat off)), .val (.int (Int32.ofNat len)), .val (.long v), .second] [] := by
  refine Seg.iloadN d1_133 rfl (pc' := 134) rfl ?_
  refine Seg.bipush (v := 7) d1_134 (by decide) (pc' := 136) rfl ?_
  by_cases g1 : 7 < len
  · refine Seg.icN d1_136 (XT.ii_le_f (n32lt (i := 7) g1 (by omega))) (pc' := 139) rfl ?_
    refine Seg.aloadN d1_139 rfl rfl (pc' := 140) rfl ?_
    refine Seg.iloadN d1_140 rfl (pc' := 141) rfl ?_
    refine Seg.bipush (v := 7) d1_141 (by decide) (pc' := 143) rfl ?_
    refine Seg.iadd (v := (Int32.ofNat (off + 7))) d1_143 (n32add _ 7) (pc' := 144) rfl ?_
    refine Seg.bipush (v := 48) d1_144 (by decide) (pc' := 146) rfl ?_
    refine Seg.lloadN d1_146 rfl (pc' := 147) rfl ?_
    refine Seg.bipush (v := 7) d1_147 (by decide) (pc' := 149) rfl ?_
    refine Seg.callS (y' := (⟨"com/example/wardn/wardn/rules/RepetitionOperatorAtPinLaw", "digitOf", "(JI)I"⟩ : MethodName)) (wd G 121 rfl) (wd G 122 rfl) (wd G 3 rfl) (wd G 123 rfl) ⟨by decide, by decide⟩ (Pays.of_ct (W := 3) (ct_dg G v 7 h) all0 (wd G 123 rfl) (wd G 3 rfl) (by decide) (by decide) rfl rfl) (argsL := [(.long v), (.int (7 : Int32))]) (rest := [(.int (48 : Int32)), (.int (Int32.ofNat (off + 7))), (.ref p)]) rfl (lenOf pd_10 rfl) rfl (Nat.le_of_eq rfl) rfl d1_149 (pc' := 152) rfl (k' := 0) (n' := 0) rfl rfl (by decide) (by decide) ?_
    intro v_1 h_4 sz_2 q_3
    obtain ⟨rfl, rfl⟩ := q_3
    refine Seg.iadd (v := (dch v 7)) d1_152 (dch_eq v 7 rfl) (pc' := 153) rfl ?_
    refine Seg.i2c (v := (dch v 7)) d1_153 (nar255 (dch_r v 7)) (pc' := 154) rfl ?_
    refine Seg.castore (v' := dch v 7) (i := off + 7) A (n32in (n := 27) (by omega) (by decide)) (n32c (by omega)) (by rw [List.length_map]; omega) (nar255 (dch_r v 7)) (List.mem_of_getElem? (i := 0) rfl) d1_154 (pc' := 155) rfl ?_
    intro h1 W1 A1
    rw [← List.map_set] at A1
    exact Seg.post (fun v' h' q => by rw [filF, if_pos g1]; exact q) (fd_8 G hh p kp off len v (cs.set (off + 7) (dch v 7)) h1 (K.wr W1 (Or.inl (List.mem_of_getElem? (i := 0) rfl))) A1 (by rw [List.length_set]; exact hl) ho hlen)
  · refine Seg.icY (pc' := 155) d1_136 (XT.ii_le_t (n32nlt (n := len) (i := 7) (by omega) (by decide))) (by decide) (by decide) ?_
    exact Seg.post (fun v' h' q => by rw [filF, if_neg g1]; exact q) (fd_8 G hh p kp off len v cs h K A hl ho hlen)
theorem d1_111 : decode method_4_code 111 = .ok (.iload_n 2, 1) := by decide +kernel
theorem d1_112 : decode method_4_code 112 = .ok (.bipush 6, 2) := by decide +kernel
theorem d1_114 : decode method_4_code 114 = .ok (.if_icmp .le 19, 3) := by decide +kernel
theorem d1_117 : decode method_4_code 117 = .ok (.aload_n 0, 1) := by decide +kernel
theorem d1_118 : decode method_4_code 118 = .ok (.iload_n 1, 1) := by decide +kernel
theorem d1_119 : decode method_4_code 119 = .ok (.bipush 6, 2) := by decide +kernel
theorem d1_121 : decode method_4_code 121 = .ok (.iadd, 1) := by decide +kernel
theorem d1_122 : decode method_4_code 122 = .ok (.bipush 48, 2) := by decide +kernel
theorem d1_124 : decode method_4_code 124 = .ok (.lload_n 3, 1) := by decide +kernel
theorem d1_125 : decode method_4_code 125 = .ok (.bipush 6, 2) := by decide +kernel
theorem d1_127 : decode method_4_code 127 = .ok (.invokestatic 25, 3) := by decide +kernel
theorem d1_130 : decode method_4_code 130 = .ok (.iadd, 1) := by decide +kernel
theorem d1_131 : decode method_4_code 131 = .ok (.i2c, 1) := by decide +kernel
theorem d1_132 : decode method_4_code 132 = .ok (.castore, 1) := by decide +kernel
set_option maxRecDepth 65536 in
set_option maxHeartbeats 4000000 in
theorem fd_6 {l : Launch} {Z : State} {a0 : Array Value} (G : Env1 Z a0) (hh : Heap) (p : Addr) (kp : ClassId) (off : Nat) (len : Nat) (v : Int64) (cs : List Int32) (h : Heap) (K : Keep hh h [p]) (A : Arv Z h p kp .char 27 (cs.map Value.int) (.int 0)) (hl : cs.length = 27) (ho : off + len ≤ 27) (hlen : len ≤ 11) :
    Seg l Z a0 EL1 (⟨"com/example/wardn/wardn/rules/RepetitionOperatorAtPinLaw", "fillDigits", "([CIIJ)V"⟩ : MethodName) method_4_code 5 none ({ frames := 1, cells := 0, slots := 0, locals := 40 } : Room) (fun v' h' => v' = none ∧ Keep hh h' [p] ∧ Arv Z h' p kp .char 27 ((filF v off len 5 6 cs).map Value.int) (.int 0)) h 0 0 [p] 111 #[.val (.ref p), .val (.int (Int32.ofNat off)), .val (.int (Int32.ofNat len)), .val (.long v), .second] [] := by
  refine Seg.iloadN d1_111 rfl (pc' := 112) rfl ?_
  refine Seg.bipush (v := 6) d1_112 (by decide) (pc' := 114) rfl ?_
  by_cases g1 : 6 < len
  · refine Seg.icN d1_114 (XT.ii_le_f (n32lt (i := 6) g1 (by omega))) (pc' := 117) rfl ?_
    refine Seg.aloadN d1_117 rfl rfl (pc' := 118) rfl ?_
    refine Seg.iloadN d1_118 rfl (pc' := 119) rfl ?_
    refine Seg.bipush (v := 6) d1_119 (by decide) (pc' := 121) rfl ?_
    refine Seg.iadd (v := (Int32.ofNat (off + 6))) d1_121 (n32add _ 6) (pc' := 122) rfl ?_
    refine Seg.bipush (v := 48) d1_122 (by decide) (pc' := 124) rfl ?_
    refine Seg.lloadN d1_124 rfl (pc' := 125) rfl ?_
    refine Seg.bipush (v := 6) d1_125 (by decide) (pc' := 127) rfl ?_
    refine Seg.callS (y' := (⟨"com/example/wardn/wardn/rules/RepetitionOperatorAtPinLaw", "digitOf", "(JI)I"⟩ : MethodName)) (wd G 121 rfl) (wd G 122 rfl) (wd G 3 rfl) (wd G 123 rfl) ⟨by decide, by decide⟩ (Pays.of_ct (W := 3) (ct_dg G v 6 h) all0 (wd G 123 rfl) (wd G 3 rfl) (by decide) (by decide) rfl rfl) (argsL := [(.long v), (.int (6 : Int32))]) (rest := [(.int (48 : Int32)), (.int (Int32.ofNat (off + 6))), (.ref p)]) rfl (lenOf pd_10 rfl) rfl (Nat.le_of_eq rfl) rfl d1_127 (pc' := 130) rfl (k' := 0) (n' := 0) rfl rfl (by decide) (by decide) ?_
    intro v_1 h_4 sz_2 q_3
    obtain ⟨rfl, rfl⟩ := q_3
    refine Seg.iadd (v := (dch v 6)) d1_130 (dch_eq v 6 rfl) (pc' := 131) rfl ?_
    refine Seg.i2c (v := (dch v 6)) d1_131 (nar255 (dch_r v 6)) (pc' := 132) rfl ?_
    refine Seg.castore (v' := dch v 6) (i := off + 6) A (n32in (n := 27) (by omega) (by decide)) (n32c (by omega)) (by rw [List.length_map]; omega) (nar255 (dch_r v 6)) (List.mem_of_getElem? (i := 0) rfl) d1_132 (pc' := 133) rfl ?_
    intro h1 W1 A1
    rw [← List.map_set] at A1
    exact Seg.post (fun v' h' q => by rw [filF, if_pos g1]; exact q) (fd_7 G hh p kp off len v (cs.set (off + 6) (dch v 6)) h1 (K.wr W1 (Or.inl (List.mem_of_getElem? (i := 0) rfl))) A1 (by rw [List.length_set]; exact hl) ho hlen)
  · refine Seg.icY (pc' := 133) d1_114 (XT.ii_le_t (n32nlt (n := len) (i := 6) (by omega) (by decide))) (by decide) (by decide) ?_
    exact Seg.post (fun v' h' q => by rw [filF, if_neg g1]; exact q) (fd_7 G hh p kp off len v cs h K A hl ho hlen)
theorem d1_92 : decode method_4_code 92 = .ok (.iload_n 2, 1) := by decide +kernel
theorem d1_93 : decode method_4_code 93 = .ok (.iconst 5, 1) := by decide +kernel
theorem d1_94 : decode method_4_code 94 = .ok (.if_icmp .le 17, 3) := by decide +kernel
theorem d1_97 : decode method_4_code 97 = .ok (.aload_n 0, 1) := by decide +kernel
theorem d1_98 : decode method_4_code 98 = .ok (.iload_n 1, 1) := by decide +kernel
theorem d1_99 : decode method_4_code 99 = .ok (.iconst 5, 1) := by decide +kernel
theorem d1_100 : decode method_4_code 100 = .ok (.iadd, 1) := by decide +kernel
theorem d1_101 : decode method_4_code 101 = .ok (.bipush 48, 2) := by decide +kernel
theorem d1_103 : decode method_4_code 103 = .ok (.lload_n 3, 1) := by decide +kernel
theorem d1_104 : decode method_4_code 104 = .ok (.iconst 5, 1) := by decide +kernel
theorem d1_105 : decode method_4_code 105 = .ok (.invokestatic 25, 3) := by decide +kernel
theorem d1_108 : decode method_4_code 108 = .ok (.iadd, 1) := by decide +kernel
theorem d1_109 : decode method_4_code 109 = .ok (.i2c, 1) := by decide +kernel
theorem d1_110 : decode method_4_code 110 = .ok (.castore, 1) := by decide +kernel
set_option maxRecDepth 65536 in
set_option maxHeartbeats 4000000 in
theorem fd_5 {l : Launch} {Z : State} {a0 : Array Value} (G : Env1 Z a0) (hh : Heap) (p : Addr) (kp : ClassId) (off : Nat) (len : Nat) (v : Int64) (cs : List Int32) (h : Heap) (K : Keep hh h [p]) (A : Arv Z h p kp .char 27 (cs.map Value.int) (.int 0)) (hl : cs.length = 27) (ho : off + len ≤ 27) (hlen : len ≤ 11) :
    Seg l Z a0 EL1 (⟨"com/example/wardn/wardn/rules/RepetitionOperatorAtPinLaw", "fillDigits", "([CIIJ)V"⟩ : MethodName) method_4_code 5 none ({ frames := 1, cells := 0, slots := 0, locals := 40 } : Room) (fun v' h' => v' = none ∧ Keep hh h' [p] ∧ Arv Z h' p kp .char 27 ((filF v off len 6 5 cs).map Value.int) (.int 0)) h 0 0 [p] 92 #[.val (.ref p), .val (.int (Int32.ofNat off)), .val (.int (Int32.ofNat len)), .val (.long v), .second] [] := by
  refine Seg.iloadN d1_92 rfl (pc' := 93) rfl ?_
  refine Seg.iconst (v := 5) d1_93 (by decide) (pc' := 94) rfl ?_
  by_cases g1 : 5 < len
  · refine Seg.icN d1_94 (XT.ii_le_f (n32lt (i := 5) g1 (by omega))) (pc' := 97) rfl ?_
    refine Seg.aloadN d1_97 rfl rfl (pc' := 98) rfl ?_
    refine Seg.iloadN d1_98 rfl (pc' := 99) rfl ?_
    refine Seg.iconst (v := 5) d1_99 (by decide) (pc' := 100) rfl ?_
    refine Seg.iadd (v := (Int32.ofNat (off + 5))) d1_100 (n32add _ 5) (pc' := 101) rfl ?_
    refine Seg.bipush (v := 48) d1_101 (by decide) (pc' := 103) rfl ?_
    refine Seg.lloadN d1_103 rfl (pc' := 104) rfl ?_
    refine Seg.iconst (v := 5) d1_104 (by decide) (pc' := 105) rfl ?_
    refine Seg.callS (y' := (⟨"com/example/wardn/wardn/rules/RepetitionOperatorAtPinLaw", "digitOf", "(JI)I"⟩ : MethodName)) (wd G 121 rfl) (wd G 122 rfl) (wd G 3 rfl) (wd G 123 rfl) ⟨by decide, by decide⟩ (Pays.of_ct (W := 3) (ct_dg G v 5 h) all0 (wd G 123 rfl) (wd G 3 rfl) (by decide) (by decide) rfl rfl) (argsL := [(.long v), (.int (5 : Int32))]) (rest := [(.int (48 : Int32)), (.int (Int32.ofNat (off + 5))), (.ref p)]) rfl (lenOf pd_10 rfl) rfl (Nat.le_of_eq rfl) rfl d1_105 (pc' := 108) rfl (k' := 0) (n' := 0) rfl rfl (by decide) (by decide) ?_
    intro v_1 h_4 sz_2 q_3
    obtain ⟨rfl, rfl⟩ := q_3
    refine Seg.iadd (v := (dch v 5)) d1_108 (dch_eq v 5 rfl) (pc' := 109) rfl ?_
    refine Seg.i2c (v := (dch v 5)) d1_109 (nar255 (dch_r v 5)) (pc' := 110) rfl ?_
    refine Seg.castore (v' := dch v 5) (i := off + 5) A (n32in (n := 27) (by omega) (by decide)) (n32c (by omega)) (by rw [List.length_map]; omega) (nar255 (dch_r v 5)) (List.mem_of_getElem? (i := 0) rfl) d1_110 (pc' := 111) rfl ?_
    intro h1 W1 A1
    rw [← List.map_set] at A1
    exact Seg.post (fun v' h' q => by rw [filF, if_pos g1]; exact q) (fd_6 G hh p kp off len v (cs.set (off + 5) (dch v 5)) h1 (K.wr W1 (Or.inl (List.mem_of_getElem? (i := 0) rfl))) A1 (by rw [List.length_set]; exact hl) ho hlen)
  · refine Seg.icY (pc' := 111) d1_94 (XT.ii_le_t (n32nlt (n := len) (i := 5) (by omega) (by decide))) (by decide) (by decide) ?_
    exact Seg.post (fun v' h' q => by rw [filF, if_neg g1]; exact q) (fd_6 G hh p kp off len v cs h K A hl ho hlen)
theorem d1_73 : decode method_4_code 73 = .ok (.iload_n 2, 1) := by decide +kernel
theorem d1_74 : decode method_4_code 74 = .ok (.iconst 4, 1) := by decide +kernel
theorem d1_75 : decode method_4_code 75 = .ok (.if_icmp .le 17, 3) := by decide +kernel
theorem d1_78 : decode method_4_code 78 = .ok (.aload_n 0, 1) := by decide +kernel
theorem d1_79 : decode method_4_code 79 = .ok (.iload_n 1, 1) := by decide +kernel
theorem d1_80 : decode method_4_code 80 = .ok (.iconst 4, 1) := by decide +kernel
theorem d1_81 : decode method_4_code 81 = .ok (.iadd, 1) := by decide +kernel
theorem d1_82 : decode method_4_code 82 = .ok (.bipush 48, 2) := by decide +kernel
theorem d1_84 : decode method_4_code 84 = .ok (.lload_n 3, 1) := by decide +kernel
theorem d1_85 : decode method_4_code 85 = .ok (.iconst 4, 1) := by decide +kernel
theorem d1_86 : decode method_4_code 86 = .ok (.invokestatic 25, 3) := by decide +kernel
theorem d1_89 : decode method_4_code 89 = .ok (.iadd, 1) := by decide +kernel
theorem d1_90 : decode method_4_code 90 = .ok (.i2c, 1) := by decide +kernel
theorem d1_91 : decode method_4_code 91 = .ok (.castore, 1) := by decide +kernel
set_option maxRecDepth 65536 in
set_option maxHeartbeats 4000000 in
theorem fd_4 {l : Launch} {Z : State} {a0 : Array Value} (G : Env1 Z a0) (hh : Heap) (p : Addr) (kp : ClassId) (off : Nat) (len : Nat) (v : Int64) (cs : List Int32) (h : Heap) (K : Keep hh h [p]) (A : Arv Z h p kp .char 27 (cs.map Value.int) (.int 0)) (hl : cs.length = 27) (ho : off + len ≤ 27) (hlen : len ≤ 11) :
    Seg l Z a0 EL1 (⟨"com/example/wardn/wardn/rules/RepetitionOperatorAtPinLaw", "fillDigits", "([CIIJ)V"⟩ : MethodName) method_4_code 5 none ({ frames := 1, cells := 0, slots := 0, locals := 40 } : Room) (fun v' h' => v' = none ∧ Keep hh h' [p] ∧ Arv Z h' p kp .char 27 ((filF v off len 7 4 cs).map Value.int) (.int 0)) h 0 0 [p] 73 #[.val (.ref p), .val (.int (Int32.ofNat off)), .val (.int (Int32.ofNat len)), .val (.long v), .second] [] := by
  refine Seg.iloadN d1_73 rfl (pc' := 74) rfl ?_
  refine Seg.iconst (v := 4) d1_74 (by decide) (pc' := 75) rfl ?_
  by_cases g1 : 4 < len
  · refine Seg.icN d1_75 (XT.ii_le_f (n32lt (i := 4) g1 (by omega))) (pc' := 78) rfl ?_
    refine Seg.aloadN d1_78 rfl rfl (pc' := 79) rfl ?_
    refine Seg.iloadN d1_79 rfl (pc' := 80) rfl ?_
    refine Seg.iconst (v := 4) d1_80 (by decide) (pc' := 81) rfl ?_
    refine Seg.iadd (v := (Int32.ofNat (off + 4))) d1_81 (n32add _ 4) (pc' := 82) rfl ?_
    refine Seg.bipush (v := 48) d1_82 (by decide) (pc' := 84) rfl ?_
    refine Seg.lloadN d1_84 rfl (pc' := 85) rfl ?_
    refine Seg.iconst (v := 4) d1_85 (by decide) (pc' := 86) rfl ?_
    refine Seg.callS (y' := (⟨"com/example/wardn/wardn/rules/RepetitionOperatorAtPinLaw", "digitOf", "(JI)I"⟩ : MethodName)) (wd G 121 rfl) (wd G 122 rfl) (wd G 3 rfl) (wd G 123 rfl) ⟨by decide, by decide⟩ (Pays.of_ct (W := 3) (ct_dg G v 4 h) all0 (wd G 123 rfl) (wd G 3 rfl) (by decide) (by decide) rfl rfl) (argsL := [(.long v), (.int (4 : Int32))]) (rest := [(.int (48 : Int32)), (.int (Int32.ofNat (off + 4))), (.ref p)]) rfl (lenOf pd_10 rfl) rfl (Nat.le_of_eq rfl) rfl d1_86 (pc' := 89) rfl (k' := 0) (n' := 0) rfl rfl (by decide) (by decide) ?_
    intro v_1 h_4 sz_2 q_3
    obtain ⟨rfl, rfl⟩ := q_3
    refine Seg.iadd (v := (dch v 4)) d1_89 (dch_eq v 4 rfl) (pc' := 90) rfl ?_
    refine Seg.i2c (v := (dch v 4)) d1_90 (nar255 (dch_r v 4)) (pc' := 91) rfl ?_
    refine Seg.castore (v' := dch v 4) (i := off + 4) A (n32in (n := 27) (by omega) (by decide)) (n32c (by omega)) (by rw [List.length_map]; omega) (nar255 (dch_r v 4)) (List.mem_of_getElem? (i := 0) rfl) d1_91 (pc' := 92) rfl ?_
    intro h1 W1 A1
    rw [← List.map_set] at A1
    exact Seg.post (fun v' h' q => by rw [filF, if_pos g1]; exact q) (fd_5 G hh p kp off len v (cs.set (off + 4) (dch v 4)) h1 (K.wr W1 (Or.inl (List.mem_of_getElem? (i := 0) rfl))) A1 (by rw [List.length_set]; exact hl) ho hlen)
  · refine Seg.icY (pc' := 92) d1_75 (XT.ii_le_t (n32nlt (n := len) (i := 4) (by omega) (by decide))) (by decide) (by decide) ?_
    exact Seg.post (fun v' h' q => by rw [filF, if_neg g1]; exact q) (fd_5 G hh p kp off len v cs h K A hl ho hlen)
theorem d1_54 : decode method_4_code 54 = .ok (.iload_n 2, 1) := by decide +kernel
theorem d1_55 : decode method_4_code 55 = .ok (.iconst 3, 1) := by decide +kernel
theorem d1_56 : decode method_4_code 56 = .ok (.if_icmp .le 17, 3) := by decide +kernel
theorem d1_59 : decode method_4_code 59 = .ok (.aload_n 0, 1) := by decide +kernel
theorem d1_60 : decode method_4_code 60 = .ok (.iload_n 1, 1) := by decide +kernel
theorem d1_61 : decode method_4_code 61 = .ok (.iconst 3, 1) := by decide +kernel
theorem d1_62 : decode method_4_code 62 = .ok (.iadd, 1) := by decide +kernel
theorem d1_63 : decode method_4_code 63 = .ok (.bipush 48, 2) := by decide +kernel
theorem d1_65 : decode method_4_code 65 = .ok (.lload_n 3, 1) := by decide +kernel
theorem d1_66 : decode method_4_code 66 = .ok (.iconst 3, 1) := by decide +kernel
theorem d1_67 : decode method_4_code 67 = .ok (.invokestatic 25, 3) := by decide +kernel
theorem d1_70 : decode method_4_code 70 = .ok (.iadd, 1) := by decide +kernel
theorem d1_71 : decode method_4_code 71 = .ok (.i2c, 1) := by decide +kernel
theorem d1_72 : decode method_4_code 72 = .ok (.castore, 1) := by decide +kernel
set_option maxRecDepth 65536 in
set_option maxHeartbeats 4000000 in
theorem fd_3 {l : Launch} {Z : State} {a0 : Array Value} (G : Env1 Z a0) (hh : Heap) (p : Addr) (kp : ClassId) (off : Nat) (len : Nat) (v : Int64) (cs : List Int32) (h : Heap) (K : Keep hh h [p]) (A : Arv Z h p kp .char 27 (cs.map Value.int) (.int 0)) (hl : cs.length = 27) (ho : off + len ≤ 27) (hlen : len ≤ 11) :
    Seg l Z a0 EL1 (⟨"com/example/wardn/wardn/rules/RepetitionOperatorAtPinLaw", "fillDigits", "([CIIJ)V"⟩ : MethodName) method_4_code 5 none ({ frames := 1, cells := 0, slots := 0, locals := 40 } : Room) (fun v' h' => v' = none ∧ Keep hh h' [p] ∧ Arv Z h' p kp .char 27 ((filF v off len 8 3 cs).map Value.int) (.int 0)) h 0 0 [p] 54 #[.val (.ref p), .val (.int (Int32.ofNat off)), .val (.int (Int32.ofNat len)), .val (.long v), .second] [] := by
  refine Seg.iloadN d1_54 rfl (pc' := 55) rfl ?_
  refine Seg.iconst (v := 3) d1_55 (by decide) (pc' := 56) rfl ?_
  by_cases g1 : 3 < len
  · refine Seg.icN d1_56 (XT.ii_le_f (n32lt (i := 3) g1 (by omega))) (pc' := 59) rfl ?_
    refine Seg.aloadN d1_59 rfl rfl (pc' := 60) rfl ?_
    refine Seg.iloadN d1_60 rfl (pc' := 61) rfl ?_
    refine Seg.iconst (v := 3) d1_61 (by decide) (pc' := 62) rfl ?_
    refine Seg.iadd (v := (Int32.ofNat (off + 3))) d1_62 (n32add _ 3) (pc' := 63) rfl ?_
    refine Seg.bipush (v := 48) d1_63 (by decide) (pc' := 65) rfl ?_
    refine Seg.lloadN d1_65 rfl (pc' := 66) rfl ?_
    refine Seg.iconst (v := 3) d1_66 (by decide) (pc' := 67) rfl ?_
    refine Seg.callS (y' := (⟨"com/example/wardn/wardn/rules/RepetitionOperatorAtPinLaw", "digitOf", "(JI)I"⟩ : MethodName)) (wd G 121 rfl) (wd G 122 rfl) (wd G 3 rfl) (wd G 123 rfl) ⟨by decide, by decide⟩ (Pays.of_ct (W := 3) (ct_dg G v 3 h) all0 (wd G 123 rfl) (wd G 3 rfl) (by decide) (by decide) rfl rfl) (argsL := [(.long v), (.int (3 : Int32))]) (rest := [(.int (48 : Int32)), (.int (Int32.ofNat (off + 3))), (.ref p)]) rfl (lenOf pd_10 rfl) rfl (Nat.le_of_eq rfl) rfl d1_67 (pc' := 70) rfl (k' := 0) (n' := 0) rfl rfl (by decide) (by decide) ?_
    intro v_1 h_4 sz_2 q_3
    obtain ⟨rfl, rfl⟩ := q_3
    refine Seg.iadd (v := (dch v 3)) d1_70 (dch_eq v 3 rfl) (pc' := 71) rfl ?_
    refine Seg.i2c (v := (dch v 3)) d1_71 (nar255 (dch_r v 3)) (pc' := 72) rfl ?_
    refine Seg.castore (v' := dch v 3) (i := off + 3) A (n32in (n := 27) (by omega) (by decide)) (n32c (by omega)) (by rw [List.length_map]; omega) (nar255 (dch_r v 3)) (List.mem_of_getElem? (i := 0) rfl) d1_72 (pc' := 73) rfl ?_
    intro h1 W1 A1
    rw [← List.map_set] at A1
    exact Seg.post (fun v' h' q => by rw [filF, if_pos g1]; exact q) (fd_4 G hh p kp off len v (cs.set (off + 3) (dch v 3)) h1 (K.wr W1 (Or.inl (List.mem_of_getElem? (i := 0) rfl))) A1 (by rw [List.length_set]; exact hl) ho hlen)
  · refine Seg.icY (pc' := 73) d1_56 (XT.ii_le_t (n32nlt (n := len) (i := 3) (by omega) (by decide))) (by decide) (by decide) ?_
    exact Seg.post (fun v' h' q => by rw [filF, if_neg g1]; exact q) (fd_4 G hh p kp off len v cs h K A hl ho hlen)
theorem d1_35 : decode method_4_code 35 = .ok (.iload_n 2, 1) := by decide +kernel
theorem d1_36 : decode method_4_code 36 = .ok (.iconst 2, 1) := by decide +kernel
theorem d1_37 : decode method_4_code 37 = .ok (.if_icmp .le 17, 3) := by decide +kernel
theorem d1_40 : decode method_4_code 40 = .ok (.aload_n 0, 1) := by decide +kernel
theorem d1_41 : decode method_4_code 41 = .ok (.iload_n 1, 1) := by decide +kernel
theorem d1_42 : decode method_4_code 42 = .ok (.iconst 2, 1) := by decide +kernel
theorem d1_43 : decode method_4_code 43 = .ok (.iadd, 1) := by decide +kernel
theorem d1_44 : decode method_4_code 44 = .ok (.bipush 48, 2) := by decide +kernel
theorem d1_46 : decode method_4_code 46 = .ok (.lload_n 3, 1) := by decide +kernel
theorem d1_47 : decode method_4_code 47 = .ok (.iconst 2, 1) := by decide +kernel
theorem d1_48 : decode method_4_code 48 = .ok (.invokestatic 25, 3) := by decide +kernel
theorem d1_51 : decode method_4_code 51 = .ok (.iadd, 1) := by decide +kernel
theorem d1_52 : decode method_4_code 52 = .ok (.i2c, 1) := by decide +kernel
theorem d1_53 : decode method_4_code 53 = .ok (.castore, 1) := by decide +kernel
set_option maxRecDepth 65536 in
set_option maxHeartbeats 4000000 in
theorem fd_2 {l : Launch} {Z : State} {a0 : Array Value} (G : Env1 Z a0) (hh : Heap) (p : Addr) (kp : ClassId) (off : Nat) (len : Nat) (v : Int64) (cs : List Int32) (h : Heap) (K : Keep hh h [p]) (A : Arv Z h p kp .char 27 (cs.map Value.int) (.int 0)) (hl : cs.length = 27) (ho : off + len ≤ 27) (hlen : len ≤ 11) :
    Seg l Z a0 EL1 (⟨"com/example/wardn/wardn/rules/RepetitionOperatorAtPinLaw", "fillDigits", "([CIIJ)V"⟩ : MethodName) method_4_code 5 none ({ frames := 1, cells := 0, slots := 0, locals := 40 } : Room) (fun v' h' => v' = none ∧ Keep hh h' [p] ∧ Arv Z h' p kp .char 27 ((filF v off len 9 2 cs).map Value.int) (.int 0)) h 0 0 [p] 35 #[.val (.ref p), .val (.int (Int32.ofNat off)), .val (.int (Int32.ofNat len)), .val (.long v), .second] [] := by
  refine Seg.iloadN d1_35 rfl (pc' := 36) rfl ?_
  refine Seg.iconst (v := 2) d1_36 (by decide) (pc' := 37) rfl ?_
  by_cases g1 : 2 < len
  · refine Seg.icN d1_37 (XT.ii_le_f (n32lt (i := 2) g1 (by omega))) (pc' := 40) rfl ?_
    refine Seg.aloadN d1_40 rfl rfl (pc' := 41) rfl ?_
    refine Seg.iloadN d1_41 rfl (pc' := 42) rfl ?_
    refine Seg.iconst (v := 2) d1_42 (by decide) (pc' := 43) rfl ?_
    refine Seg.iadd (v := (Int32.ofNat (off + 2))) d1_43 (n32add _ 2) (pc' := 44) rfl ?_
    refine Seg.bipush (v := 48) d1_44 (by decide) (pc' := 46) rfl ?_
    refine Seg.lloadN d1_46 rfl (pc' := 47) rfl ?_
    refine Seg.iconst (v := 2) d1_47 (by decide) (pc' := 48) rfl ?_
    refine Seg.callS (y' := (⟨"com/example/wardn/wardn/rules/RepetitionOperatorAtPinLaw", "digitOf", "(JI)I"⟩ : MethodName)) (wd G 121 rfl) (wd G 122 rfl) (wd G 3 rfl) (wd G 123 rfl) ⟨by decide, by decide⟩ (Pays.of_ct (W := 3) (ct_dg G v 2 h) all0 (wd G 123 rfl) (wd G 3 rfl) (by decide) (by decide) rfl rfl) (argsL := [(.long v), (.int (2 : Int32))]) (rest := [(.int (48 : Int32)), (.int (Int32.ofNat (off + 2))), (.ref p)]) rfl (lenOf pd_10 rfl) rfl (Nat.le_of_eq rfl) rfl d1_48 (pc' := 51) rfl (k' := 0) (n' := 0) rfl rfl (by decide) (by decide) ?_
    intro v_1 h_4 sz_2 q_3
    obtain ⟨rfl, rfl⟩ := q_3
    refine Seg.iadd (v := (dch v 2)) d1_51 (dch_eq v 2 rfl) (pc' := 52) rfl ?_
    refine Seg.i2c (v := (dch v 2)) d1_52 (nar255 (dch_r v 2)) (pc' := 53) rfl ?_
    refine Seg.castore (v' := dch v 2) (i := off + 2) A (n32in (n := 27) (by omega) (by decide)) (n32c (by omega)) (by rw [List.length_map]; omega) (nar255 (dch_r v 2)) (List.mem_of_getElem? (i := 0) rfl) d1_53 (pc' := 54) rfl ?_
    intro h1 W1 A1
    rw [← List.map_set] at A1
    exact Seg.post (fun v' h' q => by rw [filF, if_pos g1]; exact q) (fd_3 G hh p kp off len v (cs.set (off + 2) (dch v 2)) h1 (K.wr W1 (Or.inl (List.mem_of_getElem? (i := 0) rfl))) A1 (by rw [List.length_set]; exact hl) ho hlen)
  · refine Seg.icY (pc' := 54) d1_37 (XT.ii_le_t (n32nlt (n := len) (i := 2) (by omega) (by decide))) (by decide) (by decide) ?_
    exact Seg.post (fun v' h' q => by rw [filF, if_neg g1]; exact q) (fd_3 G hh p kp off len v cs h K A hl ho hlen)
theorem d1_16 : decode method_4_code 16 = .ok (.iload_n 2, 1) := by decide +kernel
theorem d1_17 : decode method_4_code 17 = .ok (.iconst 1, 1) := by decide +kernel
theorem d1_18 : decode method_4_code 18 = .ok (.if_icmp .le 17, 3) := by decide +kernel
theorem d1_21 : decode method_4_code 21 = .ok (.aload_n 0, 1) := by decide +kernel
theorem d1_22 : decode method_4_code 22 = .ok (.iload_n 1, 1) := by decide +kernel
theorem d1_23 : decode method_4_code 23 = .ok (.iconst 1, 1) := by decide +kernel
theorem d1_24 : decode method_4_code 24 = .ok (.iadd, 1) := by decide +kernel
theorem d1_25 : decode method_4_code 25 = .ok (.bipush 48, 2) := by decide +kernel
theorem d1_27 : decode method_4_code 27 = .ok (.lload_n 3, 1) := by decide +kernel
theorem d1_28 : decode method_4_code 28 = .ok (.iconst 1, 1) := by decide +kernel
theorem d1_29 : decode method_4_code 29 = .ok (.invokestatic 25, 3) := by decide +kernel
theorem d1_32 : decode method_4_code 32 = .ok (.iadd, 1) := by decide +kernel
theorem d1_33 : decode method_4_code 33 = .ok (.i2c, 1) := by decide +kernel
theorem d1_34 : decode method_4_code 34 = .ok (.castore, 1) := by decide +kernel
set_option maxRecDepth 65536 in
set_option maxHeartbeats 4000000 in
theorem fd_1 {l : Launch} {Z : State} {a0 : Array Value} (G : Env1 Z a0) (hh : Heap) (p : Addr) (kp : ClassId) (off : Nat) (len : Nat) (v : Int64) (cs : List Int32) (h : Heap) (K : Keep hh h [p]) (A : Arv Z h p kp .char 27 (cs.map Value.int) (.int 0)) (hl : cs.length = 27) (ho : off + len ≤ 27) (hlen : len ≤ 11) :
    Seg l Z a0 EL1 (⟨"com/example/wardn/wardn/rules/RepetitionOperatorAtPinLaw", "fillDigits", "([CIIJ)V"⟩ : MethodName) method_4_code 5 none ({ frames := 1, cells := 0, slots := 0, locals := 40 } : Room) (fun v' h' => v' = none ∧ Keep hh h' [p] ∧ Arv Z h' p kp .char 27 ((filF v off len 10 1 cs).map Value.int) (.int 0)) h 0 0 [p] 16 #[.val (.ref p), .val (.int (Int32.ofNat off)), .val (.int (Int32.ofNat len)), .val (.long v), .second] [] := by
  refine Seg.iloadN d1_16 rfl (pc' := 17) rfl ?_
  refine Seg.iconst (v := 1) d1_17 (by decide) (pc' := 18) rfl ?_
  by_cases g1 : 1 < len
  · refine Seg.icN d1_18 (XT.ii_le_f (n32lt (i := 1) g1 (by omega))) (pc' := 21) rfl ?_
    refine Seg.aloadN d1_21 rfl rfl (pc' := 22) rfl ?_
    refine Seg.iloadN d1_22 rfl (pc' := 23) rfl ?_
    refine Seg.iconst (v := 1) d1_23 (by decide) (pc' := 24) rfl ?_
    refine Seg.iadd (v := (Int32.ofNat (off + 1))) d1_24 (n32add _ 1) (pc' := 25) rfl ?_
    refine Seg.bipush (v := 48) d1_25 (by decide) (pc' := 27) rfl ?_
    refine Seg.lloadN d1_27 rfl (pc' := 28) rfl ?_
    refine Seg.iconst (v := 1) d1_28 (by decide) (pc' := 29) rfl ?_
    refine Seg.callS (y' := (⟨"com/example/wardn/wardn/rules/RepetitionOperatorAtPinLaw", "digitOf", "(JI)I"⟩ : MethodName)) (wd G 121 rfl) (wd G 122 rfl) (wd G 3 rfl) (wd G 123 rfl) ⟨by decide, by decide⟩ (Pays.of_ct (W := 3) (ct_dg G v 1 h) all0 (wd G 123 rfl) (wd G 3 rfl) (by decide) (by decide) rfl rfl) (argsL := [(.long v), (.int (1 : Int32))]) (rest := [(.int (48 : Int32)), (.int (Int32.ofNat (off + 1))), (.ref p)]) rfl (lenOf pd_10 rfl) rfl (Nat.le_of_eq rfl) rfl d1_29 (pc' := 32) rfl (k' := 0) (n' := 0) rfl rfl (by decide) (by decide) ?_
    intro v_1 h_4 sz_2 q_3
    obtain ⟨rfl, rfl⟩ := q_3
    refine Seg.iadd (v := (dch v 1)) d1_32 (dch_eq v 1 rfl) (pc' := 33) rfl ?_
    refine Seg.i2c (v := (dch v 1)) d1_33 (nar255 (dch_r v 1)) (pc' := 34) rfl ?_
    refine Seg.castore (v' := dch v 1) (i := off + 1) A (n32in (n := 27) (by omega) (by decide)) (n32c (by omega)) (by rw [List.length_map]; omega) (nar255 (dch_r v 1)) (List.mem_of_getElem? (i := 0) rfl) d1_34 (pc' := 35) rfl ?_
    intro h1 W1 A1
    rw [← List.map_set] at A1
    exact Seg.post (fun v' h' q => by rw [filF, if_pos g1]; exact q) (fd_2 G hh p kp off len v (cs.set (off + 1) (dch v 1)) h1 (K.wr W1 (Or.inl (List.mem_of_getElem? (i := 0) rfl))) A1 (by rw [List.length_set]; exact hl) ho hlen)
  · refine Seg.icY (pc' := 35) d1_18 (XT.ii_le_t (n32nlt (n := len) (i := 1) (by omega) (by decide))) (by decide) (by decide) ?_
    exact Seg.post (fun v' h' q => by rw [filF, if_neg g1]; exact q) (fd_2 G hh p kp off len v cs h K A hl ho hlen)
theorem d1_0 : decode method_4_code 0 = .ok (.iload_n 2, 1) := by decide +kernel
theorem d1_1 : decode method_4_code 1 = .ok (.ifCond .le 15, 3) := by decide +kernel
theorem d1_4 : decode method_4_code 4 = .ok (.aload_n 0, 1) := by decide +kernel
theorem d1_5 : decode method_4_code 5 = .ok (.iload_n 1, 1) := by decide +kernel
theorem d1_6 : decode method_4_code 6 = .ok (.bipush 48, 2) := by decide +kernel
theorem d1_8 : decode method_4_code 8 = .ok (.lload_n 3, 1) := by decide +kernel
theorem d1_9 : decode method_4_code 9 = .ok (.iconst 0, 1) := by decide +kernel
theorem d1_10 : decode method_4_code 10 = .ok (.invokestatic 25, 3) := by decide +kernel
theorem d1_13 : decode method_4_code 13 = .ok (.iadd, 1) := by decide +kernel
theorem d1_14 : decode method_4_code 14 = .ok (.i2c, 1) := by decide +kernel
theorem d1_15 : decode method_4_code 15 = .ok (.castore, 1) := by decide +kernel
set_option maxRecDepth 65536 in
set_option maxHeartbeats 4000000 in
theorem fd_0 {l : Launch} {Z : State} {a0 : Array Value} (G : Env1 Z a0) (hh : Heap) (p : Addr) (kp : ClassId) (off : Nat) (len : Nat) (v : Int64) (cs : List Int32) (h : Heap) (K : Keep hh h [p]) (A : Arv Z h p kp .char 27 (cs.map Value.int) (.int 0)) (hl : cs.length = 27) (ho : off + len ≤ 27) (hlen : len ≤ 11) :
    Seg l Z a0 EL1 (⟨"com/example/wardn/wardn/rules/RepetitionOperatorAtPinLaw", "fillDigits", "([CIIJ)V"⟩ : MethodName) method_4_code 5 none ({ frames := 1, cells := 0, slots := 0, locals := 40 } : Room) (fun v' h' => v' = none ∧ Keep hh h' [p] ∧ Arv Z h' p kp .char 27 ((filF v off len 11 0 cs).map Value.int) (.int 0)) h 0 0 [p] 0 #[.val (.ref p), .val (.int (Int32.ofNat off)), .val (.int (Int32.ofNat len)), .val (.long v), .second] [] := by
  refine Seg.iloadN d1_0 rfl (pc' := 1) rfl ?_
  by_cases g1 : 0 < len
  · refine Seg.ifN d1_1 (XT.i0_le_f (n32lt (i := 0) g1 (by omega))) (pc' := 4) rfl ?_
    refine Seg.aloadN d1_4 rfl rfl (pc' := 5) rfl ?_
    refine Seg.iloadN d1_5 rfl (pc' := 6) rfl ?_
    refine Seg.bipush (v := 48) d1_6 (by decide) (pc' := 8) rfl ?_
    refine Seg.lloadN d1_8 rfl (pc' := 9) rfl ?_
    refine Seg.iconst (v := 0) d1_9 (by decide) (pc' := 10) rfl ?_
    refine Seg.callS (y' := (⟨"com/example/wardn/wardn/rules/RepetitionOperatorAtPinLaw", "digitOf", "(JI)I"⟩ : MethodName)) (wd G 121 rfl) (wd G 122 rfl) (wd G 3 rfl) (wd G 123 rfl) ⟨by decide, by decide⟩ (Pays.of_ct (W := 3) (ct_dg G v 0 h) all0 (wd G 123 rfl) (wd G 3 rfl) (by decide) (by decide) rfl rfl) (argsL := [(.long v), (.int (0 : Int32))]) (rest := [(.int (48 : Int32)), (.int (Int32.ofNat off)), (.ref p)]) rfl (lenOf pd_10 rfl) rfl (Nat.le_of_eq rfl) rfl d1_10 (pc' := 13) rfl (k' := 0) (n' := 0) rfl rfl (by decide) (by decide) ?_
    intro v_1 h_4 sz_2 q_3
    obtain ⟨rfl, rfl⟩ := q_3
    refine Seg.iadd (v := (dch v 0)) d1_13 (dch_eq v 0 rfl) (pc' := 14) rfl ?_
    refine Seg.i2c (v := (dch v 0)) d1_14 (nar255 (dch_r v 0)) (pc' := 15) rfl ?_
    refine Seg.castore (v' := dch v 0) (i := off + 0) A (n32in (n := 27) (by omega) (by decide)) (n32c (by omega)) (by rw [List.length_map]; omega) (nar255 (dch_r v 0)) (List.mem_of_getElem? (i := 0) rfl) d1_15 (pc' := 16) rfl ?_
    intro h1 W1 A1
    rw [← List.map_set] at A1
    exact Seg.post (fun v' h' q => by rw [filF, if_pos g1]; exact q) (fd_1 G hh p kp off len v (cs.set (off + 0) (dch v 0)) h1 (K.wr W1 (Or.inl (List.mem_of_getElem? (i := 0) rfl))) A1 (by rw [List.length_set]; exact hl) ho hlen)
  · refine Seg.ifY (pc' := 16) d1_1 (XT.i0_le_t (n32nlt (n := len) (i := 0) (by omega) (by decide))) (by decide) (by decide) ?_
    exact Seg.post (fun v' h' q => by rw [filF, if_neg g1]; exact q) (fd_1 G hh p kp off len v cs h K A hl ho hlen)
theorem ef_ct_fd (p : Addr) (kp : ClassId) (off : Nat) (len : Nat) (v : Int64) (cs : List Int32) (m : MethodId) : entryFrame m #[(.ref p), (.int (Int32.ofNat off)), (.int (Int32.ofNat len)), (.long v)] 5 = mkF m 0 #[.val (.ref p), .val (.int (Int32.ofNat off)), .val (.int (Int32.ofNat len)), .val (.long v), .second] [] := by first | (simp [entryFrame, mkF, argsToLocals, Value.category]; done) | rfl
set_option maxRecDepth 65536 in
set_option maxHeartbeats 4000000 in
theorem ct_fd {l : Launch} {Z : State} {a0 : Array Value} (G : Env1 Z a0) (p : Addr) (kp : ClassId) (off : Nat) (len : Nat) (v : Int64) (cs : List Int32) (h0 : Heap) (A : Arv Z h0 p kp .char 27 (cs.map Value.int) (.int 0)) (hl : cs.length = 27) (ho : off + len ≤ 27) (hlen : len ≤ 11) :
    Ct l Z EL1 [p] [] (⟨"com/example/wardn/wardn/rules/RepetitionOperatorAtPinLaw", "fillDigits", "([CIIJ)V"⟩ : MethodName) method_4_code 5 none ({ frames := 1, cells := 0, slots := 0, locals := 40 } : Room) #[(.ref p), (.int (Int32.ofNat off)), (.int (Int32.ofNat len)), (.long v)] h0 (fun v' h' => v' = none ∧ Keep h0 h' [p] ∧ Arv Z h' p kp .char 27 ((filF v off len 11 0 cs).map Value.int) (.int 0)) := by
  refine Ct.of_seg (a0 := a0) (plainFor_of_name pn_com_example_wardn_wardn_rules_RepetitionOperatorAtPinLaw) G.2.1 (ef_ct_fd p kp off len v cs) ?_
  exact fd_0 G h0 p kp off len v cs h0 (Keep.refl _ _) A hl ho hlen
theorem d30_203 : decode method_5_code 203 = .ok (.lload_n 3, 1) := by decide +kernel
theorem d30_204 : decode method_5_code 204 = .ok (.ldc2_w 58, 3) := by decide +kernel
theorem d30_207 : decode method_5_code 207 = .ok (.invokestatic 60, 3) := by decide +kernel
theorem d30_210 : decode method_5_code 210 = .ok (.l2i, 1) := by decide +kernel
theorem d30_211 : decode method_5_code 211 = .ok (.ireturn, 1) := by decide +kernel
set_option maxRecDepth 65536 in
set_option maxHeartbeats 4000000 in
theorem vl_11 {l : Launch} {Z : State} {a0 : Array Value} (G : Env1 Z a0) (len : Nat) (v : Int64) (x : Int64) (h0 : Heap) (hlen : len ≤ 11) :
    Seg l Z a0 EL1 (⟨"com/example/wardn/wardn/rules/RepetitionOperatorAtPinLaw", "value", "(JI)I"⟩ : MethodName) method_5_code 5 (some .int) ({ frames := 1, cells := 0, slots := 0, locals := 60 } : Room) (fun v' h' => v' = some (.int (mn64 (vlF v len 0 11 x)).toInt32) ∧ h0 = h') h0 0 0 [] 203 #[.val (.long v), .second, .val (.int (Int32.ofNat len)), .val (.long x), .second] [] := by
  refine Seg.lloadN d30_203 rfl (pc' := 204) rfl ?_
  refine Seg.ldc2J (wd G 148 rfl) d30_204 (pc' := 207) rfl ?_
  refine Seg.callS (y' := (⟨"java/lang/Math", "min", "(JJ)J"⟩ : MethodName)) (wd G 149 rfl) (wd G 142 rfl) (wd G 143 rfl) (wd G 144 rfl) ⟨by decide, by decide⟩ (Pays.of_ct (W := 0) (ct_minL G x h0) all0 (wd G 144 rfl) (wd G 143 rfl) (by decide) (by decide) rfl rfl) (argsL := [(.long x), (.long (2147483647 : Int64))]) (rest := []) rfl (lenOf pd_4 rfl) rfl (Nat.le_of_eq rfl) rfl d30_207 (pc' := 210) rfl (k' := 0) (n' := 0) rfl rfl (by decide) (by decide) ?_
  intro v_1 h_4 sz_2 q_3
  obtain ⟨rfl, rfl⟩ := q_3
  refine Seg.l2i (v := ((mn64 x)).toInt32) d30_210 rfl (pc' := 211) rfl ?_
  exact Seg.retI rfl d30_211 (by decide) (by decide) ⟨rfl, rfl⟩
theorem d30_183 : decode method_5_code 183 = .ok (.iload_n 2, 1) := by decide +kernel
theorem d30_184 : decode method_5_code 184 = .ok (.bipush 10, 2) := by decide +kernel
theorem d30_186 : decode method_5_code 186 = .ok (.if_icmp .le 17, 3) := by decide +kernel
theorem d30_189 : decode method_5_code 189 = .ok (.lload_n 3, 1) := by decide +kernel
theorem d30_190 : decode method_5_code 190 = .ok (.ldc2_w 54, 3) := by decide +kernel
theorem d30_193 : decode method_5_code 193 = .ok (.lmul, 1) := by decide +kernel
theorem d30_194 : decode method_5_code 194 = .ok (.lload_n 0, 1) := by decide +kernel
theorem d30_195 : decode method_5_code 195 = .ok (.bipush 10, 2) := by decide +kernel
theorem d30_197 : decode method_5_code 197 = .ok (.invokestatic 25, 3) := by decide +kernel
theorem d30_200 : decode method_5_code 200 = .ok (.i2l, 1) := by decide +kernel
theorem d30_201 : decode method_5_code 201 = .ok (.ladd, 1) := by decide +kernel
theorem d30_202 : decode method_5_code 202 = .ok (.lstore_n 3, 1) := by decide +kernel
set_option maxRecDepth 65536 in
set_option maxHeartbeats 4000000 in
theorem vl_10 {l : Launch} {Z : State} {a0 : Array Value} (G : Env1 Z a0) (len : Nat) (v : Int64) (x : Int64) (h0 : Heap) (hlen : len ≤ 11) :
    Seg l Z a0 EL1 (⟨"com/example/wardn/wardn/rules/RepetitionOperatorAtPinLaw", "value", "(JI)I"⟩ : MethodName) method_5_code 5 (some .int) ({ frames := 1, cells := 0, slots := 0, locals := 60 } : Room) (fun v' h' => v' = some (.int (mn64 (vlF v len 1 10 x)).toInt32) ∧ h0 = h') h0 0 0 [] 183 #[.val (.long v), .second, .val (.int (Int32.ofNat len)), .val (.long x), .second] [] := by
  refine Seg.iloadN d30_183 rfl (pc' := 184) rfl ?_
  refine Seg.bipush (v := 10) d30_184 (by decide) (pc' := 186) rfl ?_
  by_cases g1 : 10 < len
  · refine Seg.icN d30_186 (XT.ii_le_f (n32lt (i := 10) g1 (by omega))) (pc' := 189) rfl ?_
    refine Seg.lloadN d30_189 rfl (pc' := 190) rfl ?_
    refine Seg.ldc2J (wd G 125 rfl) d30_190 (pc' := 193) rfl ?_
    refine Seg.lmul (v := (x * (10 : Int64))) d30_193 rfl (pc' := 194) rfl ?_
    refine Seg.lloadN d30_194 rfl (pc' := 195) rfl ?_
    refine Seg.bipush (v := 10) d30_195 (by decide) (pc' := 197) rfl ?_
    refine Seg.callS (y' := (⟨"com/example/wardn/wardn/rules/RepetitionOperatorAtPinLaw", "digitOf", "(JI)I"⟩ : MethodName)) (wd G 121 rfl) (wd G 122 rfl) (wd G 3 rfl) (wd G 123 rfl) ⟨by decide, by decide⟩ (Pays.of_ct (W := 2) (ct_dg G v 10 h0) all0 (wd G 123 rfl) (wd G 3 rfl) (by decide) (by decide) rfl rfl) (argsL := [(.long v), (.int (10 : Int32))]) (rest := [(.long (x * (10 : Int64)))]) rfl (lenOf pd_10 rfl) rfl (Nat.le_of_eq rfl) rfl d30_197 (pc' := 200) rfl (k' := 0) (n' := 0) rfl rfl (by decide) (by decide) ?_
    intro v_1 h_4 sz_2 q_3
    obtain ⟨rfl, rfl⟩ := q_3
    refine Seg.i2l (v := ((dg v 10)).toInt64) d30_200 rfl (pc' := 201) rfl ?_
    refine Seg.ladd (v := ((x * (10 : Int64)) + ((dg v 10)).toInt64)) d30_201 rfl (pc' := 202) rfl ?_
    refine Seg.lstoreN (L' := #[.val (.long v), .second, .val (.int (Int32.ofNat len)), .val (.long ((x * (10 : Int64)) + ((dg v 10)).toInt64)), .second]) d30_202 rfl (pc' := 203) rfl ?_
    exact Seg.post (fun v' h' q => by rw [vlF, if_pos g1]; exact q) (vl_11 G len v ((x * (10 : Int64)) + (dg v 10).toInt64) h0 hlen)
  · refine Seg.icY (pc' := 203) d30_186 (XT.ii_le_t (n32nlt (n := len) (i := 10) (by omega) (by decide))) (by decide) (by decide) ?_
    exact Seg.post (fun v' h' q => by rw [vlF, if_neg g1]; exact q) (vl_11 G len v x h0 hlen)
theorem d30_163 : decode method_5_code 163 = .ok (.iload_n 2, 1) := by decide +kernel
theorem d30_164 : decode method_5_code 164 = .ok (.bipush 9, 2) := by decide +kernel
theorem d30_166 : decode method_5_code 166 = .ok (.if_icmp .le 17, 3) := by decide +kernel
theorem d30_169 : decode method_5_code 169 = .ok (.lload_n 3, 1) := by decide +kernel
theorem d30_170 : decode method_5_code 170 = .ok (.ldc2_w 54, 3) := by decide +kernel
theorem d30_173 : decode method_5_code 173 = .ok (.lmul, 1) := by decide +kernel
theorem d30_174 : decode method_5_code 174 = .ok (.lload_n 0, 1) := by decide +kernel
theorem d30_175 : decode method_5_code 175 = .ok (.bipush 9, 2) := by decide +kernel
theorem d30_177 : decode method_5_code 177 = .ok (.invokestatic 25, 3) := by decide +kernel
theorem d30_180 : decode method_5_code 180 = .ok (.i2l, 1) := by decide +kernel
theorem d30_181 : decode method_5_code 181 = .ok (.ladd, 1) := by decide +kernel
theorem d30_182 : decode method_5_code 182 = .ok (.lstore_n 3, 1) := by decide +kernel
set_option maxRecDepth 65536 in
set_option maxHeartbeats 4000000 in
theorem vl_9 {l : Launch} {Z : State} {a0 : Array Value} (G : Env1 Z a0) (len : Nat) (v : Int64) (x : Int64) (h0 : Heap) (hlen : len ≤ 11) :
    Seg l Z a0 EL1 (⟨"com/example/wardn/wardn/rules/RepetitionOperatorAtPinLaw", "value", "(JI)I"⟩ : MethodName) method_5_code 5 (some .int) ({ frames := 1, cells := 0, slots := 0, locals := 60 } : Room) (fun v' h' => v' = some (.int (mn64 (vlF v len 2 9 x)).toInt32) ∧ h0 = h') h0 0 0 [] 163 #[.val (.long v), .second, .val (.int (Int32.ofNat len)), .val (.long x), .second] [] := by
  refine Seg.iloadN d30_163 rfl (pc' := 164) rfl ?_
  refine Seg.bipush (v := 9) d30_164 (by decide) (pc' := 166) rfl ?_
  by_cases g1 : 9 < len
  · refine Seg.icN d30_166 (XT.ii_le_f (n32lt (i := 9) g1 (by omega))) (pc' := 169) rfl ?_
    refine Seg.lloadN d30_169 rfl (pc' := 170) rfl ?_
    refine Seg.ldc2J (wd G 125 rfl) d30_170 (pc' := 173) rfl ?_
    refine Seg.lmul (v := (x * (10 : Int64))) d30_173 rfl (pc' := 174) rfl ?_
    refine Seg.lloadN d30_174 rfl (pc' := 175) rfl ?_
    refine Seg.bipush (v := 9) d30_175 (by decide) (pc' := 177) rfl ?_
    refine Seg.callS (y' := (⟨"com/example/wardn/wardn/rules/RepetitionOperatorAtPinLaw", "digitOf", "(JI)I"⟩ : MethodName)) (wd G 121 rfl) (wd G 122 rfl) (wd G 3 rfl) (wd G 123 rfl) ⟨by decide, by decide⟩ (Pays.of_ct (W := 2) (ct_dg G v 9 h0) all0 (wd G 123 rfl) (wd G 3 rfl) (by decide) (by decide) rfl rfl) (argsL := [(.long v), (.int (9 : Int32))]) (rest := [(.long (x * (10 : Int64)))]) rfl (lenOf pd_10 rfl) rfl (Nat.le_of_eq rfl) rfl d30_177 (pc' := 180) rfl (k' := 0) (n' := 0) rfl rfl (by decide) (by decide) ?_
    intro v_1 h_4 sz_2 q_3
    obtain ⟨rfl, rfl⟩ := q_3
    refine Seg.i2l (v := ((dg v 9)).toInt64) d30_180 rfl (pc' := 181) rfl ?_
    refine Seg.ladd (v := ((x * (10 : Int64)) + ((dg v 9)).toInt64)) d30_181 rfl (pc' := 182) rfl ?_
    refine Seg.lstoreN (L' := #[.val (.long v), .second, .val (.int (Int32.ofNat len)), .val (.long ((x * (10 : Int64)) + ((dg v 9)).toInt64)), .second]) d30_182 rfl (pc' := 183) rfl ?_
    exact Seg.post (fun v' h' q => by rw [vlF, if_pos g1]; exact q) (vl_10 G len v ((x * (10 : Int64)) + (dg v 9).toInt64) h0 hlen)
  · refine Seg.icY (pc' := 183) d30_166 (XT.ii_le_t (n32nlt (n := len) (i := 9) (by omega) (by decide))) (by decide) (by decide) ?_
    exact Seg.post (fun v' h' q => by rw [vlF, if_neg g1]; exact q) (vl_10 G len v x h0 hlen)
theorem d30_143 : decode method_5_code 143 = .ok (.iload_n 2, 1) := by decide +kernel
theorem d30_144 : decode method_5_code 144 = .ok (.bipush 8, 2) := by decide +kernel
theorem d30_146 : decode method_5_code 146 = .ok (.if_icmp .le 17, 3) := by decide +kernel
theorem d30_149 : decode method_5_code 149 = .ok (.lload_n 3, 1) := by decide +kernel
theorem d30_150 : decode method_5_code 150 = .ok (.ldc2_w 54, 3) := by decide +kernel
theorem d30_153 : decode method_5_code 153 = .ok (.lmul, 1) := by decide +kernel
theorem d30_154 : decode method_5_code 154 = .ok (.lload_n 0, 1) := by decide +kernel
theorem d30_155 : decode method_5_code 155 = .ok (.bipush 8, 2) := by decide +kernel
theorem d30_157 : decode method_5_code 157 = .ok (.invokestatic 25, 3) := by decide +kernel
theorem d30_160 : decode method_5_code 160 = .ok (.i2l, 1) := by decide +kernel
theorem d30_161 : decode method_5_code 161 = .ok (.ladd, 1) := by decide +kernel
theorem d30_162 : decode method_5_code 162 = .ok (.lstore_n 3, 1) := by decide +kernel
set_option maxRecDepth 65536 in
set_option maxHeartbeats 4000000 in
theorem vl_8 {l : Launch} {Z : State} {a0 : Array Value} (G : Env1 Z a0) (len : Nat) (v : Int64) (x : Int64) (h0 : Heap) (hlen : len ≤ 11) :
    Seg l Z a0 EL1 (⟨"com/example/wardn/wardn/rules/RepetitionOperatorAtPinLaw", "value", "(JI)I"⟩ : MethodName) method_5_code 5 (some .int) ({ frames := 1, cells := 0, slots := 0, locals := 60 } : Room) (fun v' h' => v' = some (.int (mn64 (vlF v len 3 8 x)).toInt32) ∧ h0 = h') h0 0 0 [] 143 #[.val (.long v), .second, .val (.int (Int32.ofNat len)), .val (.long x), .second] [] := by
  refine Seg.iloadN d30_143 rfl (pc' := 144) rfl ?_
  refine Seg.bipush (v := 8) d30_144 (by decide) (pc' := 146) rfl ?_
  by_cases g1 : 8 < len
  · refine Seg.icN d30_146 (XT.ii_le_f (n32lt (i := 8) g1 (by omega))) (pc' := 149) rfl ?_
    refine Seg.lloadN d30_149 rfl (pc' := 150) rfl ?_
    refine Seg.ldc2J (wd G 125 rfl) d30_150 (pc' := 153) rfl ?_
    refine Seg.lmul (v := (x * (10 : Int64))) d30_153 rfl (pc' := 154) rfl ?_
    refine Seg.lloadN d30_154 rfl (pc' := 155) rfl ?_
    refine Seg.bipush (v := 8) d30_155 (by decide) (pc' := 157) rfl ?_
    refine Seg.callS (y' := (⟨"com/example/wardn/wardn/rules/RepetitionOperatorAtPinLaw", "digitOf", "(JI)I"⟩ : MethodName)) (wd G 121 rfl) (wd G 122 rfl) (wd G 3 rfl) (wd G 123 rfl) ⟨by decide, by decide⟩ (Pays.of_ct (W := 2) (ct_dg G v 8 h0) all0 (wd G 123 rfl) (wd G 3 rfl) (by decide) (by decide) rfl rfl) (argsL := [(.long v), (.int (8 : Int32))]) (rest := [(.long (x * (10 : Int64)))]) rfl (lenOf pd_10 rfl) rfl (Nat.le_of_eq rfl) rfl d30_157 (pc' := 160) rfl (k' := 0) (n' := 0) rfl rfl (by decide) (by decide) ?_
    intro v_1 h_4 sz_2 q_3
    obtain ⟨rfl, rfl⟩ := q_3
    refine Seg.i2l (v := ((dg v 8)).toInt64) d30_160 rfl (pc' := 161) rfl ?_
    refine Seg.ladd (v := ((x * (10 : Int64)) + ((dg v 8)).toInt64)) d30_161 rfl (pc' := 162) rfl ?_
    refine Seg.lstoreN (L' := #[.val (.long v), .second, .val (.int (Int32.ofNat len)), .val (.long ((x * (10 : Int64)) + ((dg v 8)).toInt64)), .second]) d30_162 rfl (pc' := 163) rfl ?_
    exact Seg.post (fun v' h' q => by rw [vlF, if_pos g1]; exact q) (vl_9 G len v ((x * (10 : Int64)) + (dg v 8).toInt64) h0 hlen)
  · refine Seg.icY (pc' := 163) d30_146 (XT.ii_le_t (n32nlt (n := len) (i := 8) (by omega) (by decide))) (by decide) (by decide) ?_
    exact Seg.post (fun v' h' q => by rw [vlF, if_neg g1]; exact q) (vl_9 G len v x h0 hlen)
theorem d30_123 : decode method_5_code 123 = .ok (.iload_n 2, 1) := by decide +kernel
theorem d30_124 : decode method_5_code 124 = .ok (.bipush 7, 2) := by decide +kernel
theorem d30_126 : decode method_5_code 126 = .ok (.if_icmp .le 17, 3) := by decide +kernel
theorem d30_129 : decode method_5_code 129 = .ok (.lload_n 3, 1) := by decide +kernel
theorem d30_130 : decode method_5_code 130 = .ok (.ldc2_w 54, 3) := by decide +kernel
theorem d30_133 : decode method_5_code 133 = .ok (.lmul, 1) := by decide +kernel
theorem d30_134 : decode method_5_code 134 = .ok (.lload_n 0, 1) := by decide +kernel
theorem d30_135 : decode method_5_code 135 = .ok (.bipush 7, 2) := by decide +kernel
theorem d30_137 : decode method_5_code 137 = .ok (.invokestatic 25, 3) := by decide +kernel
theorem d30_140 : decode method_5_code 140 = .ok (.i2l, 1) := by decide +kernel
theorem d30_141 : decode method_5_code 141 = .ok (.ladd, 1) := by decide +kernel
theorem d30_142 : decode method_5_code 142 = .ok (.lstore_n 3, 1) := by decide +kernel
set_option maxRecDepth 65536 in
set_option maxHeartbeats 4000000 in
theorem vl_7 {l : Launch} {Z : State} {a0 : Array Value} (G : Env1 Z a0) (len : Nat) (v : Int64) (x : Int64) (h0 : Heap) (hlen : len ≤ 11) :
    Seg l Z a0 EL1 (⟨"com/example/wardn/wardn/rules/RepetitionOperatorAtPinLaw", "value", "(JI)I"⟩ : MethodName) method_5_code 5 (some .int) ({ frames := 1, cells := 0, slots := 0, locals := 60 } : Room) (fun v' h' => v' = some (.int (mn64 (vlF v len 4 7 x)).toInt32) ∧ h0 = h') h0 0 0 [] 123 #[.val (.long v), .second, .val (.int (Int32.ofNat len)), .val (.long x), .second] [] := by
  refine Seg.iloadN d30_123 rfl (pc' := 124) rfl ?_
  refine Seg.bipush (v := 7) d30_124 (by decide) (pc' := 126) rfl ?_
  by_cases g1 : 7 < len
  · refine Seg.icN d30_126 (XT.ii_le_f (n32lt (i := 7) g1 (by omega))) (pc' := 129) rfl ?_
    refine Seg.lloadN d30_129 rfl (pc' := 130) rfl ?_
    refine Seg.ldc2J (wd G 125 rfl) d30_130 (pc' := 133) rfl ?_
    refine Seg.lmul (v := (x * (10 : Int64))) d30_133 rfl (pc' := 134) rfl ?_
    refine Seg.lloadN d30_134 rfl (pc' := 135) rfl ?_
    refine Seg.bipush (v := 7) d30_135 (by decide) (pc' := 137) rfl ?_
    refine Seg.callS (y' := (⟨"com/example/wardn/wardn/rules/RepetitionOperatorAtPinLaw", "digitOf", "(JI)I"⟩ : MethodName)) (wd G 121 rfl) (wd G 122 rfl) (wd G 3 rfl) (wd G 123 rfl) ⟨by decide, by decide⟩ (Pays.of_ct (W := 2) (ct_dg G v 7 h0) all0 (wd G 123 rfl) (wd G 3 rfl) (by decide) (by decide) rfl rfl) (argsL := [(.long v), (.int (7 : Int32))]) (rest := [(.long (x * (10 : Int64)))]) rfl (lenOf pd_10 rfl) rfl (Nat.le_of_eq rfl) rfl d30_137 (pc' := 140) rfl (k' := 0) (n' := 0) rfl rfl (by decide) (by decide) ?_
    intro v_1 h_4 sz_2 q_3
    obtain ⟨rfl, rfl⟩ := q_3
    refine Seg.i2l (v := ((dg v 7)).toInt64) d30_140 rfl (pc' := 141) rfl ?_
    refine Seg.ladd (v := ((x * (10 : Int64)) + ((dg v 7)).toInt64)) d30_141 rfl (pc' := 142) rfl ?_
    refine Seg.lstoreN (L' := #[.val (.long v), .second, .val (.int (Int32.ofNat len)), .val (.long ((x * (10 : Int64)) + ((dg v 7)).toInt64)), .second]) d30_142 rfl (pc' := 143) rfl ?_
    exact Seg.post (fun v' h' q => by rw [vlF, if_pos g1]; exact q) (vl_8 G len v ((x * (10 : Int64)) + (dg v 7).toInt64) h0 hlen)
  · refine Seg.icY (pc' := 143) d30_126 (XT.ii_le_t (n32nlt (n := len) (i := 7) (by omega) (by decide))) (by decide) (by decide) ?_
    exact Seg.post (fun v' h' q => by rw [vlF, if_neg g1]; exact q) (vl_8 G len v x h0 hlen)
theorem d30_103 : decode method_5_code 103 = .ok (.iload_n 2, 1) := by decide +kernel
theorem d30_104 : decode method_5_code 104 = .ok (.bipush 6, 2) := by decide +kernel
theorem d30_106 : decode method_5_code 106 = .ok (.if_icmp .le 17, 3) := by decide +kernel
theorem d30_109 : decode method_5_code 109 = .ok (.lload_n 3, 1) := by decide +kernel
theorem d30_110 : decode method_5_code 110 = .ok (.ldc2_w 54, 3) := by decide +kernel
theorem d30_113 : decode method_5_code 113 = .ok (.lmul, 1) := by decide +kernel
theorem d30_114 : decode method_5_code 114 = .ok (.lload_n 0, 1) := by decide +kernel
theorem d30_115 : decode method_5_code 115 = .ok (.bipush 6, 2) := by decide +kernel
theorem d30_117 : decode method_5_code 117 = .ok (.invokestatic 25, 3) := by decide +kernel
theorem d30_120 : decode method_5_code 120 = .ok (.i2l, 1) := by decide +kernel
theorem d30_121 : decode method_5_code 121 = .ok (.ladd, 1) := by decide +kernel
theorem d30_122 : decode method_5_code 122 = .ok (.lstore_n 3, 1) := by decide +kernel
set_option maxRecDepth 65536 in
set_option maxHeartbeats 4000000 in
theorem vl_6 {l : Launch} {Z : State} {a0 : Array Value} (G : Env1 Z a0) (len : Nat) (v : Int64) (x : Int64) (h0 : Heap) (hlen : len ≤ 11) :
    Seg l Z a0 EL1 (⟨"com/example/wardn/wardn/rules/RepetitionOperatorAtPinLaw", "value", "(JI)I"⟩ : MethodName) method_5_code 5 (some .int) ({ frames := 1, cells := 0, slots := 0, locals := 60 } : Room) (fun v' h' => v' = some (.int (mn64 (vlF v len 5 6 x)).toInt32) ∧ h0 = h') h0 0 0 [] 103 #[.val (.long v), .second, .val (.int (Int32.ofNat len)), .val (.long x), .second] [] := by
  refine Seg.iloadN d30_103 rfl (pc' := 104) rfl ?_
  refine Seg.bipush (v := 6) d30_104 (by decide) (pc' := 106) rfl ?_
  by_cases g1 : 6 < len
  · refine Seg.icN d30_106 (XT.ii_le_f (n32lt (i := 6) g1 (by omega))) (pc' := 109) rfl ?_
    refine Seg.lloadN d30_109 rfl (pc' := 110) rfl ?_
    refine Seg.ldc2J (wd G 125 rfl) d30_110 (pc' := 113) rfl ?_
    refine Seg.lmul (v := (x * (10 : Int64))) d30_113 rfl (pc' := 114) rfl ?_
    refine Seg.lloadN d30_114 rfl (pc' := 115) rfl ?_
    refine Seg.bipush (v := 6) d30_115 (by decide) (pc' := 117) rfl ?_
    refine Seg.callS (y' := (⟨"com/example/wardn/wardn/rules/RepetitionOperatorAtPinLaw", "digitOf", "(JI)I"⟩ : MethodName)) (wd G 121 rfl) (wd G 122 rfl) (wd G 3 rfl) (wd G 123 rfl) ⟨by decide, by decide⟩ (Pays.of_ct (W := 2) (ct_dg G v 6 h0) all0 (wd G 123 rfl) (wd G 3 rfl) (by decide) (by decide) rfl rfl) (argsL := [(.long v), (.int (6 : Int32))]) (rest := [(.long (x * (10 : Int64)))]) rfl (lenOf pd_10 rfl) rfl (Nat.le_of_eq rfl) rfl d30_117 (pc' := 120) rfl (k' := 0) (n' := 0) rfl rfl (by decide) (by decide) ?_
    intro v_1 h_4 sz_2 q_3
    obtain ⟨rfl, rfl⟩ := q_3
    refine Seg.i2l (v := ((dg v 6)).toInt64) d30_120 rfl (pc' := 121) rfl ?_
    refine Seg.ladd (v := ((x * (10 : Int64)) + ((dg v 6)).toInt64)) d30_121 rfl (pc' := 122) rfl ?_
    refine Seg.lstoreN (L' := #[.val (.long v), .second, .val (.int (Int32.ofNat len)), .val (.long ((x * (10 : Int64)) + ((dg v 6)).toInt64)), .second]) d30_122 rfl (pc' := 123) rfl ?_
    exact Seg.post (fun v' h' q => by rw [vlF, if_pos g1]; exact q) (vl_7 G len v ((x * (10 : Int64)) + (dg v 6).toInt64) h0 hlen)
  · refine Seg.icY (pc' := 123) d30_106 (XT.ii_le_t (n32nlt (n := len) (i := 6) (by omega) (by decide))) (by decide) (by decide) ?_
    exact Seg.post (fun v' h' q => by rw [vlF, if_neg g1]; exact q) (vl_7 G len v x h0 hlen)
theorem d30_85 : decode method_5_code 85 = .ok (.iload_n 2, 1) := by decide +kernel
theorem d30_86 : decode method_5_code 86 = .ok (.iconst 5, 1) := by decide +kernel
theorem d30_87 : decode method_5_code 87 = .ok (.if_icmp .le 16, 3) := by decide +kernel
theorem d30_90 : decode method_5_code 90 = .ok (.lload_n 3, 1) := by decide +kernel
theorem d30_91 : decode method_5_code 91 = .ok (.ldc2_w 54, 3) := by decide +kernel
theorem d30_94 : decode method_5_code 94 = .ok (.lmul, 1) := by decide +kernel
theorem d30_95 : decode method_5_code 95 = .ok (.lload_n 0, 1) := by decide +kernel
theorem d30_96 : decode method_5_code 96 = .ok (.iconst 5, 1) := by decide +kernel
theorem d30_97 : decode method_5_code 97 = .ok (.invokestatic 25, 3) := by decide +kernel
theorem d30_100 : decode method_5_code 100 = .ok (.i2l, 1) := by decide +kernel
theorem d30_101 : decode method_5_code 101 = .ok (.ladd, 1) := by decide +kernel
theorem d30_102 : decode method_5_code 102 = .ok (.lstore_n 3, 1) := by decide +kernel
set_option maxRecDepth 65536 in
set_option maxHeartbeats 4000000 in
theorem vl_5 {l : Launch} {Z : State} {a0 : Array Value} (G : Env1 Z a0) (len : Nat) (v : Int64) (x : Int64) (h0 : Heap) (hlen : len ≤ 11) :
    Seg l Z a0 EL1 (⟨"com/example/wardn/wardn/rules/RepetitionOperatorAtPinLaw", "value", "(JI)I"⟩ : MethodName) method_5_code 5 (some .int) ({ frames := 1, cells := 0, slots := 0, locals := 60 } : Room) (fun v' h' => v' = some (.int (mn64 (vlF v len 6 5 x)).toInt32) ∧ h0 = h') h0 0 0 [] 85 #[.val (.long v), .second, .val (.int (Int32.ofNat len)), .val (.long x), .second] [] := by
  refine Seg.iloadN d30_85 rfl (pc' := 86) rfl ?_
  refine Seg.iconst (v := 5) d30_86 (by decide) (pc' := 87) rfl ?_
  by_cases g1 : 5 < len
  · refine Seg.icN d30_87 (XT.ii_le_f (n32lt (i := 5) g1 (by omega))) (pc' := 90) rfl ?_
    refine Seg.lloadN d30_90 rfl (pc' := 91) rfl ?_
    refine Seg.ldc2J (wd G 125 rfl) d30_91 (pc' := 94) rfl ?_
    refine Seg.lmul (v := (x * (10 : Int64))) d30_94 rfl (pc' := 95) rfl ?_
    refine Seg.lloadN d30_95 rfl (pc' := 96) rfl ?_
    refine Seg.iconst (v := 5) d30_96 (by decide) (pc' := 97) rfl ?_
    refine Seg.callS (y' := (⟨"com/example/wardn/wardn/rules/RepetitionOperatorAtPinLaw", "digitOf", "(JI)I"⟩ : MethodName)) (wd G 121 rfl) (wd G 122 rfl) (wd G 3 rfl) (wd G 123 rfl) ⟨by decide, by decide⟩ (Pays.of_ct (W := 2) (ct_dg G v 5 h0) all0 (wd G 123 rfl) (wd G 3 rfl) (by decide) (by decide) rfl rfl) (argsL := [(.long v), (.int (5 : Int32))]) (rest := [(.long (x * (10 : Int64)))]) rfl (lenOf pd_10 rfl) rfl (Nat.le_of_eq rfl) rfl d30_97 (pc' := 100) rfl (k' := 0) (n' := 0) rfl rfl (by decide) (by decide) ?_
    intro v_1 h_4 sz_2 q_3
    obtain ⟨rfl, rfl⟩ := q_3
    refine Seg.i2l (v := ((dg v 5)).toInt64) d30_100 rfl (pc' := 101) rfl ?_
    refine Seg.ladd (v := ((x * (10 : Int64)) + ((dg v 5)).toInt64)) d30_101 rfl (pc' := 102) rfl ?_
    refine Seg.lstoreN (L' := #[.val (.long v), .second, .val (.int (Int32.ofNat len)), .val (.long ((x * (10 : Int64)) + ((dg v 5)).toInt64)), .second]) d30_102 rfl (pc' := 103) rfl ?_
    exact Seg.post (fun v' h' q => by rw [vlF, if_pos g1]; exact q) (vl_6 G len v ((x * (10 : Int64)) + (dg v 5).toInt64) h0 hlen)
  · refine Seg.icY (pc' := 103) d30_87 (XT.ii_le_t (n32nlt (n := len) (i := 5) (by omega) (by decide))) (by decide) (by decide) ?_
    exact Seg.post (fun v' h' q => by rw [vlF, if_neg g1]; exact q) (vl_6 G len v x h0 hlen)
theorem d30_67 : decode method_5_code 67 = .ok (.iload_n 2, 1) := by decide +kernel
theorem d30_68 : decode method_5_code 68 = .ok (.iconst 4, 1) := by decide +kernel
theorem d30_69 : decode method_5_code 69 = .ok (.if_icmp .le 16, 3) := by decide +kernel
theorem d30_72 : decode method_5_code 72 = .ok (.lload_n 3, 1) := by decide +kernel
theorem d30_73 : decode method_5_code 73 = .ok (.ldc2_w 54, 3) := by decide +kernel
theorem d30_76 : decode method_5_code 76 = .ok (.lmul, 1) := by decide +kernel
theorem d30_77 : decode method_5_code 77 = .ok (.lload_n 0, 1) := by decide +kernel
theorem d30_78 : decode method_5_code 78 = .ok (.iconst 4, 1) := by decide +kernel
theorem d30_79 : decode method_5_code 79 = .ok (.invokestatic 25, 3) := by decide +kernel
theorem d30_82 : decode method_5_code 82 = .ok (.i2l, 1) := by decide +kernel
theorem d30_83 : decode method_5_code 83 = .ok (.ladd, 1) := by decide +kernel
theorem d30_84 : decode method_5_code 84 = .ok (.lstore_n 3, 1) := by decide +kernel
set_option maxRecDepth 65536 in
set_option maxHeartbeats 4000000 in
theorem vl_4 {l : Launch} {Z : State} {a0 : Array Value} (G : Env1 Z a0) (len : Nat) (v : Int64) (x : Int64) (h0 : Heap) (hlen : len ≤ 11) :
    Seg l Z a0 EL1 (⟨"com/example/wardn/wardn/rules/RepetitionOperatorAtPinLaw", "value", "(JI)I"⟩ : MethodName) method_5_code 5 (some .int) ({ frames := 1, cells := 0, slots := 0, locals := 60 } : Room) (fun v' h' => v' = some (.int (mn64 (vlF v len 7 4 x)).toInt32) ∧ h0 = h') h0 0 0 [] 67 #[.val (.long v), .second, .val (.int (Int32.ofNat len)), .val (.long x), .second] [] := by
  refine Seg.iloadN d30_67 rfl (pc' := 68) rfl ?_
  refine Seg.iconst (v := 4) d30_68 (by decide) (pc' := 69) rfl ?_
  by_cases g1 : 4 < len
  · refine Seg.icN d30_69 (XT.ii_le_f (n32lt (i := 4) g1 (by omega))) (pc' := 72) rfl ?_
    refine Seg.lloadN d30_72 rfl (pc' := 73) rfl ?_
    refine Seg.ldc2J (wd G 125 rfl) d30_73 (pc' := 76) rfl ?_
    refine Seg.lmul (v := (x * (10 : Int64))) d30_76 rfl (pc' := 77) rfl ?_
    refine Seg.lloadN d30_77 rfl (pc' := 78) rfl ?_
    refine Seg.iconst (v := 4) d30_78 (by decide) (pc' := 79) rfl ?_
    refine Seg.callS (y' := (⟨"com/example/wardn/wardn/rules/RepetitionOperatorAtPinLaw", "digitOf", "(JI)I"⟩ : MethodName)) (wd G 121 rfl) (wd G 122 rfl) (wd G 3 rfl) (wd G 123 rfl) ⟨by decide, by decide⟩ (Pays.of_ct (W := 2) (ct_dg G v 4 h0) all0 (wd G 123 rfl) (wd G 3 rfl) (by decide) (by decide) rfl rfl) (argsL := [(.long v), (.int (4 : Int32))]) (rest := [(.long (x * (10 : Int64)))]) rfl (lenOf pd_10 rfl) rfl (Nat.le_of_eq rfl) rfl d30_79 (pc' := 82) rfl (k' := 0) (n' := 0) rfl rfl (by decide) (by decide) ?_
    intro v_1 h_4 sz_2 q_3
    obtain ⟨rfl, rfl⟩ := q_3
    refine Seg.i2l (v := ((dg v 4)).toInt64) d30_82 rfl (pc' := 83) rfl ?_
    refine Seg.ladd (v := ((x * (10 : Int64)) + ((dg v 4)).toInt64)) d30_83 rfl (pc' := 84) rfl ?_
    refine Seg.lstoreN (L' := #[.val (.long v), .second, .val (.int (Int32.ofNat len)), .val (.long ((x * (10 : Int64)) + ((dg v 4)).toInt64)), .second]) d30_84 rfl (pc' := 85) rfl ?_
    exact Seg.post (fun v' h' q => by rw [vlF, if_pos g1]; exact q) (vl_5 G len v ((x * (10 : Int64)) + (dg v 4).toInt64) h0 hlen)
  · refine Seg.icY (pc' := 85) d30_69 (XT.ii_le_t (n32nlt (n := len) (i := 4) (by omega) (by decide))) (by decide) (by decide) ?_
    exact Seg.post (fun v' h' q => by rw [vlF, if_neg g1]; exact q) (vl_5 G len v x h0 hlen)
theorem d30_49 : decode method_5_code 49 = .ok (.iload_n 2, 1) := by decide +kernel
theorem d30_50 : decode method_5_code 50 = .ok (.iconst 3, 1) := by decide +kernel
theorem d30_51 : decode method_5_code 51 = .ok (.if_icmp .le 16, 3) := by decide +kernel
theorem d30_54 : decode method_5_code 54 = .ok (.lload_n 3, 1) := by decide +kernel
theorem d30_55 : decode method_5_code 55 = .ok (.ldc2_w 54, 3) := by decide +kernel
theorem d30_58 : decode method_5_code 58 = .ok (.lmul, 1) := by decide +kernel
theorem d30_59 : decode method_5_code 59 = .ok (.lload_n 0, 1) := by decide +kernel
theorem d30_60 : decode method_5_code 60 = .ok (.iconst 3, 1) := by decide +kernel
theorem d30_61 : decode method_5_code 61 = .ok (.invokestatic 25, 3) := by decide +kernel
theorem d30_64 : decode method_5_code 64 = .ok (.i2l, 1) := by decide +kernel
theorem d30_65 : decode method_5_code 65 = .ok (.ladd, 1) := by decide +kernel
theorem d30_66 : decode method_5_code 66 = .ok (.lstore_n 3, 1) := by decide +kernel
set_option maxRecDepth 65536 in
set_option maxHeartbeats 4000000 in
theorem vl_3 {l : Launch} {Z : State} {a0 : Array Value} (G : Env1 Z a0) (len : Nat) (v : Int64) (x : Int64) (h0 : Heap) (hlen : len ≤ 11) :
    Seg l Z a0 EL1 (⟨"com/example/wardn/wardn/rules/RepetitionOperatorAtPinLaw", "value", "(JI)I"⟩ : MethodName) method_5_code 5 (some .int) ({ frames := 1, cells := 0, slots := 0, locals := 60 } : Room) (fun v' h' => v' = some (.int (mn64 (vlF v len 8 3 x)).toInt32) ∧ h0 = h') h0 0 0 [] 49 #[.val (.long v), .second, .val (.int (Int32.ofNat len)), .val (.long x), .second] [] := by
  refine Seg.iloadN d30_49 rfl (pc' := 50) rfl ?_
  refine Seg.iconst (v := 3) d30_50 (by decide) (pc' := 51) rfl ?_
  by_cases g1 : 3 < len
  · refine Seg.icN d30_51 (XT.ii_le_f (n32lt (i := 3) g1 (by omega))) (pc' := 54) rfl ?_
    refine Seg.lloadN d30_54 rfl (pc' := 55) rfl ?_
    refine Seg.ldc2J (wd G 125 rfl) d30_55 (pc' := 58) rfl ?_
    refine Seg.lmul (v := (x * (10 : Int64))) d30_58 rfl (pc' := 59) rfl ?_
    refine Seg.lloadN d30_59 rfl (pc' := 60) rfl ?_
    refine Seg.iconst (v := 3) d30_60 (by decide) (pc' := 61) rfl ?_
    refine Seg.callS (y' := (⟨"com/example/wardn/wardn/rules/RepetitionOperatorAtPinLaw", "digitOf", "(JI)I"⟩ : MethodName)) (wd G 121 rfl) (wd G 122 rfl) (wd G 3 rfl) (wd G 123 rfl) ⟨by decide, by decide⟩ (Pays.of_ct (W := 2) (ct_dg G v 3 h0) all0 (wd G 123 rfl) (wd G 3 rfl) (by decide) (by decide) rfl rfl) (argsL := [(.long v), (.int (3 : Int32))]) (rest := [(.long (x * (10 : Int64)))]) rfl (lenOf pd_10 rfl) rfl (Nat.le_of_eq rfl) rfl d30_61 (pc' := 64) rfl (k' := 0) (n' := 0) rfl rfl (by decide) (by decide) ?_
    intro v_1 h_4 sz_2 q_3
    obtain ⟨rfl, rfl⟩ := q_3
    refine Seg.i2l (v := ((dg v 3)).toInt64) d30_64 rfl (pc' := 65) rfl ?_
    refine Seg.ladd (v := ((x * (10 : Int64)) + ((dg v 3)).toInt64)) d30_65 rfl (pc' := 66) rfl ?_
    refine Seg.lstoreN (L' := #[.val (.long v), .second, .val (.int (Int32.ofNat len)), .val (.long ((x * (10 : Int64)) + ((dg v 3)).toInt64)), .second]) d30_66 rfl (pc' := 67) rfl ?_
    exact Seg.post (fun v' h' q => by rw [vlF, if_pos g1]; exact q) (vl_4 G len v ((x * (10 : Int64)) + (dg v 3).toInt64) h0 hlen)
  · refine Seg.icY (pc' := 67) d30_51 (XT.ii_le_t (n32nlt (n := len) (i := 3) (by omega) (by decide))) (by decide) (by decide) ?_
    exact Seg.post (fun v' h' q => by rw [vlF, if_neg g1]; exact q) (vl_4 G len v x h0 hlen)
theorem d30_31 : decode method_5_code 31 = .ok (.iload_n 2, 1) := by decide +kernel
theorem d30_32 : decode method_5_code 32 = .ok (.iconst 2, 1) := by decide +kernel
theorem d30_33 : decode method_5_code 33 = .ok (.if_icmp .le 16, 3) := by decide +kernel
theorem d30_36 : decode method_5_code 36 = .ok (.lload_n 3, 1) := by decide +kernel
theorem d30_37 : decode method_5_code 37 = .ok (.ldc2_w 54, 3) := by decide +kernel
theorem d30_40 : decode method_5_code 40 = .ok (.lmul, 1) := by decide +kernel
theorem d30_41 : decode method_5_code 41 = .ok (.lload_n 0, 1) := by decide +kernel
theorem d30_42 : decode method_5_code 42 = .ok (.iconst 2, 1) := by decide +kernel
theorem d30_43 : decode method_5_code 43 = .ok (.invokestatic 25, 3) := by decide +kernel
theorem d30_46 : decode method_5_code 46 = .ok (.i2l, 1) := by decide +kernel
theorem d30_47 : decode method_5_code 47 = .ok (.ladd, 1) := by decide +kernel
theorem d30_48 : decode method_5_code 48 = .ok (.lstore_n 3, 1) := by decide +kernel
set_option maxRecDepth 65536 in
set_option maxHeartbeats 4000000 in
theorem vl_2 {l : Launch} {Z : State} {a0 : Array Value} (G : Env1 Z a0) (len : Nat) (v : Int64) (x : Int64) (h0 : Heap) (hlen : len ≤ 11) :
    Seg l Z a0 EL1 (⟨"com/example/wardn/wardn/rules/RepetitionOperatorAtPinLaw", "value", "(JI)I"⟩ : MethodName) method_5_code 5 (some .int) ({ frames := 1, cells := 0, slots := 0, locals := 60 } : Room) (fun v' h' => v' = some (.int (mn64 (vlF v len 9 2 x)).toInt32) ∧ h0 = h') h0 0 0 [] 31 #[.val (.long v), .second, .val (.int (Int32.ofNat len)), .val (.long x), .second] [] := by
  refine Seg.iloadN d30_31 rfl (pc' := 32) rfl ?_
  refine Seg.iconst (v := 2) d30_32 (by decide) (pc' := 33) rfl ?_
  by_cases g1 : 2 < len
  · refine Seg.icN d30_33 (XT.ii_le_f (n32lt (i := 2) g1 (by omega))) (pc' := 36) rfl ?_
    refine Seg.lloadN d30_36 rfl (pc' := 37) rfl ?_
    refine Seg.ldc2J (wd G 125 rfl) d30_37 (pc' := 40) rfl ?_
    refine Seg.lmul (v := (x * (10 : Int64))) d30_40 rfl (pc' := 41) rfl ?_
    refine Seg.lloadN d30_41 rfl (pc' := 42) rfl ?_
    refine Seg.iconst (v := 2) d30_42 (by decide) (pc' := 43) rfl ?_
    refine Seg.callS (y' := (⟨"com/example/wardn/wardn/rules/RepetitionOperatorAtPinLaw", "digitOf", "(JI)I"⟩ : MethodName)) (wd G 121 rfl) (wd G 122 rfl) (wd G 3 rfl) (wd G 123 rfl) ⟨by decide, by decide⟩ (Pays.of_ct (W := 2) (ct_dg G v 2 h0) all0 (wd G 123 rfl) (wd G 3 rfl) (by decide) (by decide) rfl rfl) (argsL := [(.long v), (.int (2 : Int32))]) (rest := [(.long (x * (10 : Int64)))]) rfl (lenOf pd_10 rfl) rfl (Nat.le_of_eq rfl) rfl d30_43 (pc' := 46) rfl (k' := 0) (n' := 0) rfl rfl (by decide) (by decide) ?_
    intro v_1 h_4 sz_2 q_3
    obtain ⟨rfl, rfl⟩ := q_3
    refine Seg.i2l (v := ((dg v 2)).toInt64) d30_46 rfl (pc' := 47) rfl ?_
    refine Seg.ladd (v := ((x * (10 : Int64)) + ((dg v 2)).toInt64)) d30_47 rfl (pc' := 48) rfl ?_
    refine Seg.lstoreN (L' := #[.val (.long v), .second, .val (.int (Int32.ofNat len)), .val (.long ((x * (10 : Int64)) + ((dg v 2)).toInt64)), .second]) d30_48 rfl (pc' := 49) rfl ?_
    exact Seg.post (fun v' h' q => by rw [vlF, if_pos g1]; exact q) (vl_3 G len v ((x * (10 : Int64)) + (dg v 2).toInt64) h0 hlen)
  · refine Seg.icY (pc' := 49) d30_33 (XT.ii_le_t (n32nlt (n := len) (i := 2) (by omega) (by decide))) (by decide) (by decide) ?_
    exact Seg.post (fun v' h' q => by rw [vlF, if_neg g1]; exact q) (vl_3 G len v x h0 hlen)
theorem d30_13 : decode method_5_code 13 = .ok (.iload_n 2, 1) := by decide +kernel
theorem d30_14 : decode method_5_code 14 = .ok (.iconst 1, 1) := by decide +kernel
theorem d30_15 : decode method_5_code 15 = .ok (.if_icmp .le 16, 3) := by decide +kernel
theorem d30_18 : decode method_5_code 18 = .ok (.lload_n 3, 1) := by decide +kernel
theorem d30_19 : decode method_5_code 19 = .ok (.ldc2_w 54, 3) := by decide +kernel
theorem d30_22 : decode method_5_code 22 = .ok (.lmul, 1) := by decide +kernel
theorem d30_23 : decode method_5_code 23 = .ok (.lload_n 0, 1) := by decide +kernel
theorem d30_24 : decode method_5_code 24 = .ok (.iconst 1, 1) := by decide +kernel
theorem d30_25 : decode method_5_code 25 = .ok (.invokestatic 25, 3) := by decide +kernel
theorem d30_28 : decode method_5_code 28 = .ok (.i2l, 1) := by decide +kernel
theorem d30_29 : decode method_5_code 29 = .ok (.ladd, 1) := by decide +kernel
theorem d30_30 : decode method_5_code 30 = .ok (.lstore_n 3, 1) := by decide +kernel
set_option maxRecDepth 65536 in
set_option maxHeartbeats 4000000 in
theorem vl_1 {l : Launch} {Z : State} {a0 : Array Value} (G : Env1 Z a0) (len : Nat) (v : Int64) (x : Int64) (h0 : Heap) (hlen : len ≤ 11) :
    Seg l Z a0 EL1 (⟨"com/example/wardn/wardn/rules/RepetitionOperatorAtPinLaw", "value", "(JI)I"⟩ : MethodName) method_5_code 5 (some .int) ({ frames := 1, cells := 0, slots := 0, locals := 60 } : Room) (fun v' h' => v' = some (.int (mn64 (vlF v len 10 1 x)).toInt32) ∧ h0 = h') h0 0 0 [] 13 #[.val (.long v), .second, .val (.int (Int32.ofNat len)), .val (.long x), .second] [] := by
  refine Seg.iloadN d30_13 rfl (pc' := 14) rfl ?_
  refine Seg.iconst (v := 1) d30_14 (by decide) (pc' := 15) rfl ?_
  by_cases g1 : 1 < len
  · refine Seg.icN d30_15 (XT.ii_le_f (n32lt (i := 1) g1 (by omega))) (pc' := 18) rfl ?_
    refine Seg.lloadN d30_18 rfl (pc' := 19) rfl ?_
    refine Seg.ldc2J (wd G 125 rfl) d30_19 (pc' := 22) rfl ?_
    refine Seg.lmul (v := (x * (10 : Int64))) d30_22 rfl (pc' := 23) rfl ?_
    refine Seg.lloadN d30_23 rfl (pc' := 24) rfl ?_
    refine Seg.iconst (v := 1) d30_24 (by decide) (pc' := 25) rfl ?_
    refine Seg.callS (y' := (⟨"com/example/wardn/wardn/rules/RepetitionOperatorAtPinLaw", "digitOf", "(JI)I"⟩ : MethodName)) (wd G 121 rfl) (wd G 122 rfl) (wd G 3 rfl) (wd G 123 rfl) ⟨by decide, by decide⟩ (Pays.of_ct (W := 2) (ct_dg G v 1 h0) all0 (wd G 123 rfl) (wd G 3 rfl) (by decide) (by decide) rfl rfl) (argsL := [(.long v), (.int (1 : Int32))]) (rest := [(.long (x * (10 : Int64)))]) rfl (lenOf pd_10 rfl) rfl (Nat.le_of_eq rfl) rfl d30_25 (pc' := 28) rfl (k' := 0) (n' := 0) rfl rfl (by decide) (by decide) ?_
    intro v_1 h_4 sz_2 q_3
    obtain ⟨rfl, rfl⟩ := q_3
    refine Seg.i2l (v := ((dg v 1)).toInt64) d30_28 rfl (pc' := 29) rfl ?_
    refine Seg.ladd (v := ((x * (10 : Int64)) + ((dg v 1)).toInt64)) d30_29 rfl (pc' := 30) rfl ?_
    refine Seg.lstoreN (L' := #[.val (.long v), .second, .val (.int (Int32.ofNat len)), .val (.long ((x * (10 : Int64)) + ((dg v 1)).toInt64)), .second]) d30_30 rfl (pc' := 31) rfl ?_
    exact Seg.post (fun v' h' q => by rw [vlF, if_pos g1]; exact q) (vl_2 G len v ((x * (10 : Int64)) + (dg v 1).toInt64) h0 hlen)
  · refine Seg.icY (pc' := 31) d30_15 (XT.ii_le_t (n32nlt (n := len) (i := 1) (by omega) (by decide))) (by decide) (by decide) ?_
    exact Seg.post (fun v' h' q => by rw [vlF, if_neg g1]; exact q) (vl_2 G len v x h0 hlen)
theorem d30_2 : decode method_5_code 2 = .ok (.iload_n 2, 1) := by decide +kernel
theorem d30_3 : decode method_5_code 3 = .ok (.ifCond .le 10, 3) := by decide +kernel
theorem d30_6 : decode method_5_code 6 = .ok (.lload_n 0, 1) := by decide +kernel
theorem d30_7 : decode method_5_code 7 = .ok (.iconst 0, 1) := by decide +kernel
theorem d30_8 : decode method_5_code 8 = .ok (.invokestatic 25, 3) := by decide +kernel
theorem d30_11 : decode method_5_code 11 = .ok (.i2l, 1) := by decide +kernel
theorem d30_12 : decode method_5_code 12 = .ok (.lstore_n 3, 1) := by decide +kernel
set_option maxRecDepth 65536 in
set_option maxHeartbeats 4000000 in
theorem vl_0 {l : Launch} {Z : State} {a0 : Array Value} (G : Env1 Z a0) (len : Nat) (v : Int64) (x : Int64) (h0 : Heap) (hlen : len ≤ 11) (hx : x = 0) :
    Seg l Z a0 EL1 (⟨"com/example/wardn/wardn/rules/RepetitionOperatorAtPinLaw", "value", "(JI)I"⟩ : MethodName) method_5_code 5 (some .int) ({ frames := 1, cells := 0, slots := 0, locals := 60 } : Room) (fun v' h' => v' = some (.int (mn64 (vlF v len 11 0 x)).toInt32) ∧ h0 = h') h0 0 0 [] 2 #[.val (.long v), .second, .val (.int (Int32.ofNat len)), .val (.long x), .second] [] := by
  refine Seg.iloadN d30_2 rfl (pc' := 3) rfl ?_
  by_cases g1 : 0 < len
  · refine Seg.ifN d30_3 (XT.i0_le_f (n32lt (i := 0) g1 (by omega))) (pc' := 6) rfl ?_
    refine Seg.lloadN d30_6 rfl (pc' := 7) rfl ?_
    refine Seg.iconst (v := 0) d30_7 (by decide) (pc' := 8) rfl ?_
    refine Seg.callS (y' := (⟨"com/example/wardn/wardn/rules/RepetitionOperatorAtPinLaw", "digitOf", "(JI)I"⟩ : MethodName)) (wd G 121 rfl) (wd G 122 rfl) (wd G 3 rfl) (wd G 123 rfl) ⟨by decide, by decide⟩ (Pays.of_ct (W := 0) (ct_dg G v 0 h0) all0 (wd G 123 rfl) (wd G 3 rfl) (by decide) (by decide) rfl rfl) (argsL := [(.long v), (.int (0 : Int32))]) (rest := []) rfl (lenOf pd_10 rfl) rfl (Nat.le_of_eq rfl) rfl d30_8 (pc' := 11) rfl (k' := 0) (n' := 0) rfl rfl (by decide) (by decide) ?_
    intro v_1 h_4 sz_2 q_3
    obtain ⟨rfl, rfl⟩ := q_3
    refine Seg.i2l (v := ((dg v 0)).toInt64) d30_11 rfl (pc' := 12) rfl ?_
    refine Seg.lstoreN (L' := #[.val (.long v), .second, .val (.int (Int32.ofNat len)), .val (.long ((dg v 0)).toInt64), .second]) d30_12 rfl (pc' := 13) rfl ?_
    exact Seg.post (fun v' h' q => by rw [vlF, if_pos g1, hx, ← z10]; exact q) (vl_1 G len v (dg v 0).toInt64 h0 hlen)
  · refine Seg.ifY (pc' := 13) d30_3 (XT.i0_le_t (n32nlt (n := len) (i := 0) (by omega) (by decide))) (by decide) (by decide) ?_
    exact Seg.post (fun v' h' q => by rw [vlF, if_neg g1]; exact q) (vl_1 G len v x h0 hlen)
theorem d30_0 : decode method_5_code 0 = .ok (.lconst 0, 1) := by decide +kernel
theorem d30_1 : decode method_5_code 1 = .ok (.lstore_n 3, 1) := by decide +kernel
theorem ef_ct_vl (v : Int64) (len : Nat) (m : MethodId) : entryFrame m #[(.long v), (.int (Int32.ofNat len))] 5 = mkF m 0 #[.val (.long v), .second, .val (.int (Int32.ofNat len)), .unset, .unset] [] := by first | (simp [entryFrame, mkF, argsToLocals, Value.category]; done) | rfl
set_option maxRecDepth 65536 in
set_option maxHeartbeats 4000000 in
theorem ct_vl {l : Launch} {Z : State} {a0 : Array Value} (G : Env1 Z a0) (v : Int64) (len : Nat) (h0 : Heap) (hlen : len ≤ 11) :
    Ct l Z EL1 [] [] (⟨"com/example/wardn/wardn/rules/RepetitionOperatorAtPinLaw", "value", "(JI)I"⟩ : MethodName) method_5_code 5 (some .int) ({ frames := 1, cells := 0, slots := 0, locals := 60 } : Room) #[(.long v), (.int (Int32.ofNat len))] h0 (fun v' h => v' = some (.int (valF v len)) ∧ h0 = h) := by
  refine Ct.of_seg (a0 := a0) (plainFor_of_name pn_com_example_wardn_wardn_rules_RepetitionOperatorAtPinLaw) G.2.1 (ef_ct_vl v len) ?_
  refine Seg.lconst (v := 0) d30_0 (by decide) (pc' := 1) rfl ?_
  refine Seg.lstoreN (L' := #[.val (.long v), .second, .val (.int (Int32.ofNat len)), .val (.long (0 : Int64)), .second]) d30_1 rfl (pc' := 2) rfl ?_
  exact vl_0 G len v 0 h0 hlen rfl
theorem d18_0 : decode jdk_32_method_7_code 0 = .ok (.aload_n 0, 1) := by decide +kernel
theorem d18_1 : decode jdk_32_method_7_code 1 = .ok (.getfield 13, 3) := by decide +kernel
theorem d18_4 : decode jdk_32_method_7_code 4 = .ok (.ifnonnull 7, 3) := by decide +kernel
theorem d18_11 : decode jdk_32_method_7_code 11 = .ok (.iconst 0, 1) := by decide +kernel
theorem d18_12 : decode jdk_32_method_7_code 12 = .ok (.ireturn, 1) := by decide +kernel
theorem ef_ct_ie0 (a : Addr) (b : Addr) (m : MethodId) : entryFrame m #[(.ref a)] 1 = mkF m 0 #[.val (.ref a)] [] := by first | (simp [entryFrame, mkF, argsToLocals, Value.category]; done) | rfl
set_option maxRecDepth 65536 in
set_option maxHeartbeats 4000000 in
theorem ct_ie0 {l : Launch} {Z : State} {a0 : Array Value} (G : Env1 Z a0) (a : Addr) (b : Addr) (h0 : Heap) (F0 : Fld Z h0 a "java/util/Optional" "value" "Ljava/lang/Object;" (.ref b)) :
    Ct l Z EL1 [] [] (⟨"java/util/Optional", "isEmpty", "()Z"⟩ : MethodName) jdk_32_method_7_code 1 (some .boolean) ({ frames := 0, cells := 0, slots := 0, locals := 0 } : Room) #[(.ref a)] h0 (fun v h => v = some (.int 0) ∧ h0 = h) := by
  refine Ct.of_seg (a0 := a0) (plainFor_of_name pn_java_util_Optional) G.2.1 (ef_ct_ie0 a b) ?_
  refine Seg.aloadN d18_0 rfl rfl (pc' := 1) rfl ?_
  refine Seg.getF (host := "") (Or.inl (wd G 88 rfl)) Via.refl F0 d18_1 (pc' := 4) rfl ?_
  refine Seg.nonnY (pc' := 11) d18_4 (by decide) (by decide) ?_
  refine Seg.iconst (v := 0) d18_11 (by decide) (pc' := 12) rfl ?_
  exact Seg.retN (t := .boolean) (w := (0 : Int32)) rfl (by decide) (by decide) d18_12 (by decide) (by decide) ⟨rfl, rfl⟩
theorem d18_7 : decode jdk_32_method_7_code 7 = .ok (.iconst 1, 1) := by decide +kernel
theorem d18_8 : decode jdk_32_method_7_code 8 = .ok (.goto 4, 3) := by decide +kernel
theorem ef_ct_ie1 (a : Addr) (m : MethodId) : entryFrame m #[(.ref a)] 1 = mkF m 0 #[.val (.ref a)] [] := by first | (simp [entryFrame, mkF, argsToLocals, Value.category]; done) | rfl
set_option maxRecDepth 65536 in
set_option maxHeartbeats 4000000 in
theorem ct_ie1 {l : Launch} {Z : State} {a0 : Array Value} (G : Env1 Z a0) (a : Addr) (h0 : Heap) (F0 : Fld Z h0 a "java/util/Optional" "value" "Ljava/lang/Object;" .null) :
    Ct l Z EL1 [] [] (⟨"java/util/Optional", "isEmpty", "()Z"⟩ : MethodName) jdk_32_method_7_code 1 (some .boolean) ({ frames := 0, cells := 0, slots := 0, locals := 0 } : Room) #[(.ref a)] h0 (fun v h => v = some (.int 1) ∧ h0 = h) := by
  refine Ct.of_seg (a0 := a0) (plainFor_of_name pn_java_util_Optional) G.2.1 (ef_ct_ie1 a) ?_
  refine Seg.aloadN d18_0 rfl rfl (pc' := 1) rfl ?_
  refine Seg.getF (host := "") (Or.inl (wd G 88 rfl)) Via.refl F0 d18_1 (pc' := 4) rfl ?_
  refine Seg.nonnN d18_4 (pc' := 7) rfl ?_
  refine Seg.iconst (v := 1) d18_7 (by decide) (pc' := 8) rfl ?_
  refine Seg.goto (pc' := 12) d18_8 (by decide) (by decide) ?_
  exact Seg.retN (t := .boolean) (w := (1 : Int32)) rfl (by decide) (by decide) d18_12 (by decide) (by decide) ⟨rfl, rfl⟩
theorem d19_0 : decode jdk_32_method_5_code 0 = .ok (.aload_n 0, 1) := by decide +kernel
theorem d19_1 : decode jdk_32_method_5_code 1 = .ok (.getfield 13, 3) := by decide +kernel
theorem d19_4 : decode jdk_32_method_5_code 4 = .ok (.ifnonnull 13, 3) := by decide +kernel
theorem d19_17 : decode jdk_32_method_5_code 17 = .ok (.aload_n 0, 1) := by decide +kernel
theorem d19_18 : decode jdk_32_method_5_code 18 = .ok (.getfield 13, 3) := by decide +kernel
theorem d19_21 : decode jdk_32_method_5_code 21 = .ok (.areturn, 1) := by decide +kernel
theorem ef_ct_get (a : Addr) (b : Addr) (m : MethodId) : entryFrame m #[(.ref a)] 1 = mkF m 0 #[.val (.ref a)] [] := by first | (simp [entryFrame, mkF, argsToLocals, Value.category]; done) | rfl
set_option maxRecDepth 65536 in
set_option maxHeartbeats 4000000 in
theorem ct_get {l : Launch} {Z : State} {a0 : Array Value} (G : Env1 Z a0) (a : Addr) (b : Addr) (h0 : Heap) (F0 : Fld Z h0 a "java/util/Optional" "value" "Ljava/lang/Object;" (.ref b)) :
    Ct l Z EL1 [] [] (⟨"java/util/Optional", "get", "()Ljava/lang/Object;"⟩ : MethodName) jdk_32_method_5_code 1 (some (.object "java/lang/Object")) ({ frames := 0, cells := 0, slots := 0, locals := 0 } : Room) #[(.ref a)] h0 (fun v h => v = some (.ref b) ∧ h0 = h) := by
  refine Ct.of_seg (a0 := a0) (plainFor_of_name pn_java_util_Optional) G.2.1 (ef_ct_get a b) ?_
  refine Seg.aloadN d19_0 rfl rfl (pc' := 1) rfl ?_
  refine Seg.getF (host := "") (Or.inl (wd G 88 rfl)) Via.refl F0 d19_1 (pc' := 4) rfl ?_
  refine Seg.nonnY (pc' := 17) d19_4 (by decide) (by decide) ?_
  refine Seg.aloadN d19_17 rfl rfl (pc' := 18) rfl ?_
  refine Seg.getF (host := "") (Or.inl (wd G 88 rfl)) Via.refl F0 d19_18 (pc' := 21) rfl ?_
  exact Seg.retA rfl rfl rfl d19_21 (by decide) (by decide) ⟨rfl, rfl⟩
theorem d20_0 : decode prog_22_method_3_code 0 = .ok (.aload_n 0, 1) := by decide +kernel
theorem d20_1 : decode prog_22_method_3_code 1 = .ok (.getfield 7, 3) := by decide +kernel
theorem d20_4 : decode prog_22_method_3_code 4 = .ok (.ireturn, 1) := by decide +kernel
theorem ef_ct_gmin (a : Addr) (u : Int32) (m : MethodId) : entryFrame m #[(.ref a)] 1 = mkF m 0 #[.val (.ref a)] [] := by first | (simp [entryFrame, mkF, argsToLocals, Value.category]; done) | rfl
set_option maxRecDepth 65536 in
set_option maxHeartbeats 4000000 in
theorem ct_gmin {l : Launch} {Z : State} {a0 : Array Value} (G : Env1 Z a0) (a : Addr) (u : Int32) (h0 : Heap) (F0 : Fld Z h0 a "com/example/wardn/wardn/rules/RepetitionOperator" "min" "I" (.int u)) :
    Ct l Z EL1 [] [] (⟨"com/example/wardn/wardn/rules/RepetitionOperator", "min", "()I"⟩ : MethodName) prog_22_method_3_code 1 (some .int) ({ frames := 0, cells := 0, slots := 0, locals := 0 } : Room) #[(.ref a)] h0 (fun v h => v = some (.int u) ∧ h0 = h) := by
  refine Ct.of_seg (a0 := a0) (plainFor_of_name pn_com_example_wardn_wardn_rules_RepetitionOperator) G.2.1 (ef_ct_gmin a u) ?_
  refine Seg.aloadN d20_0 rfl rfl (pc' := 1) rfl ?_
  refine Seg.getF (host := "") (Or.inl (wd G 67 rfl)) Via.refl F0 d20_1 (pc' := 4) rfl ?_
  exact Seg.retI rfl d20_4 (by decide) (by decide) ⟨rfl, rfl⟩
theorem d21_0 : decode prog_22_method_4_code 0 = .ok (.aload_n 0, 1) := by decide +kernel
theorem d21_1 : decode prog_22_method_4_code 1 = .ok (.getfield 13, 3) := by decide +kernel
theorem d21_4 : decode prog_22_method_4_code 4 = .ok (.ireturn, 1) := by decide +kernel
theorem ef_ct_gmax (a : Addr) (u : Int32) (m : MethodId) : entryFrame m #[(.ref a)] 1 = mkF m 0 #[.val (.ref a)] [] := by first | (simp [entryFrame, mkF, argsToLocals, Value.category]; done) | rfl
set_option maxRecDepth 65536 in
set_option maxHeartbeats 4000000 in
theorem ct_gmax {l : Launch} {Z : State} {a0 : Array Value} (G : Env1 Z a0) (a : Addr) (u : Int32) (h0 : Heap) (F0 : Fld Z h0 a "com/example/wardn/wardn/rules/RepetitionOperator" "max" "I" (.int u)) :
    Ct l Z EL1 [] [] (⟨"com/example/wardn/wardn/rules/RepetitionOperator", "max", "()I"⟩ : MethodName) prog_22_method_4_code 1 (some .int) ({ frames := 0, cells := 0, slots := 0, locals := 0 } : Room) #[(.ref a)] h0 (fun v h => v = some (.int u) ∧ h0 = h) := by
  refine Ct.of_seg (a0 := a0) (plainFor_of_name pn_com_example_wardn_wardn_rules_RepetitionOperator) G.2.1 (ef_ct_gmax a u) ?_
  refine Seg.aloadN d21_0 rfl rfl (pc' := 1) rfl ?_
  refine Seg.getF (host := "") (Or.inl (wd G 69 rfl)) Via.refl F0 d21_1 (pc' := 4) rfl ?_
  exact Seg.retI rfl d21_4 (by decide) (by decide) ⟨rfl, rfl⟩
theorem d22_0 : decode prog_22_method_5_code 0 = .ok (.aload_n 0, 1) := by decide +kernel
theorem d22_1 : decode prog_22_method_5_code 1 = .ok (.getfield 16, 3) := by decide +kernel
theorem d22_4 : decode prog_22_method_5_code 4 = .ok (.ireturn, 1) := by decide +kernel
theorem ef_ct_gend (a : Addr) (u : Int32) (m : MethodId) : entryFrame m #[(.ref a)] 1 = mkF m 0 #[.val (.ref a)] [] := by first | (simp [entryFrame, mkF, argsToLocals, Value.category]; done) | rfl
set_option maxRecDepth 65536 in
set_option maxHeartbeats 4000000 in
theorem ct_gend {l : Launch} {Z : State} {a0 : Array Value} (G : Env1 Z a0) (a : Addr) (u : Int32) (h0 : Heap) (F0 : Fld Z h0 a "com/example/wardn/wardn/rules/RepetitionOperator" "end" "I" (.int u)) :
    Ct l Z EL1 [] [] (⟨"com/example/wardn/wardn/rules/RepetitionOperator", "end", "()I"⟩ : MethodName) prog_22_method_5_code 1 (some .int) ({ frames := 0, cells := 0, slots := 0, locals := 0 } : Room) #[(.ref a)] h0 (fun v h => v = some (.int u) ∧ h0 = h) := by
  refine Ct.of_seg (a0 := a0) (plainFor_of_name pn_com_example_wardn_wardn_rules_RepetitionOperator) G.2.1 (ef_ct_gend a u) ?_
  refine Seg.aloadN d22_0 rfl rfl (pc' := 1) rfl ?_
  refine Seg.getF (host := "") (Or.inl (wd G 71 rfl)) Via.refl F0 d22_1 (pc' := 4) rfl ?_
  exact Seg.retI rfl d22_4 (by decide) (by decide) ⟨rfl, rfl⟩
theorem pd_11 : parseMethodDescriptor "()Z" = some ⟨[], some .boolean⟩ := by decide +kernel
set_option maxRecDepth 65536 in
set_option maxHeartbeats 4000000 in
theorem sgT0 {l : Launch} {Z : State} {a0 : Array Value} (G : Env1 Z a0) (p1 : Int32) (d1 : Int64) (d2 : Int64) (p4 : Int32) (p5 : Int32) (t8 : Slot) (t10 : Slot) (t13 : Slot) (t14 : Slot) (t15 : Slot) (t16 : Slot) (t17 : Slot) (t18 : Slot) (t22 : Slot) (t23 : Slot) (t28 : Slot) (t34 : Slot) (t35 : Slot) (s : Nat) (l1 : Nat) (l2 : Nat) (e : Nat) (dac : Int32) (head : Int32) (sep : Int32) (close : Int32) (r : Addr) (h : Heap) (O : OptR Z h r none) :
    Seg l Z a0 EL1 x code maxLocals ret room_1 (fun v h => v = some (.int 1)) h 20 200 [] 694 #[.val (.int p1), .val (.long d1), .second, .val (.long d2), .second, .val (.int p4), .val (.int p5), .val (.int (Int32.ofNat s)), t8, .val (.int (Int32.ofNat l1)), t10, .val (.int dac), .val (.int (Int32.ofNat l2)), t13, t14, t15, t16, t17, t18, .val (.int head), .val (.int sep), .val (.int close), t22, t23, .val (.int (Int32.ofNat (s + 1 + l1))), .val (.int (Int32.ofNat (s + 1 + l1 + 1))), .val (.int (Int32.ofNat (s + 1 + l1 + 1 + l2))), .val (.int (Int32.ofNat e)), t28, .val (.ref r), .val (.int (0 : Int32)), .val (.int (0 : Int32)), .val (.int (0 : Int32)), .val (.int (0 : Int32)), t34, t35] [] := by
  refine Seg.iload at_694 rfl (pc' := 696) rfl ?_
  refine Seg.ifN at_696 (by decide) (pc' := 699) rfl ?_
  refine Seg.aload at_699 rfl rfl (pc' := 701) rfl ?_
  refine Seg.callV (y' := (⟨"java/util/Optional", "isEmpty", "()Z"⟩ : MethodName)) (z := (⟨"java/util/Optional", "isEmpty", "()Z"⟩ : MethodName)) (a := r) (wd G 90 rfl) (wd G 91 rfl) (nf_sel (wd G 93 rfl)) (wd G 93 rfl) (wd G 92 rfl) ⟨by decide, by decide⟩ O.1 (Pays.of_ct (W := 0) (ct_ie1 G r h O.2) all0 (wd G 94 rfl) (wd G 75 rfl) (by decide) (by decide) rfl rfl) (argsL := []) (rest := []) rfl (lenOf pd_11 rfl) rfl (Nat.le_of_eq rfl) rfl at_701 (pc' := 704) rfl (k' := 20) (n' := 200) rfl rfl (by decide) (by decide) ?_
  intro v_1 h_4 sz_2 q_3
  obtain ⟨rfl, rfl⟩ := q_3
  exact Seg.retN (t := .boolean) (w := (1 : Int32)) rfl (by decide) (by decide) at_704 (by decide) (by decide) rfl
theorem pd_12 : parseMethodDescriptor "()Ljava/lang/Object;" = some ⟨[], some (.object "java/lang/Object")⟩ := by decide +kernel
theorem pd_13 : parseMethodDescriptor "()I" = some ⟨[], some .int⟩ := by decide +kernel
set_option maxRecDepth 65536 in
set_option maxHeartbeats 4000000 in
theorem sgT1 {l : Launch} {Z : State} {a0 : Array Value} (G : Env1 Z a0) (p1 : Int32) (d1 : Int64) (d2 : Int64) (p4 : Int32) (p5 : Int32) (t8 : Slot) (t10 : Slot) (t13 : Slot) (t14 : Slot) (t15 : Slot) (t16 : Slot) (t17 : Slot) (t18 : Slot) (t22 : Slot) (t23 : Slot) (t28 : Slot) (t34 : Slot) (t35 : Slot) (s : Nat) (l1 : Nat) (l2 : Nat) (e : Nat) (dac : Int32) (head : Int32) (sep : Int32) (close : Int32) (r : Addr) (mn : Int32) (mx : Int32) (en : Int32) (h : Heap) (s34 : t34 = .unset ∨ ∃ v : Int32, t34 = .val (.int v)) (O : OptR Z h r (some (mn, mx, en))) :
    Seg l Z a0 EL1 x code maxLocals ret room_1 (fun v h => v = some (.int 1)) h 20 200 [] 694 #[.val (.int p1), .val (.long d1), .second, .val (.long d2), .second, .val (.int p4), .val (.int p5), .val (.int (Int32.ofNat s)), t8, .val (.int (Int32.ofNat l1)), t10, .val (.int dac), .val (.int (Int32.ofNat l2)), t13, t14, t15, t16, t17, t18, .val (.int head), .val (.int sep), .val (.int close), t22, t23, .val (.int (Int32.ofNat (s + 1 + l1))), .val (.int (Int32.ofNat (s + 1 + l1 + 1))), .val (.int (Int32.ofNat (s + 1 + l1 + 1 + l2))), .val (.int (Int32.ofNat e)), t28, .val (.ref r), .val (.int (1 : Int32)), .val (.int mn), .val (.int mx), .val (.int en), t34, t35] [] := by
  obtain ⟨Xr, p, Fp, Xp, M0, M1, M2⟩ := O
  refine Seg.iload at_694 rfl (pc' := 696) rfl ?_
  refine Seg.ifY (pc' := 705) at_696 (by decide) (by decide) (by decide) ?_
  refine Seg.aload at_705 rfl rfl (pc' := 707) rfl ?_
  refine Seg.callV (y' := (⟨"java/util/Optional", "isEmpty", "()Z"⟩ : MethodName)) (z := (⟨"java/util/Optional", "isEmpty", "()Z"⟩ : MethodName)) (a := r) (wd G 90 rfl) (wd G 91 rfl) (nf_sel (wd G 93 rfl)) (wd G 93 rfl) (wd G 92 rfl) ⟨by decide, by decide⟩ Xr (Pays.of_ct (W := 0) (ct_ie0 G r p h Fp) all0 (wd G 94 rfl) (wd G 75 rfl) (by decide) (by decide) rfl rfl) (argsL := []) (rest := []) rfl (lenOf pd_11 rfl) rfl (Nat.le_of_eq rfl) rfl at_707 (pc' := 710) rfl (k' := 20) (n' := 200) rfl rfl (by decide) (by decide) ?_
  intro v_1 h_4 sz_2 q_3
  obtain ⟨rfl, rfl⟩ := q_3
  refine Seg.ifY (pc' := 715) at_710 (by decide) (by decide) (by decide) ?_
  refine Seg.aload at_715 rfl rfl (pc' := 717) rfl ?_
  refine Seg.callV (y' := (⟨"java/util/Optional", "get", "()Ljava/lang/Object;"⟩ : MethodName)) (z := (⟨"java/util/Optional", "get", "()Ljava/lang/Object;"⟩ : MethodName)) (a := r) (wd G 95 rfl) (wd G 96 rfl) (nf_sel (wd G 98 rfl)) (wd G 98 rfl) (wd G 97 rfl) ⟨by decide, by decide⟩ Xr (Pays.of_ct (W := 0) (ct_get G r p h Fp) all0 (wd G 99 rfl) (wd G 75 rfl) (by decide) (by decide) rfl rfl) (argsL := []) (rest := []) rfl (lenOf pd_12 rfl) rfl (Nat.le_of_eq rfl) rfl at_717 (pc' := 720) rfl (k' := 20) (n' := 200) rfl rfl (by decide) (by decide) ?_
  intro v_5 h_8 sz_6 q_7
  obtain ⟨rfl, rfl⟩ := q_7
  refine Seg.castY (wd G 100 rfl) (Ins.self Xp) at_720 (pc' := 723) rfl ?_
  refine Seg.astore (L' := #[.val (.int p1), .val (.long d1), .second, .val (.long d2), .second, .val (.int p4), .val (.int p5), .val (.int (Int32.ofNat s)), t8, .val (.int (Int32.ofNat l1)), t10, .val (.int dac), .val (.int (Int32.ofNat l2)), t13, t14, t15, t16, t17, t18, .val (.int head), .val (.int sep), .val (.int close), t22, t23, .val (.int (Int32.ofNat (s + 1 + l1))), .val (.int (Int32.ofNat (s + 1 + l1 + 1))), .val (.int (Int32.ofNat (s + 1 + l1 + 1 + l2))), .val (.int (Int32.ofNat e)), t28, .val (.ref r), .val (.int (1 : Int32)), .val (.int mn), .val (.int mx), .val (.int en), .val (.ref p), t35]) at_723 rfl (by rcases s34 with rfl | ⟨_, rfl⟩ <;> rfl) (pc' := 725) rfl ?_
  refine Seg.aload at_725 rfl rfl (pc' := 727) rfl ?_
  refine Seg.callV (y' := (⟨"com/example/wardn/wardn/rules/RepetitionOperator", "min", "()I"⟩ : MethodName)) (z := (⟨"com/example/wardn/wardn/rules/RepetitionOperator", "min", "()I"⟩ : MethodName)) (a := p) (wd G 102 rfl) (wd G 103 rfl) (nf_sel (wd G 105 rfl)) (wd G 105 rfl) (wd G 104 rfl) ⟨by decide, by decide⟩ Xp (Pays.of_ct (W := 0) (ct_gmin G p mn h M0) all0 (wd G 106 rfl) (wd G 37 rfl) (by decide) (by decide) rfl rfl) (argsL := []) (rest := []) rfl (lenOf pd_13 rfl) rfl (Nat.le_of_eq rfl) rfl at_727 (pc' := 730) rfl (k' := 20) (n' := 200) rfl rfl (by decide) (by decide) ?_
  intro v_9 h_12 sz_10 q_11
  obtain ⟨rfl, rfl⟩ := q_11
  refine Seg.iload at_730 rfl (pc' := 732) rfl ?_
  refine Seg.icN at_732 (XT.ii_ne_f rfl) (pc' := 735) rfl ?_
  refine Seg.aload at_735 rfl rfl (pc' := 737) rfl ?_
  refine Seg.callV (y' := (⟨"com/example/wardn/wardn/rules/RepetitionOperator", "max", "()I"⟩ : MethodName)) (z := (⟨"com/example/wardn/wardn/rules/RepetitionOperator", "max", "()I"⟩ : MethodName)) (a := p) (wd G 107 rfl) (wd G 108 rfl) (nf_sel (wd G 110 rfl)) (wd G 110 rfl) (wd G 109 rfl) ⟨by decide, by decide⟩ Xp (Pays.of_ct (W := 0) (ct_gmax G p mx h M1) all0 (wd G 111 rfl) (wd G 37 rfl) (by decide) (by decide) rfl rfl) (argsL := []) (rest := []) rfl (lenOf pd_13 rfl) rfl (Nat.le_of_eq rfl) rfl at_737 (pc' := 740) rfl (k' := 20) (n' := 200) rfl rfl (by decide) (by decide) ?_
  intro v_13 h_16 sz_14 q_15
  obtain ⟨rfl, rfl⟩ := q_15
  refine Seg.iload at_740 rfl (pc' := 742) rfl ?_
  refine Seg.icN at_742 (XT.ii_ne_f rfl) (pc' := 745) rfl ?_
  refine Seg.aload at_745 rfl rfl (pc' := 747) rfl ?_
  refine Seg.callV (y' := (⟨"com/example/wardn/wardn/rules/RepetitionOperator", "end", "()I"⟩ : MethodName)) (z := (⟨"com/example/wardn/wardn/rules/RepetitionOperator", "end", "()I"⟩ : MethodName)) (a := p) (wd G 112 rfl) (wd G 113 rfl) (nf_sel (wd G 115 rfl)) (wd G 115 rfl) (wd G 114 rfl) ⟨by decide, by decide⟩ Xp (Pays.of_ct (W := 0) (ct_gend G p en h M2) all0 (wd G 116 rfl) (wd G 37 rfl) (by decide) (by decide) rfl rfl) (argsL := []) (rest := []) rfl (lenOf pd_13 rfl) rfl (Nat.le_of_eq rfl) rfl at_747 (pc' := 750) rfl (k' := 20) (n' := 200) rfl rfl (by decide) (by decide) ?_
  intro v_17 h_20 sz_18 q_19
  obtain ⟨rfl, rfl⟩ := q_19
  refine Seg.iload at_750 rfl (pc' := 752) rfl ?_
  refine Seg.icN at_752 (XT.ii_ne_f rfl) (pc' := 755) rfl ?_
  refine Seg.iconst (v := 1) at_755 (by decide) (pc' := 756) rfl ?_
  refine Seg.goto (pc' := 760) at_756 (by decide) (by decide) ?_
  exact Seg.retN (t := .boolean) (w := (1 : Int32)) rfl (by decide) (by decide) at_760 (by decide) (by decide) rfl
set_option maxRecDepth 65536 in
set_option maxHeartbeats 4000000 in
theorem sg534 {l : Launch} {Z : State} {a0 : Array Value} (G : Env1 Z a0) (p1 : Int32) (d1 : Int64) (d2 : Int64) (p4 : Int32) (p5 : Int32) (t8 : Slot) (t10 : Slot) (t13 : Slot) (t14 : Slot) (t15 : Slot) (t16 : Slot) (t17 : Slot) (t18 : Slot) (t22 : Slot) (t23 : Slot) (t28 : Slot) (s : Nat) (l1 : Nat) (l2 : Nat) (e : Nat) (dac : Int32) (head : Int32) (sep : Int32) (close : Int32) (r : Addr) (cs : List Int32) (h : Heap) (hs : s < 2) (hl1 : l1 < 12) (hl2 : l2 < 12) (he : e < 28) (hsep : ¬ isD sep) (hcl : ¬ isD close) (H : SP cs s head l1 d1 sep dac l2 d2 close) (O : OptR Z h r (cdF cs (s + 1) e)) (a1 : s < e) (c1 : ¬ l1 < 1) (c2 : s + 1 + l1 < e) (c3 : ¬ (1 < l1 ∧ dg d1 0 = 0)) :
    Seg l Z a0 EL1 x code maxLocals ret room_1 (fun v h => v = some (.int 1)) h 20 200 [] 534 #[.val (.int p1), .val (.long d1), .second, .val (.long d2), .second, .val (.int p4), .val (.int p5), .val (.int (Int32.ofNat s)), t8, .val (.int (Int32.ofNat l1)), t10, .val (.int dac), .val (.int (Int32.ofNat l2)), t13, t14, t15, t16, t17, t18, .val (.int head), .val (.int sep), .val (.int close), t22, t23, .val (.int (Int32.ofNat (s + 1 + l1))), .val (.int (Int32.ofNat (s + 1 + l1 + 1))), .val (.int (Int32.ofNat (s + 1 + l1 + 1 + l2))), .val (.int (Int32.ofNat e)), t28, .val (.ref r), .val (.int (0 : Int32)), .val (.int (0 : Int32)), .val (.int (0 : Int32)), .val (.int (0 : Int32)), .val (.int (1 : Int32)), .unset] [] := by
  have c := H.ce1 a1 hsep c1 c2 c3
  refine Seg.lloadN at_534 rfl (pc' := 535) rfl ?_
  refine Seg.iload at_535 rfl (pc' := 537) rfl ?_
  refine Seg.callS (y' := (⟨"com/example/wardn/wardn/rules/RepetitionOperatorAtPinLaw", "value", "(JI)I"⟩ : MethodName)) (wd G 145 rfl) (wd G 146 rfl) (wd G 3 rfl) (wd G 147 rfl) ⟨by decide, by decide⟩ (Pays.of_ct (W := 0) (ct_vl G d1 l1 h (by omega)) all0 (wd G 147 rfl) (wd G 3 rfl) (by decide) (by decide) rfl rfl) (argsL := [(.long d1), (.int (Int32.ofNat l1))]) (rest := []) rfl (lenOf pd_10 rfl) rfl (Nat.le_of_eq rfl) rfl at_537 (pc' := 540) rfl (k' := 20) (n' := 200) rfl rfl (by decide) (by decide) ?_
  intro v_1 h_4 sz_2 q_3
  obtain ⟨rfl, rfl⟩ := q_3
  refine Seg.istore (L' := #[.val (.int p1), .val (.long d1), .second, .val (.long d2), .second, .val (.int p4), .val (.int p5), .val (.int (Int32.ofNat s)), t8, .val (.int (Int32.ofNat l1)), t10, .val (.int dac), .val (.int (Int32.ofNat l2)), t13, t14, t15, t16, t17, t18, .val (.int head), .val (.int sep), .val (.int close), t22, t23, .val (.int (Int32.ofNat (s + 1 + l1))), .val (.int (Int32.ofNat (s + 1 + l1 + 1))), .val (.int (Int32.ofNat (s + 1 + l1 + 1 + l2))), .val (.int (Int32.ofNat e)), t28, .val (.ref r), .val (.int (0 : Int32)), .val (.int (0 : Int32)), .val (.int (0 : Int32)), .val (.int (0 : Int32)), .val (.int (1 : Int32)), .val (.int (valF d1 l1))]) at_540 rfl (pc' := 542) rfl ?_
  refine Seg.iload at_542 rfl (pc' := 544) rfl ?_
  refine Seg.bipush (v := 125) at_544 (by decide) (pc' := 546) rfl ?_
  by_cases e1 : sep = 125
  · refine Seg.icN at_546 (XT.ii_ne_f e1) (pc' := 549) rfl ?_
    refine Seg.iconst (v := 1) at_549 (by decide) (pc' := 550) rfl ?_
    refine Seg.istore (L' := #[.val (.int p1), .val (.long d1), .second, .val (.long d2), .second, .val (.int p4), .val (.int p5), .val (.int (Int32.ofNat s)), t8, .val (.int (Int32.ofNat l1)), t10, .val (.int dac), .val (.int (Int32.ofNat l2)), t13, t14, t15, t16, t17, t18, .val (.int head), .val (.int sep), .val (.int close), t22, t23, .val (.int (Int32.ofNat (s + 1 + l1))), .val (.int (Int32.ofNat (s + 1 + l1 + 1))), .val (.int (Int32.ofNat (s + 1 + l1 + 1 + l2))), .val (.int (Int32.ofNat e)), t28, .val (.ref r), .val (.int (1 : Int32)), .val (.int (0 : Int32)), .val (.int (0 : Int32)), .val (.int (0 : Int32)), .val (.int (1 : Int32)), .val (.int (valF d1 l1))]) at_550 rfl (pc' := 552) rfl ?_
    refine Seg.iload at_552 rfl (pc' := 554) rfl ?_
    refine Seg.istore (L' := #[.val (.int p1), .val (.long d1), .second, .val (.long d2), .second, .val (.int p4), .val (.int p5), .val (.int (Int32.ofNat s)), t8, .val (.int (Int32.ofNat l1)), t10, .val (.int dac), .val (.int (Int32.ofNat l2)), t13, t14, t15, t16, t17, t18, .val (.int head), .val (.int sep), .val (.int close), t22, t23, .val (.int (Int32.ofNat (s + 1 + l1))), .val (.int (Int32.ofNat (s + 1 + l1 + 1))), .val (.int (Int32.ofNat (s + 1 + l1 + 1 + l2))), .val (.int (Int32.ofNat e)), t28, .val (.ref r), .val (.int (1 : Int32)), .val (.int (valF d1 l1)), .val (.int (0 : Int32)), .val (.int (0 : Int32)), .val (.int (1 : Int32)), .val (.int (valF d1 l1))]) at_554 rfl (pc' := 556) rfl ?_
    refine Seg.iload at_556 rfl (pc' := 558) rfl ?_
    refine Seg.istore (L' := #[.val (.int p1), .val (.long d1), .second, .val (.long d2), .second, .val (.int p4), .val (.int p5), .val (.int (Int32.ofNat s)), t8, .val (.int (Int32.ofNat l1)), t10, .val (.int dac), .val (.int (Int32.ofNat l2)), t13, t14, t15, t16, t17, t18, .val (.int head), .val (.int sep), .val (.int close), t22, t23, .val (.int (Int32.ofNat (s + 1 + l1))), .val (.int (Int32.ofNat (s + 1 + l1 + 1))), .val (.int (Int32.ofNat (s + 1 + l1 + 1 + l2))), .val (.int (Int32.ofNat e)), t28, .val (.ref r), .val (.int (1 : Int32)), .val (.int (valF d1 l1)), .val (.int (valF d1 l1)), .val (.int (0 : Int32)), .val (.int (1 : Int32)), .val (.int (valF d1 l1))]) at_558 rfl (pc' := 560) rfl ?_
    refine Seg.iload at_560 rfl (pc' := 562) rfl ?_
    refine Seg.iconst (v := 1) at_562 (by decide) (pc' := 563) rfl ?_
    refine Seg.iadd (v := (Int32.ofNat (s + 1 + l1 + 1))) at_563 (n32s _) (pc' := 564) rfl ?_
    refine Seg.istore (L' := #[.val (.int p1), .val (.long d1), .second, .val (.long d2), .second, .val (.int p4), .val (.int p5), .val (.int (Int32.ofNat s)), t8, .val (.int (Int32.ofNat l1)), t10, .val (.int dac), .val (.int (Int32.ofNat l2)), t13, t14, t15, t16, t17, t18, .val (.int head), .val (.int sep), .val (.int close), t22, t23, .val (.int (Int32.ofNat (s + 1 + l1))), .val (.int (Int32.ofNat (s + 1 + l1 + 1))), .val (.int (Int32.ofNat (s + 1 + l1 + 1 + l2))), .val (.int (Int32.ofNat e)), t28, .val (.ref r), .val (.int (1 : Int32)), .val (.int (valF d1 l1)), .val (.int (valF d1 l1)), .val (.int (Int32.ofNat (s + 1 + l1 + 1))), .val (.int (1 : Int32)), .val (.int (valF d1 l1))]) at_564 rfl (pc' := 566) rfl ?_
    refine Seg.goto (pc' := 694) at_566 (by decide) (by decide) ?_
    rw [cd_close H (by omega) c c2 e1] at O
    exact sgT1 G p1 d1 d2 p4 p5 _ _ _ _ _ _ _ _ _ _ _ _ _ s l1 l2 e dac head sep close r (valF d1 l1) (valF d1 l1) (Int32.ofNat (s + 1 + l1 + 1)) h (Or.inr ⟨_, rfl⟩) O
  · refine Seg.icY (pc' := 569) at_546 (XT.ii_ne_t e1) (by decide) (by decide) ?_
    refine Seg.iload at_569 rfl (pc' := 571) rfl ?_
    refine Seg.bipush (v := 44) at_571 (by decide) (pc' := 573) rfl ?_
    by_cases e2 : sep = 44
    · refine Seg.icN at_573 (XT.ii_ne_f e2) (pc' := 576) rfl ?_
      refine Seg.iload at_576 rfl (pc' := 578) rfl ?_
      by_cases hd : dac = 0
      · refine Seg.ifN at_578 (XT.i0_ne_f hd) (pc' := 581) rfl ?_
        refine Seg.iload at_581 rfl (pc' := 583) rfl ?_
        refine Seg.iload at_583 rfl (pc' := 585) rfl ?_
        by_cases e3 : s + 1 + l1 + 1 < e
        · refine Seg.icN at_585 (XT.ii_le_f (n32lt e3 (by omega))) (pc' := 588) rfl ?_
          refine Seg.iconst (v := 1) at_588 (by decide) (pc' := 589) rfl ?_
          refine Seg.istore (L' := #[.val (.int p1), .val (.long d1), .second, .val (.long d2), .second, .val (.int p4), .val (.int p5), .val (.int (Int32.ofNat s)), t8, .val (.int (Int32.ofNat l1)), t10, .val (.int dac), .val (.int (Int32.ofNat l2)), t13, t14, t15, t16, t17, t18, .val (.int head), .val (.int sep), .val (.int close), t22, t23, .val (.int (Int32.ofNat (s + 1 + l1))), .val (.int (Int32.ofNat (s + 1 + l1 + 1))), .val (.int (Int32.ofNat (s + 1 + l1 + 1 + l2))), .val (.int (Int32.ofNat e)), t28, .val (.ref r), .val (.int (1 : Int32)), .val (.int (0 : Int32)), .val (.int (0 : Int32)), .val (.int (0 : Int32)), .val (.int (1 : Int32)), .val (.int (valF d1 l1))]) at_589 rfl (pc' := 591) rfl ?_
          refine Seg.iload at_591 rfl (pc' := 593) rfl ?_
          refine Seg.istore (L' := #[.val (.int p1), .val (.long d1), .second, .val (.long d2), .second, .val (.int p4), .val (.int p5), .val (.int (Int32.ofNat s)), t8, .val (.int (Int32.ofNat l1)), t10, .val (.int dac), .val (.int (Int32.ofNat l2)), t13, t14, t15, t16, t17, t18, .val (.int head), .val (.int sep), .val (.int close), t22, t23, .val (.int (Int32.ofNat (s + 1 + l1))), .val (.int (Int32.ofNat (s + 1 + l1 + 1))), .val (.int (Int32.ofNat (s + 1 + l1 + 1 + l2))), .val (.int (Int32.ofNat e)), t28, .val (.ref r), .val (.int (1 : Int32)), .val (.int (valF d1 l1)), .val (.int (0 : Int32)), .val (.int (0 : Int32)), .val (.int (1 : Int32)), .val (.int (valF d1 l1))]) at_593 rfl (pc' := 595) rfl ?_
          refine Seg.iconst (v := -1) at_595 (by decide) (pc' := 596) rfl ?_
          refine Seg.istore (L' := #[.val (.int p1), .val (.long d1), .second, .val (.long d2), .second, .val (.int p4), .val (.int p5), .val (.int (Int32.ofNat s)), t8, .val (.int (Int32.ofNat l1)), t10, .val (.int dac), .val (.int (Int32.ofNat l2)), t13, t14, t15, t16, t17, t18, .val (.int head), .val (.int sep), .val (.int close), t22, t23, .val (.int (Int32.ofNat (s + 1 + l1))), .val (.int (Int32.ofNat (s + 1 + l1 + 1))), .val (.int (Int32.ofNat (s + 1 + l1 + 1 + l2))), .val (.int (Int32.ofNat e)), t28, .val (.ref r), .val (.int (1 : Int32)), .val (.int (valF d1 l1)), .val (.int (-1 : Int32)), .val (.int (0 : Int32)), .val (.int (1 : Int32)), .val (.int (valF d1 l1))]) at_596 rfl (pc' := 598) rfl ?_
          refine Seg.iload at_598 rfl (pc' := 600) rfl ?_
          refine Seg.iconst (v := 1) at_600 (by decide) (pc' := 601) rfl ?_
          refine Seg.iadd (v := (Int32.ofNat (s + 1 + l1 + 1 + 1))) at_601 (n32s _) (pc' := 602) rfl ?_
          refine Seg.istore (L' := #[.val (.int p1), .val (.long d1), .second, .val (.long d2), .second, .val (.int p4), .val (.int p5), .val (.int (Int32.ofNat s)), t8, .val (.int (Int32.ofNat l1)), t10, .val (.int dac), .val (.int (Int32.ofNat l2)), t13, t14, t15, t16, t17, t18, .val (.int head), .val (.int sep), .val (.int close), t22, t23, .val (.int (Int32.ofNat (s + 1 + l1))), .val (.int (Int32.ofNat (s + 1 + l1 + 1))), .val (.int (Int32.ofNat (s + 1 + l1 + 1 + l2))), .val (.int (Int32.ofNat e)), t28, .val (.ref r), .val (.int (1 : Int32)), .val (.int (valF d1 l1)), .val (.int (-1 : Int32)), .val (.int (Int32.ofNat (s + 1 + l1 + 1 + 1))), .val (.int (1 : Int32)), .val (.int (valF d1 l1))]) at_602 rfl (pc' := 604) rfl ?_
          refine Seg.goto (pc' := 694) at_604 (by decide) (by decide) ?_
          rw [cd_c1 H (by omega) c c2 e2 e3 (H.2.2.2.2.2.1 hd)] at O
          exact sgT1 G p1 d1 d2 p4 p5 _ _ _ _ _ _ _ _ _ _ _ _ _ s l1 l2 e dac head sep close r (valF d1 l1) (-1) (Int32.ofNat (s + 1 + l1 + 1 + 1)) h (Or.inr ⟨_, rfl⟩) O
        · refine Seg.icY (pc' := 694) at_585 (XT.ii_le_t (n32nlt (by omega) (by omega))) (by decide) (by decide) ?_
          rw [cd_c2 H c c2 e2 e3] at O
          exact sgT0 G p1 d1 d2 p4 p5 _ _ _ _ _ _ _ _ _ _ _ _ _ s l1 l2 e dac head sep close r h O
      · refine Seg.ifY (pc' := 607) at_578 (XT.i0_ne_t hd) (by decide) (by decide) ?_
        refine Seg.iload at_607 rfl (pc' := 609) rfl ?_
        by_cases e4 : l2 = 0
        · refine Seg.ifN at_609 (XT.i0_ne_f (by rw [e4]; rfl)) (pc' := 612) rfl ?_
          refine Seg.iload at_612 rfl (pc' := 614) rfl ?_
          refine Seg.iload at_614 rfl (pc' := 616) rfl ?_
          by_cases e3 : s + 1 + l1 + 1 < e
          · refine Seg.icN at_616 (XT.ii_le_f (n32lt e3 (by omega))) (pc' := 619) rfl ?_
            refine Seg.iload at_619 rfl (pc' := 621) rfl ?_
            refine Seg.bipush (v := 125) at_621 (by decide) (pc' := 623) rfl ?_
            by_cases e5 : close = 125
            · refine Seg.icN at_623 (XT.ii_ne_f e5) (pc' := 626) rfl ?_
              refine Seg.iconst (v := 1) at_626 (by decide) (pc' := 627) rfl ?_
              refine Seg.istore (L' := #[.val (.int p1), .val (.long d1), .second, .val (.long d2), .second, .val (.int p4), .val (.int p5), .val (.int (Int32.ofNat s)), t8, .val (.int (Int32.ofNat l1)), t10, .val (.int dac), .val (.int (Int32.ofNat l2)), t13, t14, t15, t16, t17, t18, .val (.int head), .val (.int sep), .val (.int close), t22, t23, .val (.int (Int32.ofNat (s + 1 + l1))), .val (.int (Int32.ofNat (s + 1 + l1 + 1))), .val (.int (Int32.ofNat (s + 1 + l1 + 1 + l2))), .val (.int (Int32.ofNat e)), t28, .val (.ref r), .val (.int (1 : Int32)), .val (.int (0 : Int32)), .val (.int (0 : Int32)), .val (.int (0 : Int32)), .val (.int (1 : Int32)), .val (.int (valF d1 l1))]) at_627 rfl (pc' := 629) rfl ?_
              refine Seg.iload at_629 rfl (pc' := 631) rfl ?_
              refine Seg.istore (L' := #[.val (.int p1), .val (.long d1), .second, .val (.long d2), .second, .val (.int p4), .val (.int p5), .val (.int (Int32.ofNat s)), t8, .val (.int (Int32.ofNat l1)), t10, .val (.int dac), .val (.int (Int32.ofNat l2)), t13, t14, t15, t16, t17, t18, .val (.int head), .val (.int sep), .val (.int close), t22, t23, .val (.int (Int32.ofNat (s + 1 + l1))), .val (.int (Int32.ofNat (s + 1 + l1 + 1))), .val (.int (Int32.ofNat (s + 1 + l1 + 1 + l2))), .val (.int (Int32.ofNat e)), t28, .val (.ref r), .val (.int (1 : Int32)), .val (.int (valF d1 l1)), .val (.int (0 : Int32)), .val (.int (0 : Int32)), .val (.int (1 : Int32)), .val (.int (valF d1 l1))]) at_631 rfl (pc' := 633) rfl ?_
              refine Seg.iconst (v := -1) at_633 (by decide) (pc' := 634) rfl ?_
              refine Seg.istore (L' := #[.val (.int p1), .val (.long d1), .second, .val (.long d2), .second, .val (.int p4), .val (.int p5), .val (.int (Int32.ofNat s)), t8, .val (.int (Int32.ofNat l1)), t10, .val (.int dac), .val (.int (Int32.ofNat l2)), t13, t14, t15, t16, t17, t18, .val (.int head), .val (.int sep), .val (.int close), t22, t23, .val (.int (Int32.ofNat (s + 1 + l1))), .val (.int (Int32.ofNat (s + 1 + l1 + 1))), .val (.int (Int32.ofNat (s + 1 + l1 + 1 + l2))), .val (.int (Int32.ofNat e)), t28, .val (.ref r), .val (.int (1 : Int32)), .val (.int (valF d1 l1)), .val (.int (-1 : Int32)), .val (.int (0 : Int32)), .val (.int (1 : Int32)), .val (.int (valF d1 l1))]) at_634 rfl (pc' := 636) rfl ?_
              refine Seg.iload at_636 rfl (pc' := 638) rfl ?_
              refine Seg.iconst (v := 1) at_638 (by decide) (pc' := 639) rfl ?_
              refine Seg.iadd (v := (Int32.ofNat (s + 1 + l1 + 1 + 1))) at_639 (n32s _) (pc' := 640) rfl ?_
              refine Seg.istore (L' := #[.val (.int p1), .val (.long d1), .second, .val (.long d2), .second, .val (.int p4), .val (.int p5), .val (.int (Int32.ofNat s)), t8, .val (.int (Int32.ofNat l1)), t10, .val (.int dac), .val (.int (Int32.ofNat l2)), t13, t14, t15, t16, t17, t18, .val (.int head), .val (.int sep), .val (.int close), t22, t23, .val (.int (Int32.ofNat (s + 1 + l1))), .val (.int (Int32.ofNat (s + 1 + l1 + 1))), .val (.int (Int32.ofNat (s + 1 + l1 + 1 + l2))), .val (.int (Int32.ofNat e)), t28, .val (.ref r), .val (.int (1 : Int32)), .val (.int (valF d1 l1)), .val (.int (-1 : Int32)), .val (.int (Int32.ofNat (s + 1 + l1 + 1 + 1))), .val (.int (1 : Int32)), .val (.int (valF d1 l1))]) at_640 rfl (pc' := 642) rfl ?_
              refine Seg.goto (pc' := 694) at_642 (by decide) (by decide) ?_
              rw [cd_c1 H (by omega) c c2 e2 e3 (by have := (H.2.2.2.2.2.2 hd).2; rw [e4, Nat.add_zero, e5] at this; exact this)] at O
              exact sgT1 G p1 d1 d2 p4 p5 _ _ _ _ _ _ _ _ _ _ _ _ _ s l1 l2 e dac head sep close r (valF d1 l1) (-1) (Int32.ofNat (s + 1 + l1 + 1 + 1)) h (Or.inr ⟨_, rfl⟩) O
            · refine Seg.icY (pc' := 694) at_623 (XT.ii_ne_t e5) (by decide) (by decide) ?_
              rw [cd_c3 H hd hcl c c2 e2 e4 e5] at O
              exact sgT0 G p1 d1 d2 p4 p5 _ _ _ _ _ _ _ _ _ _ _ _ _ s l1 l2 e dac head sep close r h O
          · refine Seg.icY (pc' := 694) at_616 (XT.ii_le_t (n32nlt (by omega) (by omega))) (by decide) (by decide) ?_
            rw [cd_c2 H c c2 e2 e3] at O
            exact sgT0 G p1 d1 d2 p4 p5 _ _ _ _ _ _ _ _ _ _ _ _ _ s l1 l2 e dac head sep close r h O
        · refine Seg.ifY (pc' := 645) at_609 (XT.i0_ne_t fun q => e4 (n32eq (j := 0) (by omega) (by decide) q)) (by decide) (by decide) ?_
          refine Seg.iload at_645 rfl (pc' := 647) rfl ?_
          refine Seg.iload at_647 rfl (pc' := 649) rfl ?_
          by_cases e3 : s + 1 + l1 + 1 + l2 < e
          · refine Seg.icN at_649 (XT.ii_le_f (n32lt e3 (by omega))) (pc' := 652) rfl ?_
            refine Seg.iload at_652 rfl (pc' := 654) rfl ?_
            refine Seg.iconst (v := 1) at_654 (by decide) (pc' := 655) rfl ?_
            by_cases e6 : 1 < l2
            · refine Seg.icN at_655 (XT.ii_le_f (n32lt (i := 1) e6 (by omega))) (pc' := 658) rfl ?_
              refine Seg.lloadN at_658 rfl (pc' := 659) rfl ?_
              refine Seg.iconst (v := 0) at_659 (by decide) (pc' := 660) rfl ?_
              refine Seg.callS (y' := (⟨"com/example/wardn/wardn/rules/RepetitionOperatorAtPinLaw", "digitOf", "(JI)I"⟩ : MethodName)) (wd G 121 rfl) (wd G 122 rfl) (wd G 3 rfl) (wd G 123 rfl) ⟨by decide, by decide⟩ (Pays.of_ct (W := 0) (ct_dg G d2 0 h) all0 (wd G 123 rfl) (wd G 3 rfl) (by decide) (by decide) rfl rfl) (argsL := [(.long d2), (.int (0 : Int32))]) (rest := []) rfl (lenOf pd_10 rfl) rfl (Nat.le_of_eq rfl) rfl at_660 (pc' := 663) rfl (k' := 20) (n' := 200) rfl rfl (by decide) (by decide) ?_
              intro v_5 h_8 sz_6 q_7
              obtain ⟨rfl, rfl⟩ := q_7
              by_cases e7 : dg d2 0 = 0
              · refine Seg.ifY (pc' := 694) at_663 (XT.i0_eq_t e7) (by decide) (by decide) ?_
                rw [cd_d2 H hd hcl c c2 e2 e4 (Or.inr (Or.inl ⟨e6, e7⟩))] at O
                exact sgT0 G p1 d1 d2 p4 p5 _ _ _ _ _ _ _ _ _ _ _ _ _ s l1 l2 e dac head sep close r h O
              · refine Seg.ifN at_663 (XT.i0_eq_f e7) (pc' := 666) rfl ?_
                refine Seg.iload at_666 rfl (pc' := 668) rfl ?_
                refine Seg.bipush (v := 125) at_668 (by decide) (pc' := 670) rfl ?_
                by_cases e5 : close = 125
                · refine Seg.icN at_670 (XT.ii_ne_f e5) (pc' := 673) rfl ?_
                  refine Seg.iconst (v := 1) at_673 (by decide) (pc' := 674) rfl ?_
                  refine Seg.istore (L' := #[.val (.int p1), .val (.long d1), .second, .val (.long d2), .second, .val (.int p4), .val (.int p5), .val (.int (Int32.ofNat s)), t8, .val (.int (Int32.ofNat l1)), t10, .val (.int dac), .val (.int (Int32.ofNat l2)), t13, t14, t15, t16, t17, t18, .val (.int head), .val (.int sep), .val (.int close), t22, t23, .val (.int (Int32.ofNat (s + 1 + l1))), .val (.int (Int32.ofNat (s + 1 + l1 + 1))), .val (.int (Int32.ofNat (s + 1 + l1 + 1 + l2))), .val (.int (Int32.ofNat e)), t28, .val (.ref r), .val (.int (1 : Int32)), .val (.int (0 : Int32)), .val (.int (0 : Int32)), .val (.int (0 : Int32)), .val (.int (1 : Int32)), .val (.int (valF d1 l1))]) at_674 rfl (pc' := 676) rfl ?_
                  refine Seg.iload at_676 rfl (pc' := 678) rfl ?_
                  refine Seg.istore (L' := #[.val (.int p1), .val (.long d1), .second, .val (.long d2), .second, .val (.int p4), .val (.int p5), .val (.int (Int32.ofNat s)), t8, .val (.int (Int32.ofNat l1)), t10, .val (.int dac), .val (.int (Int32.ofNat l2)), t13, t14, t15, t16, t17, t18, .val (.int head), .val (.int sep), .val (.int close), t22, t23, .val (.int (Int32.ofNat (s + 1 + l1))), .val (.int (Int32.ofNat (s + 1 + l1 + 1))), .val (.int (Int32.ofNat (s + 1 + l1 + 1 + l2))), .val (.int (Int32.ofNat e)), t28, .val (.ref r), .val (.int (1 : Int32)), .val (.int (valF d1 l1)), .val (.int (0 : Int32)), .val (.int (0 : Int32)), .val (.int (1 : Int32)), .val (.int (valF d1 l1))]) at_678 rfl (pc' := 680) rfl ?_
                  refine Seg.lloadN at_680 rfl (pc' := 681) rfl ?_
                  refine Seg.iload at_681 rfl (pc' := 683) rfl ?_
                  refine Seg.callS (y' := (⟨"com/example/wardn/wardn/rules/RepetitionOperatorAtPinLaw", "value", "(JI)I"⟩ : MethodName)) (wd G 145 rfl) (wd G 146 rfl) (wd G 3 rfl) (wd G 147 rfl) ⟨by decide, by decide⟩ (Pays.of_ct (W := 0) (ct_vl G d2 l2 h (by omega)) all0 (wd G 147 rfl) (wd G 3 rfl) (by decide) (by decide) rfl rfl) (argsL := [(.long d2), (.int (Int32.ofNat l2))]) (rest := []) rfl (lenOf pd_10 rfl) rfl (Nat.le_of_eq rfl) rfl at_683 (pc' := 686) rfl (k' := 20) (n' := 200) rfl rfl (by decide) (by decide) ?_
                  intro v_9 h_12 sz_10 q_11
                  obtain ⟨rfl, rfl⟩ := q_11
                  refine Seg.istore (L' := #[.val (.int p1), .val (.long d1), .second, .val (.long d2), .second, .val (.int p4), .val (.int p5), .val (.int (Int32.ofNat s)), t8, .val (.int (Int32.ofNat l1)), t10, .val (.int dac), .val (.int (Int32.ofNat l2)), t13, t14, t15, t16, t17, t18, .val (.int head), .val (.int sep), .val (.int close), t22, t23, .val (.int (Int32.ofNat (s + 1 + l1))), .val (.int (Int32.ofNat (s + 1 + l1 + 1))), .val (.int (Int32.ofNat (s + 1 + l1 + 1 + l2))), .val (.int (Int32.ofNat e)), t28, .val (.ref r), .val (.int (1 : Int32)), .val (.int (valF d1 l1)), .val (.int (valF d2 l2)), .val (.int (0 : Int32)), .val (.int (1 : Int32)), .val (.int (valF d1 l1))]) at_686 rfl (pc' := 688) rfl ?_
                  refine Seg.iload at_688 rfl (pc' := 690) rfl ?_
                  refine Seg.iconst (v := 1) at_690 (by decide) (pc' := 691) rfl ?_
                  refine Seg.iadd (v := (Int32.ofNat (s + 1 + l1 + 1 + l2 + 1))) at_691 (n32s _) (pc' := 692) rfl ?_
                  refine Seg.istore (L' := #[.val (.int p1), .val (.long d1), .second, .val (.long d2), .second, .val (.int p4), .val (.int p5), .val (.int (Int32.ofNat s)), t8, .val (.int (Int32.ofNat l1)), t10, .val (.int dac), .val (.int (Int32.ofNat l2)), t13, t14, t15, t16, t17, t18, .val (.int head), .val (.int sep), .val (.int close), t22, t23, .val (.int (Int32.ofNat (s + 1 + l1))), .val (.int (Int32.ofNat (s + 1 + l1 + 1))), .val (.int (Int32.ofNat (s + 1 + l1 + 1 + l2))), .val (.int (Int32.ofNat e)), t28, .val (.ref r), .val (.int (1 : Int32)), .val (.int (valF d1 l1)), .val (.int (valF d2 l2)), .val (.int (Int32.ofNat (s + 1 + l1 + 1 + l2 + 1))), .val (.int (1 : Int32)), .val (.int (valF d1 l1))]) at_692 rfl (pc' := 694) rfl ?_
                  rw [cd_d1 H hd hcl (by omega) (by omega) c c2 e2 e4 e3 (fun q => e7 q.2) e5] at O
                  exact sgT1 G p1 d1 d2 p4 p5 _ _ _ _ _ _ _ _ _ _ _ _ _ s l1 l2 e dac head sep close r (valF d1 l1) (valF d2 l2) (Int32.ofNat (s + 1 + l1 + 1 + l2 + 1)) h (Or.inr ⟨_, rfl⟩) O
                · refine Seg.icY (pc' := 694) at_670 (XT.ii_ne_t e5) (by decide) (by decide) ?_
                  rw [cd_d2 H hd hcl c c2 e2 e4 (Or.inr (Or.inr e5))] at O
                  exact sgT0 G p1 d1 d2 p4 p5 _ _ _ _ _ _ _ _ _ _ _ _ _ s l1 l2 e dac head sep close r h O
            · refine Seg.icY (pc' := 666) at_655 (XT.ii_le_t (n32nlt (i := 1) (by omega) (by decide))) (by decide) (by decide) ?_
              refine Seg.iload at_666 rfl (pc' := 668) rfl ?_
              refine Seg.bipush (v := 125) at_668 (by decide) (pc' := 670) rfl ?_
              by_cases e5 : close = 125
              · refine Seg.icN at_670 (XT.ii_ne_f e5) (pc' := 673) rfl ?_
                refine Seg.iconst (v := 1) at_673 (by decide) (pc' := 674) rfl ?_
                refine Seg.istore (L' := #[.val (.int p1), .val (.long d1), .second, .val (.long d2), .second, .val (.int p4), .val (.int p5), .val (.int (Int32.ofNat s)), t8, .val (.int (Int32.ofNat l1)), t10, .val (.int dac), .val (.int (Int32.ofNat l2)), t13, t14, t15, t16, t17, t18, .val (.int head), .val (.int sep), .val (.int close), t22, t23, .val (.int (Int32.ofNat (s + 1 + l1))), .val (.int (Int32.ofNat (s + 1 + l1 + 1))), .val (.int (Int32.ofNat (s + 1 + l1 + 1 + l2))), .val (.int (Int32.ofNat e)), t28, .val (.ref r), .val (.int (1 : Int32)), .val (.int (0 : Int32)), .val (.int (0 : Int32)), .val (.int (0 : Int32)), .val (.int (1 : Int32)), .val (.int (valF d1 l1))]) at_674 rfl (pc' := 676) rfl ?_
                refine Seg.iload at_676 rfl (pc' := 678) rfl ?_
                refine Seg.istore (L' := #[.val (.int p1), .val (.long d1), .second, .val (.long d2), .second, .val (.int p4), .val (.int p5), .val (.int (Int32.ofNat s)), t8, .val (.int (Int32.ofNat l1)), t10, .val (.int dac), .val (.int (Int32.ofNat l2)), t13, t14, t15, t16, t17, t18, .val (.int head), .val (.int sep), .val (.int close), t22, t23, .val (.int (Int32.ofNat (s + 1 + l1))), .val (.int (Int32.ofNat (s + 1 + l1 + 1))), .val (.int (Int32.ofNat (s + 1 + l1 + 1 + l2))), .val (.int (Int32.ofNat e)), t28, .val (.ref r), .val (.int (1 : Int32)), .val (.int (valF d1 l1)), .val (.int (0 : Int32)), .val (.int (0 : Int32)), .val (.int (1 : Int32)), .val (.int (valF d1 l1))]) at_678 rfl (pc' := 680) rfl ?_
                refine Seg.lloadN at_680 rfl (pc' := 681) rfl ?_
                refine Seg.iload at_681 rfl (pc' := 683) rfl ?_
                refine Seg.callS (y' := (⟨"com/example/wardn/wardn/rules/RepetitionOperatorAtPinLaw", "value", "(JI)I"⟩ : MethodName)) (wd G 145 rfl) (wd G 146 rfl) (wd G 3 rfl) (wd G 147 rfl) ⟨by decide, by decide⟩ (Pays.of_ct (W := 0) (ct_vl G d2 l2 h (by omega)) all0 (wd G 147 rfl) (wd G 3 rfl) (by decide) (by decide) rfl rfl) (argsL := [(.long d2), (.int (Int32.ofNat l2))]) (rest := []) rfl (lenOf pd_10 rfl) rfl (Nat.le_of_eq rfl) rfl at_683 (pc' := 686) rfl (k' := 20) (n' := 200) rfl rfl (by decide) (by decide) ?_
                intro v_13 h_16 sz_14 q_15
                obtain ⟨rfl, rfl⟩ := q_15
                refine Seg.istore (L' := #[.val (.int p1), .val (.long d1), .second, .val (.long d2), .second, .val (.int p4), .val (.int p5), .val (.int (Int32.ofNat s)), t8, .val (.int (Int32.ofNat l1)), t10, .val (.int dac), .val (.int (Int32.ofNat l2)), t13, t14, t15, t16, t17, t18, .val (.int head), .val (.int sep), .val (.int close), t22, t23, .val (.int (Int32.ofNat (s + 1 + l1))), .val (.int (Int32.ofNat (s + 1 + l1 + 1))), .val (.int (Int32.ofNat (s + 1 + l1 + 1 + l2))), .val (.int (Int32.ofNat e)), t28, .val (.ref r), .val (.int (1 : Int32)), .val (.int (valF d1 l1)), .val (.int (valF d2 l2)), .val (.int (0 : Int32)), .val (.int (1 : Int32)), .val (.int (valF d1 l1))]) at_686 rfl (pc' := 688) rfl ?_
                refine Seg.iload at_688 rfl (pc' := 690) rfl ?_
                refine Seg.iconst (v := 1) at_690 (by decide) (pc' := 691) rfl ?_
                refine Seg.iadd (v := (Int32.ofNat (s + 1 + l1 + 1 + l2 + 1))) at_691 (n32s _) (pc' := 692) rfl ?_
                refine Seg.istore (L' := #[.val (.int p1), .val (.long d1), .second, .val (.long d2), .second, .val (.int p4), .val (.int p5), .val (.int (Int32.ofNat s)), t8, .val (.int (Int32.ofNat l1)), t10, .val (.int dac), .val (.int (Int32.ofNat l2)), t13, t14, t15, t16, t17, t18, .val (.int head), .val (.int sep), .val (.int close), t22, t23, .val (.int (Int32.ofNat (s + 1 + l1))), .val (.int (Int32.ofNat (s + 1 + l1 + 1))), .val (.int (Int32.ofNat (s + 1 + l1 + 1 + l2))), .val (.int (Int32.ofNat e)), t28, .val (.ref r), .val (.int (1 : Int32)), .val (.int (valF d1 l1)), .val (.int (valF d2 l2)), .val (.int (Int32.ofNat (s + 1 + l1 + 1 + l2 + 1))), .val (.int (1 : Int32)), .val (.int (valF d1 l1))]) at_692 rfl (pc' := 694) rfl ?_
                rw [cd_d1 H hd hcl (by omega) (by omega) c c2 e2 e4 e3 (fun q => e6 q.1) e5] at O
                exact sgT1 G p1 d1 d2 p4 p5 _ _ _ _ _ _ _ _ _ _ _ _ _ s l1 l2 e dac head sep close r (valF d1 l1) (valF d2 l2) (Int32.ofNat (s + 1 + l1 + 1 + l2 + 1)) h (Or.inr ⟨_, rfl⟩) O
              · refine Seg.icY (pc' := 694) at_670 (XT.ii_ne_t e5) (by decide) (by decide) ?_
                rw [cd_d2 H hd hcl c c2 e2 e4 (Or.inr (Or.inr e5))] at O
                exact sgT0 G p1 d1 d2 p4 p5 _ _ _ _ _ _ _ _ _ _ _ _ _ s l1 l2 e dac head sep close r h O
          · refine Seg.icY (pc' := 694) at_649 (XT.ii_le_t (n32nlt (by omega) (by omega))) (by decide) (by decide) ?_
            rw [cd_d2 H hd hcl c c2 e2 e4 (Or.inl e3)] at O
            exact sgT0 G p1 d1 d2 p4 p5 _ _ _ _ _ _ _ _ _ _ _ _ _ s l1 l2 e dac head sep close r h O
    · refine Seg.icY (pc' := 694) at_573 (XT.ii_ne_t e2) (by decide) (by decide) ?_
      rw [cd_sep H c e1 e2] at O
      exact sgT0 G p1 d1 d2 p4 p5 _ _ _ _ _ _ _ _ _ _ _ _ _ s l1 l2 e dac head sep close r h O
set_option maxRecDepth 65536 in
set_option maxHeartbeats 4000000 in
theorem sg406 {l : Launch} {Z : State} {a0 : Array Value} (G : Env1 Z a0) (p1 : Int32) (d1 : Int64) (d2 : Int64) (p4 : Int32) (p5 : Int32) (t8 : Slot) (t10 : Slot) (t13 : Slot) (t14 : Slot) (t15 : Slot) (t16 : Slot) (t17 : Slot) (t18 : Slot) (t22 : Slot) (t23 : Slot) (t28 : Slot) (s : Nat) (l1 : Nat) (l2 : Nat) (e : Nat) (dac : Int32) (head : Int32) (sep : Int32) (close : Int32) (r : Addr) (cs : List Int32) (h : Heap) (hs : s < 2) (hl1 : l1 < 12) (hl2 : l2 < 12) (he : e < 28) (hsep : ¬ isD sep) (hcl : ¬ isD close) (H : SP cs s head l1 d1 sep dac l2 d2 close) (O : OptR Z h r (atF cs s e)) :
    Seg l Z a0 EL1 x code maxLocals ret room_1 (fun v h => v = some (.int 1)) h 20 200 [] 406 #[.val (.int p1), .val (.long d1), .second, .val (.long d2), .second, .val (.int p4), .val (.int p5), .val (.int (Int32.ofNat s)), t8, .val (.int (Int32.ofNat l1)), t10, .val (.int dac), .val (.int (Int32.ofNat l2)), t13, t14, t15, t16, t17, t18, .val (.int head), .val (.int sep), .val (.int close), t22, t23, .val (.int (Int32.ofNat (s + 1 + l1))), .val (.int (Int32.ofNat (s + 1 + l1 + 1))), .val (.int (Int32.ofNat (s + 1 + l1 + 1 + l2))), .val (.int (Int32.ofNat e)), t28, .val (.ref r), .val (.int (0 : Int32)), .val (.int (0 : Int32)), .val (.int (0 : Int32)), .val (.int (0 : Int32)), .unset, .unset] [] := by
  refine Seg.iload at_406 rfl (pc' := 408) rfl ?_
  refine Seg.iload at_408 rfl (pc' := 410) rfl ?_
  by_cases a1 : s < e
  · refine Seg.icN at_410 (XT.ii_ge_f (n32lt a1 (by omega))) (pc' := 413) rfl ?_
    refine Seg.iload at_413 rfl (pc' := 415) rfl ?_
    refine Seg.bipush (v := 42) at_415 (by decide) (pc' := 417) rfl ?_
    by_cases b0 : head = 42
    · refine Seg.icN at_417 (XT.ii_ne_f b0) (pc' := 420) rfl ?_
      refine Seg.iconst (v := 1) at_420 (by decide) (pc' := 421) rfl ?_
      refine Seg.istore (L' := #[.val (.int p1), .val (.long d1), .second, .val (.long d2), .second, .val (.int p4), .val (.int p5), .val (.int (Int32.ofNat s)), t8, .val (.int (Int32.ofNat l1)), t10, .val (.int dac), .val (.int (Int32.ofNat l2)), t13, t14, t15, t16, t17, t18, .val (.int head), .val (.int sep), .val (.int close), t22, t23, .val (.int (Int32.ofNat (s + 1 + l1))), .val (.int (Int32.ofNat (s + 1 + l1 + 1))), .val (.int (Int32.ofNat (s + 1 + l1 + 1 + l2))), .val (.int (Int32.ofNat e)), t28, .val (.ref r), .val (.int (1 : Int32)), .val (.int (0 : Int32)), .val (.int (0 : Int32)), .val (.int (0 : Int32)), .unset, .unset]) at_421 rfl (pc' := 423) rfl ?_
      refine Seg.iconst (v := 0) at_423 (by decide) (pc' := 424) rfl ?_
      refine Seg.istore (L' := #[.val (.int p1), .val (.long d1), .second, .val (.long d2), .second, .val (.int p4), .val (.int p5), .val (.int (Int32.ofNat s)), t8, .val (.int (Int32.ofNat l1)), t10, .val (.int dac), .val (.int (Int32.ofNat l2)), t13, t14, t15, t16, t17, t18, .val (.int head), .val (.int sep), .val (.int close), t22, t23, .val (.int (Int32.ofNat (s + 1 + l1))), .val (.int (Int32.ofNat (s + 1 + l1 + 1))), .val (.int (Int32.ofNat (s + 1 + l1 + 1 + l2))), .val (.int (Int32.ofNat e)), t28, .val (.ref r), .val (.int (1 : Int32)), .val (.int (0 : Int32)), .val (.int (0 : Int32)), .val (.int (0 : Int32)), .unset, .unset]) at_424 rfl (pc' := 426) rfl ?_
      refine Seg.iconst (v := -1) at_426 (by decide) (pc' := 427) rfl ?_
      refine Seg.istore (L' := #[.val (.int p1), .val (.long d1), .second, .val (.long d2), .second, .val (.int p4), .val (.int p5), .val (.int (Int32.ofNat s)), t8, .val (.int (Int32.ofNat l1)), t10, .val (.int dac), .val (.int (Int32.ofNat l2)), t13, t14, t15, t16, t17, t18, .val (.int head), .val (.int sep), .val (.int close), t22, t23, .val (.int (Int32.ofNat (s + 1 + l1))), .val (.int (Int32.ofNat (s + 1 + l1 + 1))), .val (.int (Int32.ofNat (s + 1 + l1 + 1 + l2))), .val (.int (Int32.ofNat e)), t28, .val (.ref r), .val (.int (1 : Int32)), .val (.int (0 : Int32)), .val (.int (-1 : Int32)), .val (.int (0 : Int32)), .unset, .unset]) at_427 rfl (pc' := 429) rfl ?_
      refine Seg.iload at_429 rfl (pc' := 431) rfl ?_
      refine Seg.iconst (v := 1) at_431 (by decide) (pc' := 432) rfl ?_
      refine Seg.iadd (v := (Int32.ofNat (s + 1))) at_432 (n32s _) (pc' := 433) rfl ?_
      refine Seg.istore (L' := #[.val (.int p1), .val (.long d1), .second, .val (.long d2), .second, .val (.int p4), .val (.int p5), .val (.int (Int32.ofNat s)), t8, .val (.int (Int32.ofNat l1)), t10, .val (.int dac), .val (.int (Int32.ofNat l2)), t13, t14, t15, t16, t17, t18, .val (.int head), .val (.int sep), .val (.int close), t22, t23, .val (.int (Int32.ofNat (s + 1 + l1))), .val (.int (Int32.ofNat (s + 1 + l1 + 1))), .val (.int (Int32.ofNat (s + 1 + l1 + 1 + l2))), .val (.int (Int32.ofNat e)), t28, .val (.ref r), .val (.int (1 : Int32)), .val (.int (0 : Int32)), .val (.int (-1 : Int32)), .val (.int (Int32.ofNat (s + 1))), .unset, .unset]) at_433 rfl (pc' := 435) rfl ?_
      refine Seg.goto (pc' := 694) at_435 (by decide) (by decide) ?_
      rw [at_star H a1 b0] at O
      exact sgT1 G p1 d1 d2 p4 p5 _ _ _ _ _ _ _ _ _ _ _ _ _ s l1 l2 e dac head sep close r 0 (-1) (Int32.ofNat (s + 1)) h (Or.inl rfl) O
    · refine Seg.icY (pc' := 438) at_417 (XT.ii_ne_t b0) (by decide) (by decide) ?_
      refine Seg.iload at_438 rfl (pc' := 440) rfl ?_
      refine Seg.bipush (v := 43) at_440 (by decide) (pc' := 442) rfl ?_
      by_cases b1 : head = 43
      · refine Seg.icN at_442 (XT.ii_ne_f b1) (pc' := 445) rfl ?_
        refine Seg.iconst (v := 1) at_445 (by decide) (pc' := 446) rfl ?_
        refine Seg.istore (L' := #[.val (.int p1), .val (.long d1), .second, .val (.long d2), .second, .val (.int p4), .val (.int p5), .val (.int (Int32.ofNat s)), t8, .val (.int (Int32.ofNat l1)), t10, .val (.int dac), .val (.int (Int32.ofNat l2)), t13, t14, t15, t16, t17, t18, .val (.int head), .val (.int sep), .val (.int close), t22, t23, .val (.int (Int32.ofNat (s + 1 + l1))), .val (.int (Int32.ofNat (s + 1 + l1 + 1))), .val (.int (Int32.ofNat (s + 1 + l1 + 1 + l2))), .val (.int (Int32.ofNat e)), t28, .val (.ref r), .val (.int (1 : Int32)), .val (.int (0 : Int32)), .val (.int (0 : Int32)), .val (.int (0 : Int32)), .unset, .unset]) at_446 rfl (pc' := 448) rfl ?_
        refine Seg.iconst (v := 1) at_448 (by decide) (pc' := 449) rfl ?_
        refine Seg.istore (L' := #[.val (.int p1), .val (.long d1), .second, .val (.long d2), .second, .val (.int p4), .val (.int p5), .val (.int (Int32.ofNat s)), t8, .val (.int (Int32.ofNat l1)), t10, .val (.int dac), .val (.int (Int32.ofNat l2)), t13, t14, t15, t16, t17, t18, .val (.int head), .val (.int sep), .val (.int close), t22, t23, .val (.int (Int32.ofNat (s + 1 + l1))), .val (.int (Int32.ofNat (s + 1 + l1 + 1))), .val (.int (Int32.ofNat (s + 1 + l1 + 1 + l2))), .val (.int (Int32.ofNat e)), t28, .val (.ref r), .val (.int (1 : Int32)), .val (.int (1 : Int32)), .val (.int (0 : Int32)), .val (.int (0 : Int32)), .unset, .unset]) at_449 rfl (pc' := 451) rfl ?_
        refine Seg.iconst (v := -1) at_451 (by decide) (pc' := 452) rfl ?_
        refine Seg.istore (L' := #[.val (.int p1), .val (.long d1), .second, .val (.long d2), .second, .val (.int p4), .val (.int p5), .val (.int (Int32.ofNat s)), t8, .val (.int (Int32.ofNat l1)), t10, .val (.int dac), .val (.int (Int32.ofNat l2)), t13, t14, t15, t16, t17, t18, .val (.int head), .val (.int sep), .val (.int close), t22, t23, .val (.int (Int32.ofNat (s + 1 + l1))), .val (.int (Int32.ofNat (s + 1 + l1 + 1))), .val (.int (Int32.ofNat (s + 1 + l1 + 1 + l2))), .val (.int (Int32.ofNat e)), t28, .val (.ref r), .val (.int (1 : Int32)), .val (.int (1 : Int32)), .val (.int (-1 : Int32)), .val (.int (0 : Int32)), .unset, .unset]) at_452 rfl (pc' := 454) rfl ?_
        refine Seg.iload at_454 rfl (pc' := 456) rfl ?_
        refine Seg.iconst (v := 1) at_456 (by decide) (pc' := 457) rfl ?_
        refine Seg.iadd (v := (Int32.ofNat (s + 1))) at_457 (n32s _) (pc' := 458) rfl ?_
        refine Seg.istore (L' := #[.val (.int p1), .val (.long d1), .second, .val (.long d2), .second, .val (.int p4), .val (.int p5), .val (.int (Int32.ofNat s)), t8, .val (.int (Int32.ofNat l1)), t10, .val (.int dac), .val (.int (Int32.ofNat l2)), t13, t14, t15, t16, t17, t18, .val (.int head), .val (.int sep), .val (.int close), t22, t23, .val (.int (Int32.ofNat (s + 1 + l1))), .val (.int (Int32.ofNat (s + 1 + l1 + 1))), .val (.int (Int32.ofNat (s + 1 + l1 + 1 + l2))), .val (.int (Int32.ofNat e)), t28, .val (.ref r), .val (.int (1 : Int32)), .val (.int (1 : Int32)), .val (.int (-1 : Int32)), .val (.int (Int32.ofNat (s + 1))), .unset, .unset]) at_458 rfl (pc' := 460) rfl ?_
        refine Seg.goto (pc' := 694) at_460 (by decide) (by decide) ?_
        rw [at_plus H a1 b1] at O
        exact sgT1 G p1 d1 d2 p4 p5 _ _ _ _ _ _ _ _ _ _ _ _ _ s l1 l2 e dac head sep close r 1 (-1) (Int32.ofNat (s + 1)) h (Or.inl rfl) O
      · refine Seg.icY (pc' := 463) at_442 (XT.ii_ne_t b1) (by decide) (by decide) ?_
        refine Seg.iload at_463 rfl (pc' := 465) rfl ?_
        refine Seg.bipush (v := 63) at_465 (by decide) (pc' := 467) rfl ?_
        by_cases b2 : head = 63
        · refine Seg.icN at_467 (XT.ii_ne_f b2) (pc' := 470) rfl ?_
          refine Seg.iconst (v := 1) at_470 (by decide) (pc' := 471) rfl ?_
          refine Seg.istore (L' := #[.val (.int p1), .val (.long d1), .second, .val (.long d2), .second, .val (.int p4), .val (.int p5), .val (.int (Int32.ofNat s)), t8, .val (.int (Int32.ofNat l1)), t10, .val (.int dac), .val (.int (Int32.ofNat l2)), t13, t14, t15, t16, t17, t18, .val (.int head), .val (.int sep), .val (.int close), t22, t23, .val (.int (Int32.ofNat (s + 1 + l1))), .val (.int (Int32.ofNat (s + 1 + l1 + 1))), .val (.int (Int32.ofNat (s + 1 + l1 + 1 + l2))), .val (.int (Int32.ofNat e)), t28, .val (.ref r), .val (.int (1 : Int32)), .val (.int (0 : Int32)), .val (.int (0 : Int32)), .val (.int (0 : Int32)), .unset, .unset]) at_471 rfl (pc' := 473) rfl ?_
          refine Seg.iconst (v := 0) at_473 (by decide) (pc' := 474) rfl ?_
          refine Seg.istore (L' := #[.val (.int p1), .val (.long d1), .second, .val (.long d2), .second, .val (.int p4), .val (.int p5), .val (.int (Int32.ofNat s)), t8, .val (.int (Int32.ofNat l1)), t10, .val (.int dac), .val (.int (Int32.ofNat l2)), t13, t14, t15, t16, t17, t18, .val (.int head), .val (.int sep), .val (.int close), t22, t23, .val (.int (Int32.ofNat (s + 1 + l1))), .val (.int (Int32.ofNat (s + 1 + l1 + 1))), .val (.int (Int32.ofNat (s + 1 + l1 + 1 + l2))), .val (.int (Int32.ofNat e)), t28, .val (.ref r), .val (.int (1 : Int32)), .val (.int (0 : Int32)), .val (.int (0 : Int32)), .val (.int (0 : Int32)), .unset, .unset]) at_474 rfl (pc' := 476) rfl ?_
          refine Seg.iconst (v := 1) at_476 (by decide) (pc' := 477) rfl ?_
          refine Seg.istore (L' := #[.val (.int p1), .val (.long d1), .second, .val (.long d2), .second, .val (.int p4), .val (.int p5), .val (.int (Int32.ofNat s)), t8, .val (.int (Int32.ofNat l1)), t10, .val (.int dac), .val (.int (Int32.ofNat l2)), t13, t14, t15, t16, t17, t18, .val (.int head), .val (.int sep), .val (.int close), t22, t23, .val (.int (Int32.ofNat (s + 1 + l1))), .val (.int (Int32.ofNat (s + 1 + l1 + 1))), .val (.int (Int32.ofNat (s + 1 + l1 + 1 + l2))), .val (.int (Int32.ofNat e)), t28, .val (.ref r), .val (.int (1 : Int32)), .val (.int (0 : Int32)), .val (.int (1 : Int32)), .val (.int (0 : Int32)), .unset, .unset]) at_477 rfl (pc' := 479) rfl ?_
          refine Seg.iload at_479 rfl (pc' := 481) rfl ?_
          refine Seg.iconst (v := 1) at_481 (by decide) (pc' := 482) rfl ?_
          refine Seg.iadd (v := (Int32.ofNat (s + 1))) at_482 (n32s _) (pc' := 483) rfl ?_
          refine Seg.istore (L' := #[.val (.int p1), .val (.long d1), .second, .val (.long d2), .second, .val (.int p4), .val (.int p5), .val (.int (Int32.ofNat s)), t8, .val (.int (Int32.ofNat l1)), t10, .val (.int dac), .val (.int (Int32.ofNat l2)), t13, t14, t15, t16, t17, t18, .val (.int head), .val (.int sep), .val (.int close), t22, t23, .val (.int (Int32.ofNat (s + 1 + l1))), .val (.int (Int32.ofNat (s + 1 + l1 + 1))), .val (.int (Int32.ofNat (s + 1 + l1 + 1 + l2))), .val (.int (Int32.ofNat e)), t28, .val (.ref r), .val (.int (1 : Int32)), .val (.int (0 : Int32)), .val (.int (1 : Int32)), .val (.int (Int32.ofNat (s + 1))), .unset, .unset]) at_483 rfl (pc' := 485) rfl ?_
          refine Seg.goto (pc' := 694) at_485 (by decide) (by decide) ?_
          rw [at_opt H a1 b2] at O
          exact sgT1 G p1 d1 d2 p4 p5 _ _ _ _ _ _ _ _ _ _ _ _ _ s l1 l2 e dac head sep close r 0 1 (Int32.ofNat (s + 1)) h (Or.inl rfl) O
        · refine Seg.icY (pc' := 488) at_467 (XT.ii_ne_t b2) (by decide) (by decide) ?_
          refine Seg.iload at_488 rfl (pc' := 490) rfl ?_
          refine Seg.bipush (v := 123) at_490 (by decide) (pc' := 492) rfl ?_
          by_cases b3 : head = 123
          · refine Seg.icN at_492 (XT.ii_ne_f b3) (pc' := 495) rfl ?_
            rw [at_brace H a1 b3] at O
            refine Seg.iload at_495 rfl (pc' := 497) rfl ?_
            refine Seg.iconst (v := 1) at_497 (by decide) (pc' := 498) rfl ?_
            by_cases c1 : l1 < 1
            · refine Seg.icY (pc' := 526) at_498 (XT.ii_lt_t (n32lt (n := 1) c1 (by decide))) (by decide) (by decide) ?_
              refine Seg.iconst (v := 0) at_526 (by decide) (pc' := 527) rfl ?_
              refine Seg.istore (L' := #[.val (.int p1), .val (.long d1), .second, .val (.long d2), .second, .val (.int p4), .val (.int p5), .val (.int (Int32.ofNat s)), t8, .val (.int (Int32.ofNat l1)), t10, .val (.int dac), .val (.int (Int32.ofNat l2)), t13, t14, t15, t16, t17, t18, .val (.int head), .val (.int sep), .val (.int close), t22, t23, .val (.int (Int32.ofNat (s + 1 + l1))), .val (.int (Int32.ofNat (s + 1 + l1 + 1))), .val (.int (Int32.ofNat (s + 1 + l1 + 1 + l2))), .val (.int (Int32.ofNat e)), t28, .val (.ref r), .val (.int (0 : Int32)), .val (.int (0 : Int32)), .val (.int (0 : Int32)), .val (.int (0 : Int32)), .val (.int (0 : Int32)), .unset]) at_527 rfl (pc' := 529) rfl ?_
              refine Seg.iload at_529 rfl (pc' := 531) rfl ?_
              refine Seg.ifY (pc' := 694) at_531 (by decide) (by decide) (by decide) ?_
              rw [cd_no H a1 hsep (Or.inl c1)] at O
              exact sgT0 G p1 d1 d2 p4 p5 _ _ _ _ _ _ _ _ _ _ _ _ _ s l1 l2 e dac head sep close r h O
            · refine Seg.icN at_498 (XT.ii_lt_f (n32nlt (n := 1) (by omega) (by omega))) (pc' := 501) rfl ?_
              refine Seg.iload at_501 rfl (pc' := 503) rfl ?_
              refine Seg.iload at_503 rfl (pc' := 505) rfl ?_
              by_cases c2 : s + 1 + l1 < e
              · refine Seg.icN at_505 (XT.ii_le_f (n32lt c2 (by omega))) (pc' := 508) rfl ?_
                refine Seg.iload at_508 rfl (pc' := 510) rfl ?_
                refine Seg.iconst (v := 1) at_510 (by decide) (pc' := 511) rfl ?_
                by_cases c3 : 1 < l1
                · refine Seg.icN at_511 (XT.ii_le_f (n32lt (i := 1) c3 (by omega))) (pc' := 514) rfl ?_
                  refine Seg.lloadN at_514 rfl (pc' := 515) rfl ?_
                  refine Seg.iconst (v := 0) at_515 (by decide) (pc' := 516) rfl ?_
                  refine Seg.callS (y' := (⟨"com/example/wardn/wardn/rules/RepetitionOperatorAtPinLaw", "digitOf", "(JI)I"⟩ : MethodName)) (wd G 121 rfl) (wd G 122 rfl) (wd G 3 rfl) (wd G 123 rfl) ⟨by decide, by decide⟩ (Pays.of_ct (W := 0) (ct_dg G d1 0 h) all0 (wd G 123 rfl) (wd G 3 rfl) (by decide) (by decide) rfl rfl) (argsL := [(.long d1), (.int (0 : Int32))]) (rest := []) rfl (lenOf pd_10 rfl) rfl (Nat.le_of_eq rfl) rfl at_516 (pc' := 519) rfl (k' := 20) (n' := 200) rfl rfl (by decide) (by decide) ?_
                  intro v_1 h_4 sz_2 q_3
                  obtain ⟨rfl, rfl⟩ := q_3
                  by_cases c4 : dg d1 0 = 0
                  · refine Seg.ifY (pc' := 526) at_519 (XT.i0_eq_t c4) (by decide) (by decide) ?_
                    refine Seg.iconst (v := 0) at_526 (by decide) (pc' := 527) rfl ?_
                    refine Seg.istore (L' := #[.val (.int p1), .val (.long d1), .second, .val (.long d2), .second, .val (.int p4), .val (.int p5), .val (.int (Int32.ofNat s)), t8, .val (.int (Int32.ofNat l1)), t10, .val (.int dac), .val (.int (Int32.ofNat l2)), t13, t14, t15, t16, t17, t18, .val (.int head), .val (.int sep), .val (.int close), t22, t23, .val (.int (Int32.ofNat (s + 1 + l1))), .val (.int (Int32.ofNat (s + 1 + l1 + 1))), .val (.int (Int32.ofNat (s + 1 + l1 + 1 + l2))), .val (.int (Int32.ofNat e)), t28, .val (.ref r), .val (.int (0 : Int32)), .val (.int (0 : Int32)), .val (.int (0 : Int32)), .val (.int (0 : Int32)), .val (.int (0 : Int32)), .unset]) at_527 rfl (pc' := 529) rfl ?_
                    refine Seg.iload at_529 rfl (pc' := 531) rfl ?_
                    refine Seg.ifY (pc' := 694) at_531 (by decide) (by decide) (by decide) ?_
                    rw [cd_no H a1 hsep (Or.inr (Or.inr ⟨c3, c4⟩))] at O
                    exact sgT0 G p1 d1 d2 p4 p5 _ _ _ _ _ _ _ _ _ _ _ _ _ s l1 l2 e dac head sep close r h O
                  · refine Seg.ifN at_519 (XT.i0_eq_f c4) (pc' := 522) rfl ?_
                    refine Seg.iconst (v := 1) at_522 (by decide) (pc' := 523) rfl ?_
                    refine Seg.goto (pc' := 527) at_523 (by decide) (by decide) ?_
                    refine Seg.istore (L' := #[.val (.int p1), .val (.long d1), .second, .val (.long d2), .second, .val (.int p4), .val (.int p5), .val (.int (Int32.ofNat s)), t8, .val (.int (Int32.ofNat l1)), t10, .val (.int dac), .val (.int (Int32.ofNat l2)), t13, t14, t15, t16, t17, t18, .val (.int head), .val (.int sep), .val (.int close), t22, t23, .val (.int (Int32.ofNat (s + 1 + l1))), .val (.int (Int32.ofNat (s + 1 + l1 + 1))), .val (.int (Int32.ofNat (s + 1 + l1 + 1 + l2))), .val (.int (Int32.ofNat e)), t28, .val (.ref r), .val (.int (0 : Int32)), .val (.int (0 : Int32)), .val (.int (0 : Int32)), .val (.int (0 : Int32)), .val (.int (1 : Int32)), .unset]) at_527 rfl (pc' := 529) rfl ?_
                    refine Seg.iload at_529 rfl (pc' := 531) rfl ?_
                    refine Seg.ifN at_531 (by decide) (pc' := 534) rfl ?_
                    exact sg534 G p1 d1 d2 p4 p5 t8 t10 t13 t14 t15 t16 t17 t18 t22 t23 t28 s l1 l2 e dac head sep close r cs h hs hl1 hl2 he hsep hcl H O a1 c1 c2 (fun q => c4 q.2)
                · refine Seg.icY (pc' := 522) at_511 (XT.ii_le_t (n32nlt (i := 1) (by omega) (by decide))) (by decide) (by decide) ?_
                  refine Seg.iconst (v := 1) at_522 (by decide) (pc' := 523) rfl ?_
                  refine Seg.goto (pc' := 527) at_523 (by decide) (by decide) ?_
                  refine Seg.istore (L' := #[.val (.int p1), .val (.long d1), .second, .val (.long d2), .second, .val (.int p4), .val (.int p5), .val (.int (Int32.ofNat s)), t8, .val (.int (Int32.ofNat l1)), t10, .val (.int dac), .val (.int (Int32.ofNat l2)), t13, t14, t15, t16, t17, t18, .val (.int head), .val (.int sep), .val (.int close), t22, t23, .val (.int (Int32.ofNat (s + 1 + l1))), .val (.int (Int32.ofNat (s + 1 + l1 + 1))), .val (.int (Int32.ofNat (s + 1 + l1 + 1 + l2))), .val (.int (Int32.ofNat e)), t28, .val (.ref r), .val (.int (0 : Int32)), .val (.int (0 : Int32)), .val (.int (0 : Int32)), .val (.int (0 : Int32)), .val (.int (1 : Int32)), .unset]) at_527 rfl (pc' := 529) rfl ?_
                  refine Seg.iload at_529 rfl (pc' := 531) rfl ?_
                  refine Seg.ifN at_531 (by decide) (pc' := 534) rfl ?_
                  exact sg534 G p1 d1 d2 p4 p5 t8 t10 t13 t14 t15 t16 t17 t18 t22 t23 t28 s l1 l2 e dac head sep close r cs h hs hl1 hl2 he hsep hcl H O a1 c1 c2 (fun q => c3 q.1)
              · refine Seg.icY (pc' := 526) at_505 (XT.ii_le_t (n32nlt (by omega) (by omega))) (by decide) (by decide) ?_
                refine Seg.iconst (v := 0) at_526 (by decide) (pc' := 527) rfl ?_
                refine Seg.istore (L' := #[.val (.int p1), .val (.long d1), .second, .val (.long d2), .second, .val (.int p4), .val (.int p5), .val (.int (Int32.ofNat s)), t8, .val (.int (Int32.ofNat l1)), t10, .val (.int dac), .val (.int (Int32.ofNat l2)), t13, t14, t15, t16, t17, t18, .val (.int head), .val (.int sep), .val (.int close), t22, t23, .val (.int (Int32.ofNat (s + 1 + l1))), .val (.int (Int32.ofNat (s + 1 + l1 + 1))), .val (.int (Int32.ofNat (s + 1 + l1 + 1 + l2))), .val (.int (Int32.ofNat e)), t28, .val (.ref r), .val (.int (0 : Int32)), .val (.int (0 : Int32)), .val (.int (0 : Int32)), .val (.int (0 : Int32)), .val (.int (0 : Int32)), .unset]) at_527 rfl (pc' := 529) rfl ?_
                refine Seg.iload at_529 rfl (pc' := 531) rfl ?_
                refine Seg.ifY (pc' := 694) at_531 (by decide) (by decide) (by decide) ?_
                rw [cd_no H a1 hsep (Or.inr (Or.inl c2))] at O
                exact sgT0 G p1 d1 d2 p4 p5 _ _ _ _ _ _ _ _ _ _ _ _ _ s l1 l2 e dac head sep close r h O
          · refine Seg.icY (pc' := 694) at_492 (XT.ii_ne_t b3) (by decide) (by decide) ?_
            rw [at_other H a1 b0 b1 b2 b3] at O
            exact sgT0 G p1 d1 d2 p4 p5 _ _ _ _ _ _ _ _ _ _ _ _ _ s l1 l2 e dac head sep close r h O
  · refine Seg.icY (pc' := 694) at_410 (XT.ii_ge_t (n32nlt (by omega) (by omega))) (by decide) (by decide) ?_
    rw [at_end a1] at O
    exact sgT0 G p1 d1 d2 p4 p5 _ _ _ _ _ _ _ _ _ _ _ _ _ s l1 l2 e dac head sep close r h O
theorem pd_14 : parseMethodDescriptor "([C)V" = some ⟨[(.array .char)], none⟩ := by decide +kernel
set_option maxRecDepth 65536 in
set_option maxHeartbeats 4000000 in
theorem sg362 {l : Launch} {Z : State} {a0 : Array Value} (G : Env1 Z a0) (p1 : Int32) (d1 : Int64) (d2 : Int64) (p4 : Int32) (p5 : Int32) (t8 : Slot) (t10 : Slot) (t13 : Slot) (t14 : Slot) (t15 : Slot) (t16 : Slot) (t17 : Slot) (t18 : Slot) (t23 : Slot) (s : Nat) (l1 : Nat) (l2 : Nat) (dac : Int32) (head : Int32) (sep : Int32) (close : Int32) (p : Addr) (kp : ClassId) (cs : List Int32) (h : Heap) (hs : s < 2) (hl1 : l1 < 12) (hl2 : l2 < 12) (hsep : ¬ isD sep) (hcl : ¬ isD close) (H : SP cs s head l1 d1 sep dac l2 d2 close) (A : Arv Z h p kp .char 27 (cs.map Value.int) (.int 0)) :
    Seg l Z a0 EL1 x code maxLocals ret room_1 (fun v h => v = some (.int 1)) h 4 51 [] 362 #[.val (.int p1), .val (.long d1), .second, .val (.long d2), .second, .val (.int p4), .val (.int p5), .val (.int (Int32.ofNat s)), t8, .val (.int (Int32.ofNat l1)), t10, .val (.int dac), .val (.int (Int32.ofNat l2)), t13, t14, t15, t16, t17, t18, .val (.int head), .val (.int sep), .val (.int close), .val (.ref p), t23, .val (.int (Int32.ofNat (s + 1 + l1))), .val (.int (Int32.ofNat (s + 1 + l1 + 1))), .val (.int (Int32.ofNat (s + 1 + l1 + 1 + l2))), .unset, .unset, .unset, .unset, .unset, .unset, .unset, .unset, .unset] [] := by
  refine Seg.iload at_362 rfl (pc' := 364) rfl ?_
  refine Seg.ldcI (wd G 5 rfl) at_364 (pc' := 366) rfl ?_
  refine Seg.iand (v := (p5 &&& (2147483647 : Int32))) at_366 rfl (pc' := 367) rfl ?_
  refine Seg.bipush (v := 28) at_367 (by decide) (pc' := 369) rfl ?_
  obtain ⟨e, he, ee⟩ := and_rem p5 2147483647 (by decide) 28 (by decide) (by decide)
  refine Seg.irem (v := (Int32.ofNat e)) at_369 (by decide) ee (pc' := 370) rfl ?_
  refine Seg.istore (L' := #[.val (.int p1), .val (.long d1), .second, .val (.long d2), .second, .val (.int p4), .val (.int p5), .val (.int (Int32.ofNat s)), t8, .val (.int (Int32.ofNat l1)), t10, .val (.int dac), .val (.int (Int32.ofNat l2)), t13, t14, t15, t16, t17, t18, .val (.int head), .val (.int sep), .val (.int close), .val (.ref p), t23, .val (.int (Int32.ofNat (s + 1 + l1))), .val (.int (Int32.ofNat (s + 1 + l1 + 1))), .val (.int (Int32.ofNat (s + 1 + l1 + 1 + l2))), .val (.int (Int32.ofNat e)), .unset, .unset, .unset, .unset, .unset, .unset, .unset, .unset]) at_370 rfl (pc' := 372) rfl ?_
  refine Seg.newO (wd G 6 rfl) (wd G 7 rfl) (wd G 8 rfl) at_372 (pc' := 375) rfl (k' := 5) (n' := 55) rfl rfl (by decide) (by decide) ?_
  intro b_1 h_3 E_2 e_b_1 l_b_1 A_b_1 D_b_1
  have F_coder_b_1 : Fld Z h_3 b_1 "java/lang/String" "coder" "B" (.int (0 : Int32)) := D_b_1 (Or.inr (wd G 32 rfl)) (ty := .byte) (by decide)
  have F_value_b_1 : Fld Z h_3 b_1 "java/lang/String" "value" "[B" Value.null := D_b_1 (Or.inr (wd G 34 rfl)) (ty := (.array .byte)) (by decide)
  refine Seg.dup at_375 rfl (pc' := 376) rfl ?_
  refine Seg.aload at_376 rfl rfl (pc' := 378) rfl ?_
  have F_4 := A.ext E_2
  refine Seg.callN (y' := (⟨"java/lang/String", "<init>", "([C)V"⟩ : MethodName)) (a := b_1) rfl (wd G 9 rfl) (wd G 10 rfl) (wd G 11 rfl) ⟨by decide, by decide⟩ (pays_str (W := 1) G cs 27 h_3 A_b_1 F_value_b_1 F_coder_b_1 F_4 H.1 rfl (by decide) (by decide) H.2.1 (List.mem_of_getElem? (i := 0) rfl) (by decide) (by decide)) (argsL := [(.ref p)]) (rest := [(.ref b_1)]) rfl (lenOf pd_14 rfl) rfl (Nat.le_of_eq rfl) rfl at_378 (pc' := 381) rfl (k' := 6) (n' := 82) rfl rfl (by decide) (by decide) ?_
  intro v_5 h_8 sz_6 q_7
  obtain ⟨rfl, K8, F8⟩ := q_7
  refine Seg.astore (L' := #[.val (.int p1), .val (.long d1), .second, .val (.long d2), .second, .val (.int p4), .val (.int p5), .val (.int (Int32.ofNat s)), t8, .val (.int (Int32.ofNat l1)), t10, .val (.int dac), .val (.int (Int32.ofNat l2)), t13, t14, t15, t16, t17, t18, .val (.int head), .val (.int sep), .val (.int close), .val (.ref p), t23, .val (.int (Int32.ofNat (s + 1 + l1))), .val (.int (Int32.ofNat (s + 1 + l1 + 1))), .val (.int (Int32.ofNat (s + 1 + l1 + 1 + l2))), .val (.int (Int32.ofNat e)), .val (.ref b_1), .unset, .unset, .unset, .unset, .unset, .unset, .unset]) at_381 rfl rfl (pc' := 383) rfl ?_
  refine Seg.aload at_383 rfl rfl (pc' := 385) rfl ?_
  refine Seg.iload at_385 rfl (pc' := 387) rfl ?_
  refine Seg.iload at_387 rfl (pc' := 389) rfl ?_
  refine Seg.callS (y' := (⟨"com/example/wardn/wardn/rules/RepetitionOperator", "at", "(Ljava/lang/String;II)Ljava/util/Optional;"⟩ : MethodName)) (wd G 35 rfl) (wd G 36 rfl) (wd G 37 rfl) (wd G 38 rfl) ⟨by decide, by decide⟩ (Pays.of_ct (W := 0) (ct_at G b_1 cs s e h_8 F8 H.2.1 H.1 (by omega) (by omega)) all0 (wd G 38 rfl) (wd G 37 rfl) (by decide) (by decide) rfl rfl) (argsL := [(.ref b_1), (.int (Int32.ofNat s)), (.int (Int32.ofNat e))]) (rest := []) rfl (lenOf pd_9 rfl) rfl (Nat.le_of_eq rfl) rfl at_389 (pc' := 392) rfl (k' := 8) (n' := 86) rfl rfl (by decide) (by decide) ?_
  intro v_9 h_12 sz_10 q_11
  obtain ⟨r, rfl, E9, O9⟩ := q_11
  refine Seg.astore (L' := #[.val (.int p1), .val (.long d1), .second, .val (.long d2), .second, .val (.int p4), .val (.int p5), .val (.int (Int32.ofNat s)), t8, .val (.int (Int32.ofNat l1)), t10, .val (.int dac), .val (.int (Int32.ofNat l2)), t13, t14, t15, t16, t17, t18, .val (.int head), .val (.int sep), .val (.int close), .val (.ref p), t23, .val (.int (Int32.ofNat (s + 1 + l1))), .val (.int (Int32.ofNat (s + 1 + l1 + 1))), .val (.int (Int32.ofNat (s + 1 + l1 + 1 + l2))), .val (.int (Int32.ofNat e)), .val (.ref b_1), .val (.ref r), .unset, .unset, .unset, .unset, .unset, .unset]) at_392 rfl rfl (pc' := 394) rfl ?_
  refine Seg.iconst (v := 0) at_394 (by decide) (pc' := 395) rfl ?_
  refine Seg.istore (L' := #[.val (.int p1), .val (.long d1), .second, .val (.long d2), .second, .val (.int p4), .val (.int p5), .val (.int (Int32.ofNat s)), t8, .val (.int (Int32.ofNat l1)), t10, .val (.int dac), .val (.int (Int32.ofNat l2)), t13, t14, t15, t16, t17, t18, .val (.int head), .val (.int sep), .val (.int close), .val (.ref p), t23, .val (.int (Int32.ofNat (s + 1 + l1))), .val (.int (Int32.ofNat (s + 1 + l1 + 1))), .val (.int (Int32.ofNat (s + 1 + l1 + 1 + l2))), .val (.int (Int32.ofNat e)), .val (.ref b_1), .val (.ref r), .val (.int (0 : Int32)), .unset, .unset, .unset, .unset, .unset]) at_395 rfl (pc' := 397) rfl ?_
  refine Seg.iconst (v := 0) at_397 (by decide) (pc' := 398) rfl ?_
  refine Seg.istore (L' := #[.val (.int p1), .val (.long d1), .second, .val (.long d2), .second, .val (.int p4), .val (.int p5), .val (.int (Int32.ofNat s)), t8, .val (.int (Int32.ofNat l1)), t10, .val (.int dac), .val (.int (Int32.ofNat l2)), t13, t14, t15, t16, t17, t18, .val (.int head), .val (.int sep), .val (.int close), .val (.ref p), t23, .val (.int (Int32.ofNat (s + 1 + l1))), .val (.int (Int32.ofNat (s + 1 + l1 + 1))), .val (.int (Int32.ofNat (s + 1 + l1 + 1 + l2))), .val (.int (Int32.ofNat e)), .val (.ref b_1), .val (.ref r), .val (.int (0 : Int32)), .val (.int (0 : Int32)), .unset, .unset, .unset, .unset]) at_398 rfl (pc' := 400) rfl ?_
  refine Seg.iconst (v := 0) at_400 (by decide) (pc' := 401) rfl ?_
  refine Seg.istore (L' := #[.val (.int p1), .val (.long d1), .second, .val (.long d2), .second, .val (.int p4), .val (.int p5), .val (.int (Int32.ofNat s)), t8, .val (.int (Int32.ofNat l1)), t10, .val (.int dac), .val (.int (Int32.ofNat l2)), t13, t14, t15, t16, t17, t18, .val (.int head), .val (.int sep), .val (.int close), .val (.ref p), t23, .val (.int (Int32.ofNat (s + 1 + l1))), .val (.int (Int32.ofNat (s + 1 + l1 + 1))), .val (.int (Int32.ofNat (s + 1 + l1 + 1 + l2))), .val (.int (Int32.ofNat e)), .val (.ref b_1), .val (.ref r), .val (.int (0 : Int32)), .val (.int (0 : Int32)), .val (.int (0 : Int32)), .unset, .unset, .unset]) at_401 rfl (pc' := 403) rfl ?_
  refine Seg.iconst (v := 0) at_403 (by decide) (pc' := 404) rfl ?_
  refine Seg.istore (L' := #[.val (.int p1), .val (.long d1), .second, .val (.long d2), .second, .val (.int p4), .val (.int p5), .val (.int (Int32.ofNat s)), t8, .val (.int (Int32.ofNat l1)), t10, .val (.int dac), .val (.int (Int32.ofNat l2)), t13, t14, t15, t16, t17, t18, .val (.int head), .val (.int sep), .val (.int close), .val (.ref p), t23, .val (.int (Int32.ofNat (s + 1 + l1))), .val (.int (Int32.ofNat (s + 1 + l1 + 1))), .val (.int (Int32.ofNat (s + 1 + l1 + 1 + l2))), .val (.int (Int32.ofNat e)), .val (.ref b_1), .val (.ref r), .val (.int (0 : Int32)), .val (.int (0 : Int32)), .val (.int (0 : Int32)), .val (.int (0 : Int32)), .unset, .unset]) at_404 rfl (pc' := 406) rfl ?_
  exact (sg406 G p1 d1 d2 p4 p5 _ _ _ _ _ _ _ _ _ _ _ s l1 l2 e dac head sep close r cs h_12 hs hl1 hl2 he hsep hcl H O9).mono (by decide) (by decide) all0
theorem pd_15 : parseMethodDescriptor "([CIIJ)V" = some ⟨[(.array .char), .int, .int, .long], none⟩ := by decide +kernel
set_option maxRecDepth 65536 in
set_option maxHeartbeats 4000000 in
theorem sg268 {l : Launch} {Z : State} {a0 : Array Value} (G : Env1 Z a0) (p1 : Int32) (d1 : Int64) (d2 : Int64) (p4 : Int32) (p5 : Int32) (t8 : Slot) (t10 : Slot) (t13 : Slot) (t15 : Slot) (t16 : Slot) (t17 : Slot) (t18 : Slot) (s : Nat) (l1 : Nat) (l2 : Nat) (dac : Int32) (lead : Int32) (head : Int32) (sep : Int32) (close : Int32) (h : Heap) (hs : s < 2) (hl1 : l1 < 12) (hl2 : l2 < 12) (hsep : ¬ isD sep) (hcl : ¬ isD close) (z0 : ¬ lead < 0 ∧ ¬ (255 : Int32) < lead) (z1 : ¬ head < 0 ∧ ¬ (255 : Int32) < head) (z2 : ¬ sep < 0 ∧ ¬ (255 : Int32) < sep) (z3 : ¬ close < 0 ∧ ¬ (255 : Int32) < close) :
    Seg l Z a0 EL1 x code maxLocals ret room_1 (fun v h => v = some (.int 1)) h 3 24 [] 268 #[.val (.int p1), .val (.long d1), .second, .val (.long d2), .second, .val (.int p4), .val (.int p5), .val (.int (Int32.ofNat s)), t8, .val (.int (Int32.ofNat l1)), t10, .val (.int dac), .val (.int (Int32.ofNat l2)), t13, .val (.int lead), t15, t16, t17, t18, .val (.int head), .val (.int sep), .val (.int close), .unset, .unset, .unset, .unset, .unset, .unset, .unset, .unset, .unset, .unset, .unset, .unset, .unset, .unset] [] := by
  refine Seg.bipush (v := 27) at_268 (by decide) (pc' := 270) rfl ?_
  refine Seg.newP (ty := .char) (dv := (.int 0)) rfl rfl (wd G 0 rfl) at_270 (pc' := 272) rfl (by decide) (cap := 27) (by decide) (by decide) (k' := 4) (n' := 51) rfl rfl (by decide) (by decide) ?_
  intro b_1 h_3 k_b_1 E_2 e_b_1 l_b_1 A_b_1
  replace A_b_1 : Arv Z h_3 b_1 k_b_1 .char (27 : Int32) [(.int (0 : Int32)), (.int (0 : Int32)), (.int (0 : Int32)), (.int (0 : Int32)), (.int (0 : Int32)), (.int (0 : Int32)), (.int (0 : Int32)), (.int (0 : Int32)), (.int (0 : Int32)), (.int (0 : Int32)), (.int (0 : Int32)), (.int (0 : Int32)), (.int (0 : Int32)), (.int (0 : Int32)), (.int (0 : Int32)), (.int (0 : Int32)), (.int (0 : Int32)), (.int (0 : Int32)), (.int (0 : Int32)), (.int (0 : Int32)), (.int (0 : Int32)), (.int (0 : Int32)), (.int (0 : Int32)), (.int (0 : Int32)), (.int (0 : Int32)), (.int (0 : Int32)), (.int (0 : Int32))] (.int 0) := A_b_1.pad (pad_rep [] (.int 0) 27)
  refine Seg.astore (L' := #[.val (.int p1), .val (.long d1), .second, .val (.long d2), .second, .val (.int p4), .val (.int p5), .val (.int (Int32.ofNat s)), t8, .val (.int (Int32.ofNat l1)), t10, .val (.int dac), .val (.int (Int32.ofNat l2)), t13, .val (.int lead), t15, t16, t17, t18, .val (.int head), .val (.int sep), .val (.int close), .val (.ref b_1), .unset, .unset, .unset, .unset, .unset, .unset, .unset, .unset, .unset, .unset, .unset, .unset, .unset]) at_272 rfl rfl (pc' := 274) rfl ?_
  refine Seg.aload at_274 rfl rfl (pc' := 276) rfl ?_
  refine Seg.iconst (v := 0) at_276 (by decide) (pc' := 277) rfl ?_
  refine Seg.iload at_277 rfl (pc' := 279) rfl ?_
  refine Seg.castore (v' := lead) (i := 0) A_b_1 ⟨by decide, by decide⟩ rfl (Nat.le_of_ble_eq_true rfl) (nar255 z0) (List.mem_of_getElem? (i := 0) rfl) at_279 (pc' := 280) rfl ?_
  intro h_6 W_4 A_5
  replace A_5 : Arv Z h_6 b_1 k_b_1 .char (27 : Int32) [(.int lead), (.int (0 : Int32)), (.int (0 : Int32)), (.int (0 : Int32)), (.int (0 : Int32)), (.int (0 : Int32)), (.int (0 : Int32)), (.int (0 : Int32)), (.int (0 : Int32)), (.int (0 : Int32)), (.int (0 : Int32)), (.int (0 : Int32)), (.int (0 : Int32)), (.int (0 : Int32)), (.int (0 : Int32)), (.int (0 : Int32)), (.int (0 : Int32)), (.int (0 : Int32)), (.int (0 : Int32)), (.int (0 : Int32)), (.int (0 : Int32)), (.int (0 : Int32)), (.int (0 : Int32)), (.int (0 : Int32)), (.int (0 : Int32)), (.int (0 : Int32)), (.int (0 : Int32))] (.int 0) := A_5
  refine Seg.aload at_280 rfl rfl (pc' := 282) rfl ?_
  refine Seg.iload at_282 rfl (pc' := 284) rfl ?_
  refine Seg.iload at_284 rfl (pc' := 286) rfl ?_
  have A1 : Arv Z h_6 b_1 k_b_1 .char 27 ((lead :: List.replicate 26 (0 : Int32)).map Value.int) (.int 0) := A_5
  have L1 : (lead :: List.replicate 26 (0 : Int32)).length = 27 := rfl
  have R1 : ∀ c ∈ lead :: List.replicate 26 (0 : Int32), ¬ c < 0 ∧ ¬ (255 : Int32) < c := fun c hc => by
    rcases List.mem_cons.mp hc with rfl | hc
    · exact z0
    · rw [(List.mem_replicate.mp hc).2]; decide
  generalize lead :: List.replicate 26 (0 : Int32) = cs1 at A1 L1 R1
  refine Seg.castore (v' := head) (i := s) A1 (n32in (n := 27) (by omega) (by decide)) (n32c (by omega)) (by rw [List.length_map]; omega) (nar255 z1) (List.mem_of_getElem? (i := 0) rfl) at_286 (pc' := 287) rfl ?_
  intro h_9 W_7 A_8
  rw [← List.map_set] at A_8
  have L2 : (cs1.set s head).length = 27 := by rw [List.length_set]; exact L1
  have R2 := set_all (i := s) R1 z1
  have q2 : (cs1.set s head).getD s 0 = head := set_eq (by omega)
  generalize cs1.set s head = cs2 at A_8 L2 R2 q2
  refine Seg.iload at_287 rfl (pc' := 289) rfl ?_
  refine Seg.iconst (v := 1) at_289 (by decide) (pc' := 290) rfl ?_
  refine Seg.iadd (v := (Int32.ofNat (s + 1))) at_290 (n32s _) (pc' := 291) rfl ?_
  refine Seg.istore (L' := #[.val (.int p1), .val (.long d1), .second, .val (.long d2), .second, .val (.int p4), .val (.int p5), .val (.int (Int32.ofNat s)), t8, .val (.int (Int32.ofNat l1)), t10, .val (.int dac), .val (.int (Int32.ofNat l2)), t13, .val (.int lead), t15, t16, t17, t18, .val (.int head), .val (.int sep), .val (.int close), .val (.ref b_1), .val (.int (Int32.ofNat (s + 1))), .unset, .unset, .unset, .unset, .unset, .unset, .unset, .unset, .unset, .unset, .unset, .unset]) at_291 rfl (pc' := 293) rfl ?_
  refine Seg.aload at_293 rfl rfl (pc' := 295) rfl ?_
  refine Seg.iload at_295 rfl (pc' := 297) rfl ?_
  refine Seg.iload at_297 rfl (pc' := 299) rfl ?_
  refine Seg.lloadN at_299 rfl (pc' := 300) rfl ?_
  refine Seg.callS (y' := (⟨"com/example/wardn/wardn/rules/RepetitionOperatorAtPinLaw", "fillDigits", "([CIIJ)V"⟩ : MethodName)) (wd G 1 rfl) (wd G 2 rfl) (wd G 3 rfl) (wd G 4 rfl) ⟨by decide, by decide⟩ (Pays.of_ct (W := 0) (ct_fd G b_1 k_b_1 (s + 1) l1 d1 cs2 h_9 A_8 L2 (by omega) (by omega)) (allS (List.mem_of_getElem? (i := 0) rfl) all0) (wd G 4 rfl) (wd G 3 rfl) (by decide) (by decide) rfl rfl) (argsL := [(.ref b_1), (.int (Int32.ofNat (s + 1))), (.int (Int32.ofNat l1)), (.long d1)]) (rest := []) rfl (lenOf pd_15 rfl) rfl (Nat.le_of_eq rfl) rfl at_300 (pc' := 303) rfl (k' := 4) (n' := 51) rfl rfl (by decide) (by decide) ?_
  intro v_10 h_13 sz_11 q_12
  obtain ⟨rfl, K3, A3⟩ := q_12
  obtain ⟨L3, R3, D3, q3⟩ := fil_v d1 (s + 1) l1 27 (by omega) 11 0 cs2 (by omega) (by omega) L2 R2 (fun t ht => absurd ht (by omega))
  have q3 := (q3 s (by omega)).trans q2
  generalize filF d1 (s + 1) l1 11 0 cs2 = cs3 at A3 L3 R3 D3 q3
  refine Seg.iload at_303 rfl (pc' := 305) rfl ?_
  refine Seg.iload at_305 rfl (pc' := 307) rfl ?_
  refine Seg.iadd (v := (Int32.ofNat (s + 1 + l1))) at_307 (n32add _ _) (pc' := 308) rfl ?_
  refine Seg.istore (L' := #[.val (.int p1), .val (.long d1), .second, .val (.long d2), .second, .val (.int p4), .val (.int p5), .val (.int (Int32.ofNat s)), t8, .val (.int (Int32.ofNat l1)), t10, .val (.int dac), .val (.int (Int32.ofNat l2)), t13, .val (.int lead), t15, t16, t17, t18, .val (.int head), .val (.int sep), .val (.int close), .val (.ref b_1), .val (.int (Int32.ofNat (s + 1))), .val (.int (Int32.ofNat (s + 1 + l1))), .unset, .unset, .unset, .unset, .unset, .unset, .unset, .unset, .unset, .unset, .unset]) at_308 rfl (pc' := 310) rfl ?_
  refine Seg.aload at_310 rfl rfl (pc' := 312) rfl ?_
  refine Seg.iload at_312 rfl (pc' := 314) rfl ?_
  refine Seg.iload at_314 rfl (pc' := 316) rfl ?_
  refine Seg.castore (v' := sep) (i := s + 1 + l1) A3 (n32in (n := 27) (by omega) (by decide)) (n32c (by omega)) (by rw [List.length_map]; omega) (nar255 z2) (List.mem_of_getElem? (i := 0) rfl) at_316 (pc' := 317) rfl ?_
  intro h_16 W_14 A_15
  rw [← List.map_set] at A_15
  have L4 : (cs3.set (s + 1 + l1) sep).length = 27 := by rw [List.length_set]; exact L3
  have R4 := set_all (i := s + 1 + l1) R3 z2
  have q4 : (cs3.set (s + 1 + l1) sep).getD s 0 = head := (set_ne (by omega)).trans q3
  have D4 : ∀ t, t < l1 → (cs3.set (s + 1 + l1) sep).getD (s + 1 + t) 0 = dch d1 t := fun t ht => (set_ne (by omega)).trans (D3 t ht)
  have S4 : (cs3.set (s + 1 + l1) sep).getD (s + 1 + l1) 0 = sep := set_eq (by omega)
  generalize cs3.set (s + 1 + l1) sep = cs4 at A_15 L4 R4 q4 D4 S4
  refine Seg.iload at_317 rfl (pc' := 319) rfl ?_
  refine Seg.iconst (v := 1) at_319 (by decide) (pc' := 320) rfl ?_
  refine Seg.iadd (v := (Int32.ofNat (s + 1 + l1 + 1))) at_320 (n32s _) (pc' := 321) rfl ?_
  refine Seg.istore (L' := #[.val (.int p1), .val (.long d1), .second, .val (.long d2), .second, .val (.int p4), .val (.int p5), .val (.int (Int32.ofNat s)), t8, .val (.int (Int32.ofNat l1)), t10, .val (.int dac), .val (.int (Int32.ofNat l2)), t13, .val (.int lead), t15, t16, t17, t18, .val (.int head), .val (.int sep), .val (.int close), .val (.ref b_1), .val (.int (Int32.ofNat (s + 1))), .val (.int (Int32.ofNat (s + 1 + l1))), .val (.int (Int32.ofNat (s + 1 + l1 + 1))), .unset, .unset, .unset, .unset, .unset, .unset, .unset, .unset, .unset, .unset]) at_321 rfl (pc' := 323) rfl ?_
  refine Seg.iload at_323 rfl (pc' := 325) rfl ?_
  refine Seg.iload at_325 rfl (pc' := 327) rfl ?_
  refine Seg.iadd (v := (Int32.ofNat (s + 1 + l1 + 1 + l2))) at_327 (n32add _ _) (pc' := 328) rfl ?_
  refine Seg.istore (L' := #[.val (.int p1), .val (.long d1), .second, .val (.long d2), .second, .val (.int p4), .val (.int p5), .val (.int (Int32.ofNat s)), t8, .val (.int (Int32.ofNat l1)), t10, .val (.int dac), .val (.int (Int32.ofNat l2)), t13, .val (.int lead), t15, t16, t17, t18, .val (.int head), .val (.int sep), .val (.int close), .val (.ref b_1), .val (.int (Int32.ofNat (s + 1))), .val (.int (Int32.ofNat (s + 1 + l1))), .val (.int (Int32.ofNat (s + 1 + l1 + 1))), .val (.int (Int32.ofNat (s + 1 + l1 + 1 + l2))), .unset, .unset, .unset, .unset, .unset, .unset, .unset, .unset, .unset]) at_328 rfl (pc' := 330) rfl ?_
  refine Seg.iload at_330 rfl (pc' := 332) rfl ?_
  by_cases hd : dac = 0
  · refine Seg.ifY (pc' := 355) at_332 (XT.i0_eq_t hd) (by decide) (by decide) ?_
    refine Seg.aload at_355 rfl rfl (pc' := 357) rfl ?_
    refine Seg.iload at_357 rfl (pc' := 359) rfl ?_
    refine Seg.bipush (v := 125) at_359 (by decide) (pc' := 361) rfl ?_
    refine Seg.castore (v' := 125) (i := s + 1 + l1 + 1) A_15 (n32in (n := 27) (by omega) (by decide)) (n32c (by omega)) (by rw [List.length_map]; omega) (nar255 (by decide)) (List.mem_of_getElem? (i := 0) rfl) at_361 (pc' := 362) rfl ?_
    intro h_19 W_17 A_18
    rw [← List.map_set] at A_18
    exact (sg362 G p1 d1 d2 p4 p5 _ _ _ _ _ _ _ _ _ s l1 l2 dac head sep close b_1 k_b_1 (cs4.set (s + 1 + l1 + 1) 125) h_19 hs hl1 hl2 hsep hcl ⟨by rw [List.length_set]; exact L4, set_all R4 (by decide), (set_ne (by omega)).trans q4, fun t ht => (set_ne (by omega)).trans (D4 t ht), (set_ne (by omega)).trans S4, fun _ => set_eq (by omega), fun q => absurd hd q⟩ A_18).mono (by decide) (by decide) all0
  · refine Seg.ifN at_332 (XT.i0_eq_f hd) (pc' := 335) rfl ?_
    refine Seg.aload at_335 rfl rfl (pc' := 337) rfl ?_
    refine Seg.iload at_337 rfl (pc' := 339) rfl ?_
    refine Seg.iload at_339 rfl (pc' := 341) rfl ?_
    refine Seg.lloadN at_341 rfl (pc' := 342) rfl ?_
    refine Seg.callS (y' := (⟨"com/example/wardn/wardn/rules/RepetitionOperatorAtPinLaw", "fillDigits", "([CIIJ)V"⟩ : MethodName)) (wd G 1 rfl) (wd G 2 rfl) (wd G 3 rfl) (wd G 4 rfl) ⟨by decide, by decide⟩ (Pays.of_ct (W := 0) (ct_fd G b_1 k_b_1 (s + 1 + l1 + 1) l2 d2 cs4 h_16 A_15 L4 (by omega) (by omega)) (allS (List.mem_of_getElem? (i := 0) rfl) all0) (wd G 4 rfl) (wd G 3 rfl) (by decide) (by decide) rfl rfl) (argsL := [(.ref b_1), (.int (Int32.ofNat (s + 1 + l1 + 1))), (.int (Int32.ofNat l2)), (.long d2)]) (rest := []) rfl (lenOf pd_15 rfl) rfl (Nat.le_of_eq rfl) rfl at_342 (pc' := 345) rfl (k' := 4) (n' := 51) rfl rfl (by decide) (by decide) ?_
    intro v_20 h_23 sz_21 q_22
    obtain ⟨rfl, K5, A5⟩ := q_22
    obtain ⟨L5, R5, D5, q5⟩ := fil_v d2 (s + 1 + l1 + 1) l2 27 (by omega) 11 0 cs4 (by omega) (by omega) L4 R4 (fun t ht => absurd ht (by omega))
    generalize filF d2 (s + 1 + l1 + 1) l2 11 0 cs4 = cs5 at A5 L5 R5 D5 q5
    refine Seg.aload at_345 rfl rfl (pc' := 347) rfl ?_
    refine Seg.iload at_347 rfl (pc' := 349) rfl ?_
    refine Seg.iload at_349 rfl (pc' := 351) rfl ?_
    refine Seg.castore (v' := close) (i := s + 1 + l1 + 1 + l2) A5 (n32in (n := 27) (by omega) (by decide)) (n32c (by omega)) (by rw [List.length_map]; omega) (nar255 z3) (List.mem_of_getElem? (i := 0) rfl) at_351 (pc' := 352) rfl ?_
    intro h_26 W_24 A_25
    rw [← List.map_set] at A_25
    refine Seg.goto (pc' := 362) at_352 (by decide) (by decide) ?_
    exact (sg362 G p1 d1 d2 p4 p5 _ _ _ _ _ _ _ _ _ s l1 l2 dac head sep close b_1 k_b_1 (cs5.set (s + 1 + l1 + 1 + l2) close) h_26 hs hl1 hl2 hsep hcl ⟨by rw [List.length_set]; exact L5, set_all R5 z3, (set_ne (by omega)).trans ((q5 _ (by omega)).trans q4), fun t ht => (set_ne (by omega)).trans ((q5 _ (by omega)).trans (D4 t ht)), (set_ne (by omega)).trans ((q5 _ (by omega)).trans S4), fun q => absurd q hd, fun _ => ⟨fun t ht => (set_ne (by omega)).trans (D5 t ht), set_eq (by omega)⟩⟩ A_25).mono (by decide) (by decide) all0
def SPL : List Int32 := [44, 125, 44, 125, 58, 47, 63, 123]
def CLL : List Int32 := [125, 125, 125, 44, 58, 47, 63, 97]
def HDL : List Int32 := [42, 43, 63, 123, 123, 123, 97, 97]
theorem nd_SPL : ∀ c ∈ SPL, ¬ isD c := by decide
theorem nd_CLL : ∀ c ∈ CLL, ¬ isD c := by decide
theorem r_SPL : ∀ c ∈ SPL, ¬ c < 0 ∧ ¬ (255 : Int32) < c := by decide
theorem r_CLL : ∀ c ∈ CLL, ¬ c < 0 ∧ ¬ (255 : Int32) < c := by decide
theorem r_HDL : ∀ c ∈ HDL, ¬ c < 0 ∧ ¬ (255 : Int32) < c := by decide
set_option maxRecDepth 65536 in
set_option maxHeartbeats 4000000 in
theorem sg252 {l : Launch} {Z : State} {a0 : Array Value} (G : Env1 Z a0) (p1 : Int32) (d1 : Int64) (d2 : Int64) (p4 : Int32) (p5 : Int32) (t8 : Slot) (t15 : Slot) (t16 : Slot) (s : Nat) (l1 : Nat) (l2 : Nat) (ss : Nat) (cl : Nat) (dac : Int32) (lead : Int32) (head : Int32) (y1 : Addr) (y2 : Addr) (k1 : ClassId) (k2 : ClassId) (h : Heap) (hs : s < 2) (hl1 : l1 < 12) (hl2 : l2 < 12) (hss : ss < 8) (hcl : cl < 8) (z0 : ¬ lead < 0 ∧ ¬ (255 : Int32) < lead) (z1 : ¬ head < 0 ∧ ¬ (255 : Int32) < head) (Y1 : Arv Z h y1 k1 .char 8 (SPL.map Value.int) (.int 0)) (Y2 : Arv Z h y2 k2 .char 8 (CLL.map Value.int) (.int 0)) :
    Seg l Z a0 EL1 x code maxLocals ret room_1 (fun v h => v = some (.int 1)) h 3 24 [] 252 #[.val (.int p1), .val (.long d1), .second, .val (.long d2), .second, .val (.int p4), .val (.int p5), .val (.int (Int32.ofNat s)), t8, .val (.int (Int32.ofNat l1)), .val (.int (Int32.ofNat ss)), .val (.int dac), .val (.int (Int32.ofNat l2)), .val (.int (Int32.ofNat cl)), .val (.int lead), t15, t16, .val (.ref y1), .val (.ref y2), .unset, .unset, .unset, .unset, .unset, .unset, .unset, .unset, .unset, .unset, .unset, .unset, .unset, .unset, .unset, .unset, .unset] [(.int head)] := by
  refine Seg.istore (L' := #[.val (.int p1), .val (.long d1), .second, .val (.long d2), .second, .val (.int p4), .val (.int p5), .val (.int (Int32.ofNat s)), t8, .val (.int (Int32.ofNat l1)), .val (.int (Int32.ofNat ss)), .val (.int dac), .val (.int (Int32.ofNat l2)), .val (.int (Int32.ofNat cl)), .val (.int lead), t15, t16, .val (.ref y1), .val (.ref y2), .val (.int head), .unset, .unset, .unset, .unset, .unset, .unset, .unset, .unset, .unset, .unset, .unset, .unset, .unset, .unset, .unset, .unset]) at_252 rfl (pc' := 254) rfl ?_
  refine Seg.aload at_254 rfl rfl (pc' := 256) rfl ?_
  refine Seg.iload at_256 rfl (pc' := 258) rfl ?_
  refine Seg.caload (v := (.int (SPL.getD ss 0))) Y1 (n32in (n := 8) hss (by decide)) (by rw [n32c (by omega)]; exact getDmap _ _ _ _ _ hss) at_258 (pc' := 259) rfl ?_
  refine Seg.istore (L' := #[.val (.int p1), .val (.long d1), .second, .val (.long d2), .second, .val (.int p4), .val (.int p5), .val (.int (Int32.ofNat s)), t8, .val (.int (Int32.ofNat l1)), .val (.int (Int32.ofNat ss)), .val (.int dac), .val (.int (Int32.ofNat l2)), .val (.int (Int32.ofNat cl)), .val (.int lead), t15, t16, .val (.ref y1), .val (.ref y2), .val (.int head), .val (.int (SPL.getD ss 0)), .unset, .unset, .unset, .unset, .unset, .unset, .unset, .unset, .unset, .unset, .unset, .unset, .unset, .unset, .unset]) at_259 rfl (pc' := 261) rfl ?_
  refine Seg.aload at_261 rfl rfl (pc' := 263) rfl ?_
  refine Seg.iload at_263 rfl (pc' := 265) rfl ?_
  refine Seg.caload (v := (.int (CLL.getD cl 0))) Y2 (n32in (n := 8) hcl (by decide)) (by rw [n32c (by omega)]; exact getDmap _ _ _ _ _ hcl) at_265 (pc' := 266) rfl ?_
  refine Seg.istore (L' := #[.val (.int p1), .val (.long d1), .second, .val (.long d2), .second, .val (.int p4), .val (.int p5), .val (.int (Int32.ofNat s)), t8, .val (.int (Int32.ofNat l1)), .val (.int (Int32.ofNat ss)), .val (.int dac), .val (.int (Int32.ofNat l2)), .val (.int (Int32.ofNat cl)), .val (.int lead), t15, t16, .val (.ref y1), .val (.ref y2), .val (.int head), .val (.int (SPL.getD ss 0)), .val (.int (CLL.getD cl 0)), .unset, .unset, .unset, .unset, .unset, .unset, .unset, .unset, .unset, .unset, .unset, .unset, .unset, .unset]) at_266 rfl (pc' := 268) rfl ?_
  exact sg268 G p1 d1 d2 p4 p5 _ _ _ _ _ _ _ s l1 l2 dac lead head _ _ h hs hl1 hl2 (mem_getD nd_SPL hss) (mem_getD nd_CLL hcl) z0 z1 (mem_getD r_SPL hss) (mem_getD r_CLL hcl)
set_option maxRecDepth 65536 in
set_option maxHeartbeats 4000000 in
theorem sg47 {l : Launch} {Z : State} {a0 : Array Value} (G : Env1 Z a0) (p1 : Int32) (d1 : Int64) (d2 : Int64) (p4 : Int32) (p5 : Int32) (s : Nat) (hd : Nat) (l1 : Nat) (ss : Nat) (dac : Int32) (h : Heap) (hs : s < 2) (hhd : hd < 8) (hl1 : l1 < 12) (hss : ss < 8) :
    Seg l Z a0 EL1 x code maxLocals ret room_1 (fun v h => v = some (.int 1)) h 0 0 [] 47 #[.val (.int p1), .val (.long d1), .second, .val (.long d2), .second, .val (.int p4), .val (.int p5), .val (.int (Int32.ofNat s)), .val (.int (Int32.ofNat hd)), .val (.int (Int32.ofNat l1)), .val (.int (Int32.ofNat ss)), .unset, .unset, .unset, .unset, .unset, .unset, .unset, .unset, .unset, .unset, .unset, .unset, .unset, .unset, .unset, .unset, .unset, .unset, .unset, .unset, .unset, .unset, .unset, .unset, .unset] [(.int dac)] := by
  refine Seg.istore (L' := #[.val (.int p1), .val (.long d1), .second, .val (.long d2), .second, .val (.int p4), .val (.int p5), .val (.int (Int32.ofNat s)), .val (.int (Int32.ofNat hd)), .val (.int (Int32.ofNat l1)), .val (.int (Int32.ofNat ss)), .val (.int dac), .unset, .unset, .unset, .unset, .unset, .unset, .unset, .unset, .unset, .unset, .unset, .unset, .unset, .unset, .unset, .unset, .unset, .unset, .unset, .unset, .unset, .unset, .unset, .unset]) at_47 rfl (pc' := 49) rfl ?_
  refine Seg.iloadN at_49 rfl (pc' := 50) rfl ?_
  refine Seg.bipush (v := 12) at_50 (by decide) (pc' := 52) rfl ?_
  refine Seg.iushr (v := ((p1).toUInt32 >>> ((12 : Int32) &&& 31).toUInt32).toInt32) at_52 rfl (pc' := 53) rfl ?_
  refine Seg.bipush (v := 15) at_53 (by decide) (pc' := 55) rfl ?_
  refine Seg.iand (v := (((p1).toUInt32 >>> ((12 : Int32) &&& 31).toUInt32).toInt32 &&& (15 : Int32))) at_55 rfl (pc' := 56) rfl ?_
  refine Seg.bipush (v := 12) at_56 (by decide) (pc' := 58) rfl ?_
  obtain ⟨l2, hl2, el2⟩ := and_rem _ 15 (by decide) 12 (by decide) (by decide)
  refine Seg.irem (v := (Int32.ofNat l2)) at_58 (by decide) el2 (pc' := 59) rfl ?_
  refine Seg.istore (L' := #[.val (.int p1), .val (.long d1), .second, .val (.long d2), .second, .val (.int p4), .val (.int p5), .val (.int (Int32.ofNat s)), .val (.int (Int32.ofNat hd)), .val (.int (Int32.ofNat l1)), .val (.int (Int32.ofNat ss)), .val (.int dac), .val (.int (Int32.ofNat l2)), .unset, .unset, .unset, .unset, .unset, .unset, .unset, .unset, .unset, .unset, .unset, .unset, .unset, .unset, .unset, .unset, .unset, .unset, .unset, .unset, .unset, .unset, .unset]) at_59 rfl (pc' := 61) rfl ?_
  refine Seg.iloadN at_61 rfl (pc' := 62) rfl ?_
  refine Seg.bipush (v := 16) at_62 (by decide) (pc' := 64) rfl ?_
  refine Seg.iushr (v := ((p1).toUInt32 >>> ((16 : Int32) &&& 31).toUInt32).toInt32) at_64 rfl (pc' := 65) rfl ?_
  refine Seg.bipush (v := 7) at_65 (by decide) (pc' := 67) rfl ?_
  obtain ⟨cl, hcl, ecl⟩ := and_n ((p1).toUInt32 >>> ((16 : Int32) &&& 31).toUInt32).toInt32 7 7 (by decide) (by decide)
  refine Seg.iand (v := (Int32.ofNat cl)) at_67 ecl (pc' := 68) rfl ?_
  refine Seg.istore (L' := #[.val (.int p1), .val (.long d1), .second, .val (.long d2), .second, .val (.int p4), .val (.int p5), .val (.int (Int32.ofNat s)), .val (.int (Int32.ofNat hd)), .val (.int (Int32.ofNat l1)), .val (.int (Int32.ofNat ss)), .val (.int dac), .val (.int (Int32.ofNat l2)), .val (.int (Int32.ofNat cl)), .unset, .unset, .unset, .unset, .unset, .unset, .unset, .unset, .unset, .unset, .unset, .unset, .unset, .unset, .unset, .unset, .unset, .unset, .unset, .unset, .unset, .unset]) at_68 rfl (pc' := 70) rfl ?_
  refine Seg.iload at_70 rfl (pc' := 72) rfl ?_
  refine Seg.sipush (v := 255) at_72 (by decide) (pc' := 75) rfl ?_
  refine Seg.iand (v := (p4 &&& (255 : Int32))) at_75 rfl (pc' := 76) rfl ?_
  refine Seg.i2c (v := (p4 &&& (255 : Int32))) at_76 (i2c_mask _) (pc' := 77) rfl ?_
  refine Seg.istore (L' := #[.val (.int p1), .val (.long d1), .second, .val (.long d2), .second, .val (.int p4), .val (.int p5), .val (.int (Int32.ofNat s)), .val (.int (Int32.ofNat hd)), .val (.int (Int32.ofNat l1)), .val (.int (Int32.ofNat ss)), .val (.int dac), .val (.int (Int32.ofNat l2)), .val (.int (Int32.ofNat cl)), .val (.int (p4 &&& (255 : Int32))), .unset, .unset, .unset, .unset, .unset, .unset, .unset, .unset, .unset, .unset, .unset, .unset, .unset, .unset, .unset, .unset, .unset, .unset, .unset, .unset, .unset]) at_77 rfl (pc' := 79) rfl ?_
  refine Seg.iload at_79 rfl (pc' := 81) rfl ?_
  refine Seg.bipush (v := 8) at_81 (by decide) (pc' := 83) rfl ?_
  refine Seg.iushr (v := ((p4).toUInt32 >>> ((8 : Int32) &&& 31).toUInt32).toInt32) at_83 rfl (pc' := 84) rfl ?_
  refine Seg.sipush (v := 255) at_84 (by decide) (pc' := 87) rfl ?_
  refine Seg.iand (v := (((p4).toUInt32 >>> ((8 : Int32) &&& 31).toUInt32).toInt32 &&& (255 : Int32))) at_87 rfl (pc' := 88) rfl ?_
  refine Seg.i2c (v := (((p4).toUInt32 >>> ((8 : Int32) &&& 31).toUInt32).toInt32 &&& (255 : Int32))) at_88 (i2c_mask _) (pc' := 89) rfl ?_
  refine Seg.istore (L' := #[.val (.int p1), .val (.long d1), .second, .val (.long d2), .second, .val (.int p4), .val (.int p5), .val (.int (Int32.ofNat s)), .val (.int (Int32.ofNat hd)), .val (.int (Int32.ofNat l1)), .val (.int (Int32.ofNat ss)), .val (.int dac), .val (.int (Int32.ofNat l2)), .val (.int (Int32.ofNat cl)), .val (.int (p4 &&& (255 : Int32))), .val (.int (((p4).toUInt32 >>> ((8 : Int32) &&& 31).toUInt32).toInt32 &&& (255 : Int32))), .unset, .unset, .unset, .unset, .unset, .unset, .unset, .unset, .unset, .unset, .unset, .unset, .unset, .unset, .unset, .unset, .unset, .unset, .unset, .unset]) at_89 rfl (pc' := 91) rfl ?_
  refine Seg.bipush (v := 8) at_91 (by decide) (pc' := 93) rfl ?_
  refine Seg.newP (ty := .char) (dv := (.int 0)) rfl rfl (wd G 0 rfl) at_93 (pc' := 95) rfl (by decide) (cap := 8) (by decide) (by decide) (k' := 1) (n' := 8) rfl rfl (by decide) (by decide) ?_
  intro b_1 h_3 k_b_1 E_2 e_b_1 l_b_1 A_b_1
  replace A_b_1 : Arv Z h_3 b_1 k_b_1 .char (8 : Int32) [(.int (0 : Int32)), (.int (0 : Int32)), (.int (0 : Int32)), (.int (0 : Int32)), (.int (0 : Int32)), (.int (0 : Int32)), (.int (0 : Int32)), (.int (0 : Int32))] (.int 0) := A_b_1.pad (pad_rep [] (.int 0) 8)
  refine Seg.dup at_95 rfl (pc' := 96) rfl ?_
  refine Seg.iconst (v := 0) at_96 (by decide) (pc' := 97) rfl ?_
  refine Seg.bipush (v := 42) at_97 (by decide) (pc' := 99) rfl ?_
  refine Seg.castore (v' := (42 : Int32)) (i := 0) A_b_1 ⟨by decide, by decide⟩ rfl (Nat.le_of_ble_eq_true rfl) (by decide) (List.mem_of_getElem? (i := 0) rfl) at_99 (pc' := 100) rfl ?_
  intro h_6 W_4 A_5
  replace A_5 : Arv Z h_6 b_1 k_b_1 .char (8 : Int32) [(.int (42 : Int32)), (.int (0 : Int32)), (.int (0 : Int32)), (.int (0 : Int32)), (.int (0 : Int32)), (.int (0 : Int32)), (.int (0 : Int32)), (.int (0 : Int32))] (.int 0) := A_5
  refine Seg.dup at_100 rfl (pc' := 101) rfl ?_
  refine Seg.iconst (v := 1) at_101 (by decide) (pc' := 102) rfl ?_
  refine Seg.bipush (v := 43) at_102 (by decide) (pc' := 104) rfl ?_
  refine Seg.castore (v' := (43 : Int32)) (i := 1) A_5 ⟨by decide, by decide⟩ rfl (Nat.le_of_ble_eq_true rfl) (by decide) (List.mem_of_getElem? (i := 0) rfl) at_104 (pc' := 105) rfl ?_
  intro h_9 W_7 A_8
  replace A_8 : Arv Z h_9 b_1 k_b_1 .char (8 : Int32) [(.int (42 : Int32)), (.int (43 : Int32)), (.int (0 : Int32)), (.int (0 : Int32)), (.int (0 : Int32)), (.int (0 : Int32)), (.int (0 : Int32)), (.int (0 : Int32))] (.int 0) := A_8
  refine Seg.dup at_105 rfl (pc' := 106) rfl ?_
  refine Seg.iconst (v := 2) at_106 (by decide) (pc' := 107) rfl ?_
  refine Seg.bipush (v := 63) at_107 (by decide) (pc' := 109) rfl ?_
  refine Seg.castore (v' := (63 : Int32)) (i := 2) A_8 ⟨by decide, by decide⟩ rfl (Nat.le_of_ble_eq_true rfl) (by decide) (List.mem_of_getElem? (i := 0) rfl) at_109 (pc' := 110) rfl ?_
  intro h_12 W_10 A_11
  replace A_11 : Arv Z h_12 b_1 k_b_1 .char (8 : Int32) [(.int (42 : Int32)), (.int (43 : Int32)), (.int (63 : Int32)), (.int (0 : Int32)), (.int (0 : Int32)), (.int (0 : Int32)), (.int (0 : Int32)), (.int (0 : Int32))] (.int 0) := A_11
  refine Seg.dup at_110 rfl (pc' := 111) rfl ?_
  refine Seg.iconst (v := 3) at_111 (by decide) (pc' := 112) rfl ?_
  refine Seg.bipush (v := 123) at_112 (by decide) (pc' := 114) rfl ?_
  refine Seg.castore (v' := (123 : Int32)) (i := 3) A_11 ⟨by decide, by decide⟩ rfl (Nat.le_of_ble_eq_true rfl) (by decide) (List.mem_of_getElem? (i := 0) rfl) at_114 (pc' := 115) rfl ?_
  intro h_15 W_13 A_14
  replace A_14 : Arv Z h_15 b_1 k_b_1 .char (8 : Int32) [(.int (42 : Int32)), (.int (43 : Int32)), (.int (63 : Int32)), (.int (123 : Int32)), (.int (0 : Int32)), (.int (0 : Int32)), (.int (0 : Int32)), (.int (0 : Int32))] (.int 0) := A_14
  refine Seg.dup at_115 rfl (pc' := 116) rfl ?_
  refine Seg.iconst (v := 4) at_116 (by decide) (pc' := 117) rfl ?_
  refine Seg.bipush (v := 123) at_117 (by decide) (pc' := 119) rfl ?_
  refine Seg.castore (v' := (123 : Int32)) (i := 4) A_14 ⟨by decide, by decide⟩ rfl (Nat.le_of_ble_eq_true rfl) (by decide) (List.mem_of_getElem? (i := 0) rfl) at_119 (pc' := 120) rfl ?_
  intro h_18 W_16 A_17
  replace A_17 : Arv Z h_18 b_1 k_b_1 .char (8 : Int32) [(.int (42 : Int32)), (.int (43 : Int32)), (.int (63 : Int32)), (.int (123 : Int32)), (.int (123 : Int32)), (.int (0 : Int32)), (.int (0 : Int32)), (.int (0 : Int32))] (.int 0) := A_17
  refine Seg.dup at_120 rfl (pc' := 121) rfl ?_
  refine Seg.iconst (v := 5) at_121 (by decide) (pc' := 122) rfl ?_
  refine Seg.bipush (v := 123) at_122 (by decide) (pc' := 124) rfl ?_
  refine Seg.castore (v' := (123 : Int32)) (i := 5) A_17 ⟨by decide, by decide⟩ rfl (Nat.le_of_ble_eq_true rfl) (by decide) (List.mem_of_getElem? (i := 0) rfl) at_124 (pc' := 125) rfl ?_
  intro h_21 W_19 A_20
  replace A_20 : Arv Z h_21 b_1 k_b_1 .char (8 : Int32) [(.int (42 : Int32)), (.int (43 : Int32)), (.int (63 : Int32)), (.int (123 : Int32)), (.int (123 : Int32)), (.int (123 : Int32)), (.int (0 : Int32)), (.int (0 : Int32))] (.int 0) := A_20
  refine Seg.dup at_125 rfl (pc' := 126) rfl ?_
  refine Seg.bipush (v := 6) at_126 (by decide) (pc' := 128) rfl ?_
  refine Seg.bipush (v := 97) at_128 (by decide) (pc' := 130) rfl ?_
  refine Seg.castore (v' := (97 : Int32)) (i := 6) A_20 ⟨by decide, by decide⟩ rfl (Nat.le_of_ble_eq_true rfl) (by decide) (List.mem_of_getElem? (i := 0) rfl) at_130 (pc' := 131) rfl ?_
  intro h_24 W_22 A_23
  replace A_23 : Arv Z h_24 b_1 k_b_1 .char (8 : Int32) [(.int (42 : Int32)), (.int (43 : Int32)), (.int (63 : Int32)), (.int (123 : Int32)), (.int (123 : Int32)), (.int (123 : Int32)), (.int (97 : Int32)), (.int (0 : Int32))] (.int 0) := A_23
  refine Seg.dup at_131 rfl (pc' := 132) rfl ?_
  refine Seg.bipush (v := 7) at_132 (by decide) (pc' := 134) rfl ?_
  refine Seg.bipush (v := 97) at_134 (by decide) (pc' := 136) rfl ?_
  refine Seg.castore (v' := (97 : Int32)) (i := 7) A_23 ⟨by decide, by decide⟩ rfl (Nat.le_of_ble_eq_true rfl) (by decide) (List.mem_of_getElem? (i := 0) rfl) at_136 (pc' := 137) rfl ?_
  intro h_27 W_25 A_26
  replace A_26 : Arv Z h_27 b_1 k_b_1 .char (8 : Int32) [(.int (42 : Int32)), (.int (43 : Int32)), (.int (63 : Int32)), (.int (123 : Int32)), (.int (123 : Int32)), (.int (123 : Int32)), (.int (97 : Int32)), (.int (97 : Int32))] (.int 0) := A_26
  refine Seg.astore (L' := #[.val (.int p1), .val (.long d1), .second, .val (.long d2), .second, .val (.int p4), .val (.int p5), .val (.int (Int32.ofNat s)), .val (.int (Int32.ofNat hd)), .val (.int (Int32.ofNat l1)), .val (.int (Int32.ofNat ss)), .val (.int dac), .val (.int (Int32.ofNat l2)), .val (.int (Int32.ofNat cl)), .val (.int (p4 &&& (255 : Int32))), .val (.int (((p4).toUInt32 >>> ((8 : Int32) &&& 31).toUInt32).toInt32 &&& (255 : Int32))), .val (.ref b_1), .unset, .unset, .unset, .unset, .unset, .unset, .unset, .unset, .unset, .unset, .unset, .unset, .unset, .unset, .unset, .unset, .unset, .unset, .unset]) at_137 rfl rfl (pc' := 139) rfl ?_
  refine Seg.bipush (v := 8) at_139 (by decide) (pc' := 141) rfl ?_
  refine Seg.newP (ty := .char) (dv := (.int 0)) rfl rfl (wd G 0 rfl) at_141 (pc' := 143) rfl (by decide) (cap := 8) (by decide) (by decide) (k' := 2) (n' := 16) rfl rfl (by decide) (by decide) ?_
  intro b_28 h_30 k_b_28 E_29 e_b_28 l_b_28 A_b_28
  replace A_b_28 : Arv Z h_30 b_28 k_b_28 .char (8 : Int32) [(.int (0 : Int32)), (.int (0 : Int32)), (.int (0 : Int32)), (.int (0 : Int32)), (.int (0 : Int32)), (.int (0 : Int32)), (.int (0 : Int32)), (.int (0 : Int32))] (.int 0) := A_b_28.pad (pad_rep [] (.int 0) 8)
  refine Seg.dup at_143 rfl (pc' := 144) rfl ?_
  refine Seg.iconst (v := 0) at_144 (by decide) (pc' := 145) rfl ?_
  refine Seg.bipush (v := 44) at_145 (by decide) (pc' := 147) rfl ?_
  refine Seg.castore (v' := (44 : Int32)) (i := 0) A_b_28 ⟨by decide, by decide⟩ rfl (Nat.le_of_ble_eq_true rfl) (by decide) (List.mem_of_getElem? (i := 0) rfl) at_147 (pc' := 148) rfl ?_
  intro h_33 W_31 A_32
  replace A_32 : Arv Z h_33 b_28 k_b_28 .char (8 : Int32) [(.int (44 : Int32)), (.int (0 : Int32)), (.int (0 : Int32)), (.int (0 : Int32)), (.int (0 : Int32)), (.int (0 : Int32)), (.int (0 : Int32)), (.int (0 : Int32))] (.int 0) := A_32
  refine Seg.dup at_148 rfl (pc' := 149) rfl ?_
  refine Seg.iconst (v := 1) at_149 (by decide) (pc' := 150) rfl ?_
  refine Seg.bipush (v := 125) at_150 (by decide) (pc' := 152) rfl ?_
  refine Seg.castore (v' := (125 : Int32)) (i := 1) A_32 ⟨by decide, by decide⟩ rfl (Nat.le_of_ble_eq_true rfl) (by decide) (List.mem_of_getElem? (i := 0) rfl) at_152 (pc' := 153) rfl ?_
  intro h_36 W_34 A_35
  replace A_35 : Arv Z h_36 b_28 k_b_28 .char (8 : Int32) [(.int (44 : Int32)), (.int (125 : Int32)), (.int (0 : Int32)), (.int (0 : Int32)), (.int (0 : Int32)), (.int (0 : Int32)), (.int (0 : Int32)), (.int (0 : Int32))] (.int 0) := A_35
  refine Seg.dup at_153 rfl (pc' := 154) rfl ?_
  refine Seg.iconst (v := 2) at_154 (by decide) (pc' := 155) rfl ?_
  refine Seg.bipush (v := 44) at_155 (by decide) (pc' := 157) rfl ?_
  refine Seg.castore (v' := (44 : Int32)) (i := 2) A_35 ⟨by decide, by decide⟩ rfl (Nat.le_of_ble_eq_true rfl) (by decide) (List.mem_of_getElem? (i := 0) rfl) at_157 (pc' := 158) rfl ?_
  intro h_39 W_37 A_38
  replace A_38 : Arv Z h_39 b_28 k_b_28 .char (8 : Int32) [(.int (44 : Int32)), (.int (125 : Int32)), (.int (44 : Int32)), (.int (0 : Int32)), (.int (0 : Int32)), (.int (0 : Int32)), (.int (0 : Int32)), (.int (0 : Int32))] (.int 0) := A_38
  refine Seg.dup at_158 rfl (pc' := 159) rfl ?_
  refine Seg.iconst (v := 3) at_159 (by decide) (pc' := 160) rfl ?_
  refine Seg.bipush (v := 125) at_160 (by decide) (pc' := 162) rfl ?_
  refine Seg.castore (v' := (125 : Int32)) (i := 3) A_38 ⟨by decide, by decide⟩ rfl (Nat.le_of_ble_eq_true rfl) (by decide) (List.mem_of_getElem? (i := 0) rfl) at_162 (pc' := 163) rfl ?_
  intro h_42 W_40 A_41
  replace A_41 : Arv Z h_42 b_28 k_b_28 .char (8 : Int32) [(.int (44 : Int32)), (.int (125 : Int32)), (.int (44 : Int32)), (.int (125 : Int32)), (.int (0 : Int32)), (.int (0 : Int32)), (.int (0 : Int32)), (.int (0 : Int32))] (.int 0) := A_41
  refine Seg.dup at_163 rfl (pc' := 164) rfl ?_
  refine Seg.iconst (v := 4) at_164 (by decide) (pc' := 165) rfl ?_
  refine Seg.bipush (v := 58) at_165 (by decide) (pc' := 167) rfl ?_
  refine Seg.castore (v' := (58 : Int32)) (i := 4) A_41 ⟨by decide, by decide⟩ rfl (Nat.le_of_ble_eq_true rfl) (by decide) (List.mem_of_getElem? (i := 0) rfl) at_167 (pc' := 168) rfl ?_
  intro h_45 W_43 A_44
  replace A_44 : Arv Z h_45 b_28 k_b_28 .char (8 : Int32) [(.int (44 : Int32)), (.int (125 : Int32)), (.int (44 : Int32)), (.int (125 : Int32)), (.int (58 : Int32)), (.int (0 : Int32)), (.int (0 : Int32)), (.int (0 : Int32))] (.int 0) := A_44
  refine Seg.dup at_168 rfl (pc' := 169) rfl ?_
  refine Seg.iconst (v := 5) at_169 (by decide) (pc' := 170) rfl ?_
  refine Seg.bipush (v := 47) at_170 (by decide) (pc' := 172) rfl ?_
  refine Seg.castore (v' := (47 : Int32)) (i := 5) A_44 ⟨by decide, by decide⟩ rfl (Nat.le_of_ble_eq_true rfl) (by decide) (List.mem_of_getElem? (i := 0) rfl) at_172 (pc' := 173) rfl ?_
  intro h_48 W_46 A_47
  replace A_47 : Arv Z h_48 b_28 k_b_28 .char (8 : Int32) [(.int (44 : Int32)), (.int (125 : Int32)), (.int (44 : Int32)), (.int (125 : Int32)), (.int (58 : Int32)), (.int (47 : Int32)), (.int (0 : Int32)), (.int (0 : Int32))] (.int 0) := A_47
  refine Seg.dup at_173 rfl (pc' := 174) rfl ?_
  refine Seg.bipush (v := 6) at_174 (by decide) (pc' := 176) rfl ?_
  refine Seg.bipush (v := 63) at_176 (by decide) (pc' := 178) rfl ?_
  refine Seg.castore (v' := (63 : Int32)) (i := 6) A_47 ⟨by decide, by decide⟩ rfl (Nat.le_of_ble_eq_true rfl) (by decide) (List.mem_of_getElem? (i := 0) rfl) at_178 (pc' := 179) rfl ?_
  intro h_51 W_49 A_50
  replace A_50 : Arv Z h_51 b_28 k_b_28 .char (8 : Int32) [(.int (44 : Int32)), (.int (125 : Int32)), (.int (44 : Int32)), (.int (125 : Int32)), (.int (58 : Int32)), (.int (47 : Int32)), (.int (63 : Int32)), (.int (0 : Int32))] (.int 0) := A_50
  refine Seg.dup at_179 rfl (pc' := 180) rfl ?_
  refine Seg.bipush (v := 7) at_180 (by decide) (pc' := 182) rfl ?_
  refine Seg.bipush (v := 123) at_182 (by decide) (pc' := 184) rfl ?_
  refine Seg.castore (v' := (123 : Int32)) (i := 7) A_50 ⟨by decide, by decide⟩ rfl (Nat.le_of_ble_eq_true rfl) (by decide) (List.mem_of_getElem? (i := 0) rfl) at_184 (pc' := 185) rfl ?_
  intro h_54 W_52 A_53
  replace A_53 : Arv Z h_54 b_28 k_b_28 .char (8 : Int32) [(.int (44 : Int32)), (.int (125 : Int32)), (.int (44 : Int32)), (.int (125 : Int32)), (.int (58 : Int32)), (.int (47 : Int32)), (.int (63 : Int32)), (.int (123 : Int32))] (.int 0) := A_53
  refine Seg.astore (L' := #[.val (.int p1), .val (.long d1), .second, .val (.long d2), .second, .val (.int p4), .val (.int p5), .val (.int (Int32.ofNat s)), .val (.int (Int32.ofNat hd)), .val (.int (Int32.ofNat l1)), .val (.int (Int32.ofNat ss)), .val (.int dac), .val (.int (Int32.ofNat l2)), .val (.int (Int32.ofNat cl)), .val (.int (p4 &&& (255 : Int32))), .val (.int (((p4).toUInt32 >>> ((8 : Int32) &&& 31).toUInt32).toInt32 &&& (255 : Int32))), .val (.ref b_1), .val (.ref b_28), .unset, .unset, .unset, .unset, .unset, .unset, .unset, .unset, .unset, .unset, .unset, .unset, .unset, .unset, .unset, .unset, .unset, .unset]) at_185 rfl rfl (pc' := 187) rfl ?_
  refine Seg.bipush (v := 8) at_187 (by decide) (pc' := 189) rfl ?_
  refine Seg.newP (ty := .char) (dv := (.int 0)) rfl rfl (wd G 0 rfl) at_189 (pc' := 191) rfl (by decide) (cap := 8) (by decide) (by decide) (k' := 3) (n' := 24) rfl rfl (by decide) (by decide) ?_
  intro b_55 h_57 k_b_55 E_56 e_b_55 l_b_55 A_b_55
  replace A_b_55 : Arv Z h_57 b_55 k_b_55 .char (8 : Int32) [(.int (0 : Int32)), (.int (0 : Int32)), (.int (0 : Int32)), (.int (0 : Int32)), (.int (0 : Int32)), (.int (0 : Int32)), (.int (0 : Int32)), (.int (0 : Int32))] (.int 0) := A_b_55.pad (pad_rep [] (.int 0) 8)
  refine Seg.dup at_191 rfl (pc' := 192) rfl ?_
  refine Seg.iconst (v := 0) at_192 (by decide) (pc' := 193) rfl ?_
  refine Seg.bipush (v := 125) at_193 (by decide) (pc' := 195) rfl ?_
  refine Seg.castore (v' := (125 : Int32)) (i := 0) A_b_55 ⟨by decide, by decide⟩ rfl (Nat.le_of_ble_eq_true rfl) (by decide) (List.mem_of_getElem? (i := 0) rfl) at_195 (pc' := 196) rfl ?_
  intro h_60 W_58 A_59
  replace A_59 : Arv Z h_60 b_55 k_b_55 .char (8 : Int32) [(.int (125 : Int32)), (.int (0 : Int32)), (.int (0 : Int32)), (.int (0 : Int32)), (.int (0 : Int32)), (.int (0 : Int32)), (.int (0 : Int32)), (.int (0 : Int32))] (.int 0) := A_59
  refine Seg.dup at_196 rfl (pc' := 197) rfl ?_
  refine Seg.iconst (v := 1) at_197 (by decide) (pc' := 198) rfl ?_
  refine Seg.bipush (v := 125) at_198 (by decide) (pc' := 200) rfl ?_
  refine Seg.castore (v' := (125 : Int32)) (i := 1) A_59 ⟨by decide, by decide⟩ rfl (Nat.le_of_ble_eq_true rfl) (by decide) (List.mem_of_getElem? (i := 0) rfl) at_200 (pc' := 201) rfl ?_
  intro h_63 W_61 A_62
  replace A_62 : Arv Z h_63 b_55 k_b_55 .char (8 : Int32) [(.int (125 : Int32)), (.int (125 : Int32)), (.int (0 : Int32)), (.int (0 : Int32)), (.int (0 : Int32)), (.int (0 : Int32)), (.int (0 : Int32)), (.int (0 : Int32))] (.int 0) := A_62
  refine Seg.dup at_201 rfl (pc' := 202) rfl ?_
  refine Seg.iconst (v := 2) at_202 (by decide) (pc' := 203) rfl ?_
  refine Seg.bipush (v := 125) at_203 (by decide) (pc' := 205) rfl ?_
  refine Seg.castore (v' := (125 : Int32)) (i := 2) A_62 ⟨by decide, by decide⟩ rfl (Nat.le_of_ble_eq_true rfl) (by decide) (List.mem_of_getElem? (i := 0) rfl) at_205 (pc' := 206) rfl ?_
  intro h_66 W_64 A_65
  replace A_65 : Arv Z h_66 b_55 k_b_55 .char (8 : Int32) [(.int (125 : Int32)), (.int (125 : Int32)), (.int (125 : Int32)), (.int (0 : Int32)), (.int (0 : Int32)), (.int (0 : Int32)), (.int (0 : Int32)), (.int (0 : Int32))] (.int 0) := A_65
  refine Seg.dup at_206 rfl (pc' := 207) rfl ?_
  refine Seg.iconst (v := 3) at_207 (by decide) (pc' := 208) rfl ?_
  refine Seg.bipush (v := 44) at_208 (by decide) (pc' := 210) rfl ?_
  refine Seg.castore (v' := (44 : Int32)) (i := 3) A_65 ⟨by decide, by decide⟩ rfl (Nat.le_of_ble_eq_true rfl) (by decide) (List.mem_of_getElem? (i := 0) rfl) at_210 (pc' := 211) rfl ?_
  intro h_69 W_67 A_68
  replace A_68 : Arv Z h_69 b_55 k_b_55 .char (8 : Int32) [(.int (125 : Int32)), (.int (125 : Int32)), (.int (125 : Int32)), (.int (44 : Int32)), (.int (0 : Int32)), (.int (0 : Int32)), (.int (0 : Int32)), (.int (0 : Int32))] (.int 0) := A_68
  refine Seg.dup at_211 rfl (pc' := 212) rfl ?_
  refine Seg.iconst (v := 4) at_212 (by decide) (pc' := 213) rfl ?_
  refine Seg.bipush (v := 58) at_213 (by decide) (pc' := 215) rfl ?_
  refine Seg.castore (v' := (58 : Int32)) (i := 4) A_68 ⟨by decide, by decide⟩ rfl (Nat.le_of_ble_eq_true rfl) (by decide) (List.mem_of_getElem? (i := 0) rfl) at_215 (pc' := 216) rfl ?_
  intro h_72 W_70 A_71
  replace A_71 : Arv Z h_72 b_55 k_b_55 .char (8 : Int32) [(.int (125 : Int32)), (.int (125 : Int32)), (.int (125 : Int32)), (.int (44 : Int32)), (.int (58 : Int32)), (.int (0 : Int32)), (.int (0 : Int32)), (.int (0 : Int32))] (.int 0) := A_71
  refine Seg.dup at_216 rfl (pc' := 217) rfl ?_
  refine Seg.iconst (v := 5) at_217 (by decide) (pc' := 218) rfl ?_
  refine Seg.bipush (v := 47) at_218 (by decide) (pc' := 220) rfl ?_
  refine Seg.castore (v' := (47 : Int32)) (i := 5) A_71 ⟨by decide, by decide⟩ rfl (Nat.le_of_ble_eq_true rfl) (by decide) (List.mem_of_getElem? (i := 0) rfl) at_220 (pc' := 221) rfl ?_
  intro h_75 W_73 A_74
  replace A_74 : Arv Z h_75 b_55 k_b_55 .char (8 : Int32) [(.int (125 : Int32)), (.int (125 : Int32)), (.int (125 : Int32)), (.int (44 : Int32)), (.int (58 : Int32)), (.int (47 : Int32)), (.int (0 : Int32)), (.int (0 : Int32))] (.int 0) := A_74
  refine Seg.dup at_221 rfl (pc' := 222) rfl ?_
  refine Seg.bipush (v := 6) at_222 (by decide) (pc' := 224) rfl ?_
  refine Seg.bipush (v := 63) at_224 (by decide) (pc' := 226) rfl ?_
  refine Seg.castore (v' := (63 : Int32)) (i := 6) A_74 ⟨by decide, by decide⟩ rfl (Nat.le_of_ble_eq_true rfl) (by decide) (List.mem_of_getElem? (i := 0) rfl) at_226 (pc' := 227) rfl ?_
  intro h_78 W_76 A_77
  replace A_77 : Arv Z h_78 b_55 k_b_55 .char (8 : Int32) [(.int (125 : Int32)), (.int (125 : Int32)), (.int (125 : Int32)), (.int (44 : Int32)), (.int (58 : Int32)), (.int (47 : Int32)), (.int (63 : Int32)), (.int (0 : Int32))] (.int 0) := A_77
  refine Seg.dup at_227 rfl (pc' := 228) rfl ?_
  refine Seg.bipush (v := 7) at_228 (by decide) (pc' := 230) rfl ?_
  refine Seg.bipush (v := 97) at_230 (by decide) (pc' := 232) rfl ?_
  refine Seg.castore (v' := (97 : Int32)) (i := 7) A_77 ⟨by decide, by decide⟩ rfl (Nat.le_of_ble_eq_true rfl) (by decide) (List.mem_of_getElem? (i := 0) rfl) at_232 (pc' := 233) rfl ?_
  intro h_81 W_79 A_80
  replace A_80 : Arv Z h_81 b_55 k_b_55 .char (8 : Int32) [(.int (125 : Int32)), (.int (125 : Int32)), (.int (125 : Int32)), (.int (44 : Int32)), (.int (58 : Int32)), (.int (47 : Int32)), (.int (63 : Int32)), (.int (97 : Int32))] (.int 0) := A_80
  refine Seg.astore (L' := #[.val (.int p1), .val (.long d1), .second, .val (.long d2), .second, .val (.int p4), .val (.int p5), .val (.int (Int32.ofNat s)), .val (.int (Int32.ofNat hd)), .val (.int (Int32.ofNat l1)), .val (.int (Int32.ofNat ss)), .val (.int dac), .val (.int (Int32.ofNat l2)), .val (.int (Int32.ofNat cl)), .val (.int (p4 &&& (255 : Int32))), .val (.int (((p4).toUInt32 >>> ((8 : Int32) &&& 31).toUInt32).toInt32 &&& (255 : Int32))), .val (.ref b_1), .val (.ref b_28), .val (.ref b_55), .unset, .unset, .unset, .unset, .unset, .unset, .unset, .unset, .unset, .unset, .unset, .unset, .unset, .unset, .unset, .unset, .unset]) at_233 rfl rfl (pc' := 235) rfl ?_
  refine Seg.iload at_235 rfl (pc' := 237) rfl ?_
  refine Seg.bipush (v := 6) at_237 (by decide) (pc' := 239) rfl ?_
  by_cases g1 : hd < 6
  · refine Seg.icN at_239 (XT.ii_ge_f (n32lt (n := 6) g1 (by decide))) (pc' := 242) rfl ?_
    refine Seg.aload at_242 rfl rfl (pc' := 244) rfl ?_
    refine Seg.iload at_244 rfl (pc' := 246) rfl ?_
    have E_82 : Ext h_27 h_33 := ext_wr E_29 W_31 (Nat.le_trans (ext_rfl _).1 (Nat.le_of_eq e_b_28))
    have E_83 : Ext h_27 h_36 := ext_wr E_82 W_34 (Nat.le_trans (ext_rfl _).1 (Nat.le_of_eq e_b_28))
    have E_84 : Ext h_27 h_39 := ext_wr E_83 W_37 (Nat.le_trans (ext_rfl _).1 (Nat.le_of_eq e_b_28))
    have E_85 : Ext h_27 h_42 := ext_wr E_84 W_40 (Nat.le_trans (ext_rfl _).1 (Nat.le_of_eq e_b_28))
    have E_86 : Ext h_27 h_45 := ext_wr E_85 W_43 (Nat.le_trans (ext_rfl _).1 (Nat.le_of_eq e_b_28))
    have E_87 : Ext h_27 h_48 := ext_wr E_86 W_46 (Nat.le_trans (ext_rfl _).1 (Nat.le_of_eq e_b_28))
    have E_88 : Ext h_27 h_51 := ext_wr E_87 W_49 (Nat.le_trans (ext_rfl _).1 (Nat.le_of_eq e_b_28))
    have E_89 : Ext h_27 h_54 := ext_wr E_88 W_52 (Nat.le_trans (ext_rfl _).1 (Nat.le_of_eq e_b_28))
    have E_90 : Ext h_27 h_57 := ext_tr E_89 E_56
    have E_91 : Ext h_27 h_60 := ext_wr E_90 W_58 (Nat.le_trans E_89.1 (Nat.le_of_eq e_b_55))
    have E_92 : Ext h_27 h_63 := ext_wr E_91 W_61 (Nat.le_trans E_89.1 (Nat.le_of_eq e_b_55))
    have E_93 : Ext h_27 h_66 := ext_wr E_92 W_64 (Nat.le_trans E_89.1 (Nat.le_of_eq e_b_55))
    have E_94 : Ext h_27 h_69 := ext_wr E_93 W_67 (Nat.le_trans E_89.1 (Nat.le_of_eq e_b_55))
    have E_95 : Ext h_27 h_72 := ext_wr E_94 W_70 (Nat.le_trans E_89.1 (Nat.le_of_eq e_b_55))
    have E_96 : Ext h_27 h_75 := ext_wr E_95 W_73 (Nat.le_trans E_89.1 (Nat.le_of_eq e_b_55))
    have E_97 : Ext h_27 h_78 := ext_wr E_96 W_76 (Nat.le_trans E_89.1 (Nat.le_of_eq e_b_55))
    have E_98 : Ext h_27 h_81 := ext_wr E_97 W_79 (Nat.le_trans E_89.1 (Nat.le_of_eq e_b_55))
    have F_99 := A_26.ext E_98
    refine Seg.caload (v := (.int (HDL.getD hd 0))) F_99 (n32in (n := 8) hhd (by decide)) (by rw [n32c (by omega)]; exact getDmap Value.int HDL _ 0 _ hhd) at_246 (pc' := 247) rfl ?_
    refine Seg.goto (pc' := 252) at_247 (by decide) (by decide) ?_
    have E_100 : Ext h_54 h_60 := ext_wr E_56 W_58 (Nat.le_trans (ext_rfl _).1 (Nat.le_of_eq e_b_55))
    have E_101 : Ext h_54 h_63 := ext_wr E_100 W_61 (Nat.le_trans (ext_rfl _).1 (Nat.le_of_eq e_b_55))
    have E_102 : Ext h_54 h_66 := ext_wr E_101 W_64 (Nat.le_trans (ext_rfl _).1 (Nat.le_of_eq e_b_55))
    have E_103 : Ext h_54 h_69 := ext_wr E_102 W_67 (Nat.le_trans (ext_rfl _).1 (Nat.le_of_eq e_b_55))
    have E_104 : Ext h_54 h_72 := ext_wr E_103 W_70 (Nat.le_trans (ext_rfl _).1 (Nat.le_of_eq e_b_55))
    have E_105 : Ext h_54 h_75 := ext_wr E_104 W_73 (Nat.le_trans (ext_rfl _).1 (Nat.le_of_eq e_b_55))
    have E_106 : Ext h_54 h_78 := ext_wr E_105 W_76 (Nat.le_trans (ext_rfl _).1 (Nat.le_of_eq e_b_55))
    have E_107 : Ext h_54 h_81 := ext_wr E_106 W_79 (Nat.le_trans (ext_rfl _).1 (Nat.le_of_eq e_b_55))
    have F_108 := A_53.ext E_107
    exact (sg252 G p1 d1 d2 p4 p5 _ _ _ s l1 l2 ss cl dac _ _ b_28 b_55 _ _ h_81 hs hl1 hl2 hss hcl (and255 _) (mem_getD r_HDL hhd) F_108 A_80).mono (by decide) (by decide) all0
  · refine Seg.icY (pc' := 250) at_239 (XT.ii_ge_t (n32nlt (n := 6) (by omega) (by omega))) (by decide) (by decide) ?_
    refine Seg.iload at_250 rfl (pc' := 252) rfl ?_
    have E_109 : Ext h_54 h_60 := ext_wr E_56 W_58 (Nat.le_trans (ext_rfl _).1 (Nat.le_of_eq e_b_55))
    have E_110 : Ext h_54 h_63 := ext_wr E_109 W_61 (Nat.le_trans (ext_rfl _).1 (Nat.le_of_eq e_b_55))
    have E_111 : Ext h_54 h_66 := ext_wr E_110 W_64 (Nat.le_trans (ext_rfl _).1 (Nat.le_of_eq e_b_55))
    have E_112 : Ext h_54 h_69 := ext_wr E_111 W_67 (Nat.le_trans (ext_rfl _).1 (Nat.le_of_eq e_b_55))
    have E_113 : Ext h_54 h_72 := ext_wr E_112 W_70 (Nat.le_trans (ext_rfl _).1 (Nat.le_of_eq e_b_55))
    have E_114 : Ext h_54 h_75 := ext_wr E_113 W_73 (Nat.le_trans (ext_rfl _).1 (Nat.le_of_eq e_b_55))
    have E_115 : Ext h_54 h_78 := ext_wr E_114 W_76 (Nat.le_trans (ext_rfl _).1 (Nat.le_of_eq e_b_55))
    have E_116 : Ext h_54 h_81 := ext_wr E_115 W_79 (Nat.le_trans (ext_rfl _).1 (Nat.le_of_eq e_b_55))
    have F_117 := A_53.ext E_116
    exact (sg252 G p1 d1 d2 p4 p5 _ _ _ s l1 l2 ss cl dac _ _ b_28 b_55 _ _ h_81 hs hl1 hl2 hss hcl (and255 _) (and255 _) F_117 A_80).mono (by decide) (by decide) all0
set_option maxRecDepth 65536 in
set_option maxHeartbeats 4000000 in
theorem sg0 {l : Launch} {Z : State} {a0 : Array Value} (G : Env1 Z a0) (p1 : Int32) (d1 : Int64) (d2 : Int64) (p4 : Int32) (p5 : Int32) (h0 : Heap) :
    Seg l Z a0 EL1 x code maxLocals ret room_1 (fun v h => v = some (.int 1)) h0 0 0 [] 0 #[.val (.int p1), .val (.long d1), .second, .val (.long d2), .second, .val (.int p4), .val (.int p5), .unset, .unset, .unset, .unset, .unset, .unset, .unset, .unset, .unset, .unset, .unset, .unset, .unset, .unset, .unset, .unset, .unset, .unset, .unset, .unset, .unset, .unset, .unset, .unset, .unset, .unset, .unset, .unset, .unset] [] := by
  refine Seg.iloadN at_0 rfl (pc' := 1) rfl ?_
  refine Seg.iconst (v := 1) at_1 (by decide) (pc' := 2) rfl ?_
  obtain ⟨s, hs, es⟩ := and_n p1 1 1 (by decide) (by decide)
  refine Seg.iand (v := (Int32.ofNat s)) at_2 es (pc' := 3) rfl ?_
  refine Seg.istore (L' := #[.val (.int p1), .val (.long d1), .second, .val (.long d2), .second, .val (.int p4), .val (.int p5), .val (.int (Int32.ofNat s)), .unset, .unset, .unset, .unset, .unset, .unset, .unset, .unset, .unset, .unset, .unset, .unset, .unset, .unset, .unset, .unset, .unset, .unset, .unset, .unset, .unset, .unset, .unset, .unset, .unset, .unset, .unset, .unset]) at_3 rfl (pc' := 5) rfl ?_
  refine Seg.iloadN at_5 rfl (pc' := 6) rfl ?_
  refine Seg.iconst (v := 1) at_6 (by decide) (pc' := 7) rfl ?_
  refine Seg.iushr (v := ((p1).toUInt32 >>> ((1 : Int32) &&& 31).toUInt32).toInt32) at_7 rfl (pc' := 8) rfl ?_
  refine Seg.bipush (v := 7) at_8 (by decide) (pc' := 10) rfl ?_
  obtain ⟨hd, hhd, ehd⟩ := and_n ((p1).toUInt32 >>> ((1 : Int32) &&& 31).toUInt32).toInt32 7 7 (by decide) (by decide)
  refine Seg.iand (v := (Int32.ofNat hd)) at_10 ehd (pc' := 11) rfl ?_
  refine Seg.istore (L' := #[.val (.int p1), .val (.long d1), .second, .val (.long d2), .second, .val (.int p4), .val (.int p5), .val (.int (Int32.ofNat s)), .val (.int (Int32.ofNat hd)), .unset, .unset, .unset, .unset, .unset, .unset, .unset, .unset, .unset, .unset, .unset, .unset, .unset, .unset, .unset, .unset, .unset, .unset, .unset, .unset, .unset, .unset, .unset, .unset, .unset, .unset, .unset]) at_11 rfl (pc' := 13) rfl ?_
  refine Seg.iloadN at_13 rfl (pc' := 14) rfl ?_
  refine Seg.iconst (v := 4) at_14 (by decide) (pc' := 15) rfl ?_
  refine Seg.iushr (v := ((p1).toUInt32 >>> ((4 : Int32) &&& 31).toUInt32).toInt32) at_15 rfl (pc' := 16) rfl ?_
  refine Seg.bipush (v := 15) at_16 (by decide) (pc' := 18) rfl ?_
  refine Seg.iand (v := (((p1).toUInt32 >>> ((4 : Int32) &&& 31).toUInt32).toInt32 &&& (15 : Int32))) at_18 rfl (pc' := 19) rfl ?_
  refine Seg.bipush (v := 12) at_19 (by decide) (pc' := 21) rfl ?_
  obtain ⟨l1, hl1, el1⟩ := and_rem _ 15 (by decide) 12 (by decide) (by decide)
  refine Seg.irem (v := (Int32.ofNat l1)) at_21 (by decide) el1 (pc' := 22) rfl ?_
  refine Seg.istore (L' := #[.val (.int p1), .val (.long d1), .second, .val (.long d2), .second, .val (.int p4), .val (.int p5), .val (.int (Int32.ofNat s)), .val (.int (Int32.ofNat hd)), .val (.int (Int32.ofNat l1)), .unset, .unset, .unset, .unset, .unset, .unset, .unset, .unset, .unset, .unset, .unset, .unset, .unset, .unset, .unset, .unset, .unset, .unset, .unset, .unset, .unset, .unset, .unset, .unset, .unset, .unset]) at_22 rfl (pc' := 24) rfl ?_
  refine Seg.iloadN at_24 rfl (pc' := 25) rfl ?_
  refine Seg.bipush (v := 8) at_25 (by decide) (pc' := 27) rfl ?_
  refine Seg.iushr (v := ((p1).toUInt32 >>> ((8 : Int32) &&& 31).toUInt32).toInt32) at_27 rfl (pc' := 28) rfl ?_
  refine Seg.bipush (v := 7) at_28 (by decide) (pc' := 30) rfl ?_
  obtain ⟨ss, hss, ess⟩ := and_n ((p1).toUInt32 >>> ((8 : Int32) &&& 31).toUInt32).toInt32 7 7 (by decide) (by decide)
  refine Seg.iand (v := (Int32.ofNat ss)) at_30 ess (pc' := 31) rfl ?_
  refine Seg.istore (L' := #[.val (.int p1), .val (.long d1), .second, .val (.long d2), .second, .val (.int p4), .val (.int p5), .val (.int (Int32.ofNat s)), .val (.int (Int32.ofNat hd)), .val (.int (Int32.ofNat l1)), .val (.int (Int32.ofNat ss)), .unset, .unset, .unset, .unset, .unset, .unset, .unset, .unset, .unset, .unset, .unset, .unset, .unset, .unset, .unset, .unset, .unset, .unset, .unset, .unset, .unset, .unset, .unset, .unset, .unset]) at_31 rfl (pc' := 33) rfl ?_
  refine Seg.iloadN at_33 rfl (pc' := 34) rfl ?_
  refine Seg.bipush (v := 11) at_34 (by decide) (pc' := 36) rfl ?_
  refine Seg.iushr (v := ((p1).toUInt32 >>> ((11 : Int32) &&& 31).toUInt32).toInt32) at_36 rfl (pc' := 37) rfl ?_
  refine Seg.iconst (v := 1) at_37 (by decide) (pc' := 38) rfl ?_
  refine Seg.iand (v := (((p1).toUInt32 >>> ((11 : Int32) &&& 31).toUInt32).toInt32 &&& (1 : Int32))) at_38 rfl (pc' := 39) rfl ?_
  by_cases g1 : (((p1).toUInt32 >>> ((11 : Int32) &&& 31).toUInt32).toInt32 &&& (1 : Int32)) = 0
  · refine Seg.ifY (pc' := 46) at_39 (XT.i0_eq_t g1) (by decide) (by decide) ?_
    refine Seg.iconst (v := 0) at_46 (by decide) (pc' := 47) rfl ?_
    exact sg47 G p1 d1 d2 p4 p5 s hd l1 ss _ h0 hs hhd hl1 hss
  · refine Seg.ifN at_39 (XT.i0_eq_f g1) (pc' := 42) rfl ?_
    refine Seg.iconst (v := 1) at_42 (by decide) (pc' := 43) rfl ?_
    refine Seg.goto (pc' := 47) at_43 (by decide) (by decide) ?_
    exact sg47 G p1 d1 d2 p4 p5 s hd l1 ss _ h0 hs hhd hl1 hss
theorem eqint {args : Array Value} {first s : State} {o : Option Outcome} {idx : List Nat} {t : Term} {n : Int32} (h : (Jvm.Cond.eq t (.int n)).value args first o s idx = some true) : t.eval args first o idx s = some (.int n) := by
  obtain ⟨x, y, h1, h2, h3, -⟩ := cmp_v (Or.inl h)
  cases h2
  cases x <;> simp [Cond.value, h1, Term.eval] at h ⊢
  · exact h
theorem eqref {args : Array Value} {first s : State} {o : Option Outcome} {idx : List Nat} {t u : Term} {a : Addr} (hu : u.eval args first o idx s = some (.ref a)) (h : (Jvm.Cond.eq t u).value args first o s idx = some true) : t.eval args first o idx s = some (.ref a) := by
  obtain ⟨x, y, h1, h2, h3, -⟩ := cmp_v (Or.inl h)
  cases hu.symm.trans h2
  cases x <;> simp [Cond.value, h1, hu] at h ⊢
  · exact h
theorem ef_law (i1 : Int32) (i2 : Int64) (i3 : Int64) (i4 : Int32) (i5 : Int32) (m : MethodId) : entryFrame m #[(.int i1), (.long i2), (.long i3), (.int i4), (.int i5)] maxLocals = mkF m 0 #[.val (.int i1), .val (.long i2), .second, .val (.long i3), .second, .val (.int i4), .val (.int i5), .unset, .unset, .unset, .unset, .unset, .unset, .unset, .unset, .unset, .unset, .unset, .unset, .unset, .unset, .unset, .unset, .unset, .unset, .unset, .unset, .unset, .unset, .unset, .unset, .unset, .unset, .unset, .unset, .unset] [] := by first | (simp [entryFrame, mkF, argsToLocals, Value.category, maxLocals]; done) | rfl
set_option maxRecDepth 65536 in
set_option maxHeartbeats 40000000 in
theorem comes_1 {Post : Tables → Env → Array Value → State → Outcome → State → Prop} (hpost : ∀ tb e args s v u, (limb_1_1.after args s (.returned v) u = true ∧ limb_1_2.after args s (.returned v) u = true ∧ True) → Jvm.Pilot.@@N@@.Jvm.D.Framed s (.returned v) u (Jvm.fieldLocs frame_1_writes args s ++ Jvm.arrayLocs frame_1_arrays args s ++ Jvm.staticLocs frame_1_statics s) 24 256 → Post tb e args s (.returned v) u) :
    Jvm.Pilot.@@N@@.Jvm.D.ArmFor flags0 classFile x code maxLocals ret World_1 tables_1 room_1 Calls_1 rest_1 Pre_1 Post := by
  intro l hfl _ _ p e ha hc hk s m args below hf hA hF happ hP
  obtain ⟨hcalls, hrest, hpre⟩ := hP
  obtain ⟨-, -, -, hnamed, -, -, -, hat⟩ := (Spec.applies_iff hf).mp happ
  obtain ⟨hg, hn⟩ := and_e (Cond.before_iff.mp (show (Jvm.Cond.and given_1 narrow_1).before args s = true from hpre))
  obtain ⟨hc0, g1⟩ := and_e hg
  obtain ⟨a1, g2⟩ := and_e g1
  obtain ⟨a2, g3⟩ := and_e g2
  obtain ⟨a3, g4⟩ := and_e g3
  obtain ⟨a4, g5⟩ := and_e g4
  obtain ⟨w0, w1, w2, w3, w4, rfl⟩ : ∃ w0 w1 w2 w3 w4 : Value, args = #[w0, w1, w2, w3, w4] := by
    have hs : args.size = 5 := by simpa [Cond.value, given_1] using hc0
    obtain ⟨L⟩ := args
    match L, hs with
    | [w0, w1, w2, w3, w4], _ => exact ⟨w0, w1, w2, w3, w4, rfl⟩
  have hw := fun d (hd : d ∈ tables_1) => atoms_spec (ws := Jvm.Cond.code x code maxLocals ret :: tables_1) hat d (List.mem_cons_of_mem _ hd)
  obtain ⟨hsets, hown0⟩ := atoms_of _ (rest_1_c_eq ▸ (show rest_1_c.before _ s = true from hrest))
  have hfit : Fit s := fun {y c} hc i hi => by
    obtain ⟨ha, rfl⟩ := Array.getElem?_eq_some_iff.mp hc
    have q := List.all_eq_true.mp ((Array.all_eq_true_iff_forall_mem.mp hF) _ (Array.getElem_mem ha)) i (List.mem_range.mpr hi)
    simpa [Array.getElem?_eq_getElem hi] using q
  obtain ⟨i1, u0⟩ := is_v a1
  obtain rfl : w0 = (.int i1) := Option.some.inj u0
  obtain ⟨i2, u1⟩ := isL_v a2
  obtain rfl : w1 = (.long i2) := Option.some.inj u1
  obtain ⟨i3, u2⟩ := isL_v a3
  obtain rfl : w2 = (.long i3) := Option.some.inj u2
  obtain ⟨i4, u3⟩ := is_v a4
  obtain rfl : w3 = (.int i4) := Option.some.inj u3
  obtain ⟨i5, u4⟩ := is_v g5
  obtain rfl : w4 = (.int i5) := Option.some.inj u4
  obtain ⟨zc, ec⟩ := is_v (Cond.before_iff.mp (hsets _ (List.mem_of_getElem? (i := 1) rfl)))
  have Sc : Sta s s.heap "java/lang/String" "COMPACT_STRINGS" "Z" (.int zc) := Sta.start ec (Or.inl (hsets _ (List.mem_of_getElem? (i := 0) rfl)))
  have hcw := hsets _ (List.mem_of_getElem? (i := 2) rfl)
  have hzc : ¬ (zc = (0 : Int32)) := gotF (Cond.eq_ints ec (Term.int_eval (0))) (not_v (Cond.before_iff.mp hcw))
  have hEW : EW s #[(.int i1), (.long i2), (.long i3), (.int i4), (.int i5)] EL1 := EW.nil
  obtain ⟨fm, ef0, hfm⟩ := isR_v (Cond.before_iff.mp (hsets _ (List.mem_of_getElem? (i := 8) rfl)))
  have Sfm : Sta s s.heap "jdk/internal/util/Preconditions" "SIOOBE_FORMATTER" "Ljava/util/function/BiFunction;" fm := Sta.start ef0 (Or.inl (hsets _ (List.mem_of_getElem? (i := 7) rfl)))
  have ho0 := Cond.before_iff.mp (hsets _ (List.mem_of_getElem? (i := 11) rfl))
  obtain ⟨oe, eoe⟩ := exa_v ho0
  have Aoe : Exa s s.heap oe "java/util/Optional" := Exa.start eoe ho0
  have Soe : Sta s s.heap "java/util/Optional" "EMPTY" "Ljava/util/Optional;" (.ref oe) := Sta.start eoe (Or.inl (hsets _ (List.mem_of_getElem? (i := 10) rfl)))
  have Foe : Fld s s.heap oe "java/util/Optional" "value" "Ljava/lang/Object;" .null := Fld.start ((fld_at eoe).symm.trans (null_v (Cond.before_iff.mp (hsets _ (List.mem_of_getElem? (i := 12) rfl)))))
  have G : Env1 s #[(.int i1), (.long i2), (.long i3), (.int i4), (.int i5)] := ⟨hw, hEW, ⟨zc, Sc, hzc⟩, ⟨fm, Sfm, hfm⟩, oe, Soe, Aoe, Foe⟩
  have hH : CHv s EL1 s.vm s.heap := fun p hp => absurd hp (by simp [EL1])
  have ct : Ct l s EL1 [] tables_1 x code maxLocals ret room_1 #[(.int i1), (.long i2), (.long i3), (.int i4), (.int i5)] s.heap (fun v h => v = some (.int 1)) := Ct.of_seg (a0 := #[(.int i1), (.long i2), (.long i3), (.int i4), (.int i5)]) (plainFor_of_name pn_com_example_wardn_wardn_rules_RepetitionOperatorAtPinLaw) G.2.1 (ef_law i1 i2 i3 i4 i5) (sg0 G i1 i2 i3 i4 i5 s.heap)
  obtain ⟨n, o, h1, h2, h3, v, L, rfl, ⟨N, -, rfl⟩, hC, hq⟩ := ct p e ha hc hk s m _ below hf ((Spec.applies_iff_loose hf).mp happ).1 ⟨rfl, State.Warmed39.refl s, rfl, hH, (fun x q => nomatch q), ext_rfl _⟩ trivial
  refine ⟨n, _, h1, h2, h3, hpost _ _ _ _ _ _ ⟨Cond.after_iff.mpr rfl, Cond.after_iff.mpr (eq_i res_at (Term.int_eval (1)) rfl), trivial⟩ ?_⟩
  exact ⟨hq.1, hC.2.2.2 _ rfl, (hq.2.2.2.sift fun y hy => Or.inr (N y hy)).mono (by decide) (by decide)⟩
theorem main_1_1 : Claimed_1_1 := comes_1 fun _ _ _ _ _ _ h hF => ⟨h.1, hF⟩
theorem main_1_2 : Claimed_1_2 := comes_1 fun _ _ _ _ _ _ h hF => ⟨h.2.1, hF⟩
end Jvm.Pilot.@@N@@
namespace Jvm.Pilot.@@N@@
open Jvm Jvm.ClassFile Sem Op Lib Jvm.Free Jvm.Stand Jvm.Pilot.@@N@@.Jvm.D
/-! MADE BY PROGRAM (witnessworld.py) out of the Statement's table words and the real class files: 23 classes; the members and pool entries that the words name. The judged class is class 1, her method 1. -/
namespace start1
open Jvm.ClassFile
def u (s : String) : CpInfo := .utf8 (stringToUtf16 s)
/-- a pool by its gaps: so many unusable entries, then the entry; so many at the end -/
def gap : Nat → List CpInfo → List CpInfo
  | 0, r => r
  | n + 1, r => .unusable :: gap n r
def poolList (es : List (Nat × CpInfo)) (last : Nat) : List CpInfo := es.foldr (fun e r => gap e.1 (e.2 :: r)) (gap last [])
def pool (es : List (Nat × CpInfo)) (last : Nat) : Array CpInfo := ⟨poolList es last⟩
def fileOf (pool : Array CpInfo) (this : Nat) (attrs : Array Attribute := #[]) (ms : Array MethodInfo := #[]) (fl : Nat := 33) (sup : Nat := 0) (ifs : Array Nat := #[]) (fds : Array FieldInfo := #[]) : ClassFile where
  minorVersion := 0
  majorVersion := 65
  constantPool := pool
  accessFlags := fl
  thisClass := this
  superClass := sup
  interfaces := ifs
  fields := fds
  methods := ms
  attributes := attrs
def plain (name : String) (sup : Option ClassId) : Class where
  name := name
  kind := .ordinary
  loader := none
  accessFlags := 33
  super := sup
  interfaces := #[]
  cf := none
  fields := #[]
  methods := #[]
  instanceTypes := #[]
  staticTypes := #[]
  resolved := #[]
  callSites := []
  init := .initialized
  statics := none
  mirror := none

def pool0 : Array CpInfo := pool [(5, u "<init>"), (0, u "()V"), (1, .class_ 10), (1, u "java/lang/Object")] 113

def k0c0 : Code := { maxStack := 0, maxLocals := 1, code := object_method_1_code, exceptionTable := #[], attributes := #[] }
def k0m0 : Method := { name := "<init>", desc := "()V", sig := { parameters := [], returnType := none }, accessFlags := 1, code := some k0c0 }
/-- java/lang/Object -/
def k0 : Class := { plain "java/lang/Object" none with
  accessFlags := 33
  interfaces := #[]
  cf := some (fileOf pool0 8 #[] #[{ accessFlags := 1, nameIndex := 5, descriptorIndex := 6, attributes := #[] }] 33 0 #[] #[])
  fields := #[]
  methods := #[k0m0]
  instanceTypes := #[]
  staticTypes := #[]
  resolved := Array.replicate 124 none
  statics := none }

def pool1 : Array CpInfo := pool [(2, .class_ 4), (1, u "java/lang/Object"), (0, u "<init>"), (0, u "()V"), (0, .methodref 8 9), (0, .class_ 10), (0, .nameAndType 11 12), (0, u "com/example/wardn/wardn/rules/RepetitionOperatorAtPinLaw"), (0, u "fillDigits"), (0, u "([CIIJ)V"), (0, .integer 2147483647), (0, .class_ 15), (0, u "java/lang/String"), (0, .methodref 14 17), (0, .nameAndType 5 18), (0, u "([C)V"), (0, .methodref 20 21), (0, .class_ 22), (0, .nameAndType 23 24), (0, u "com/example/wardn/wardn/rules/RepetitionOperator"), (0, u "at"), (0, u "(Ljava/lang/String;II)Ljava/util/Optional;"), (0, .methodref 8 26), (0, .nameAndType 27 28), (0, u "digitOf"), (0, u "(JI)I"), (0, .methodref 8 30), (0, .nameAndType 31 28), (0, u "value"), (0, .methodref 33 34), (0, .class_ 35), (0, .nameAndType 36 37), (0, u "java/util/Optional"), (0, u "isEmpty"), (0, u "()Z"), (0, .methodref 33 39), (0, .nameAndType 40 41), (0, u "get"), (0, u "()Ljava/lang/Object;"), (0, .methodref 20 43), (0, .nameAndType 44 45), (0, u "min"), (0, u "()I"), (0, .methodref 20 47), (0, .nameAndType 48 45), (0, u "max"), (0, .methodref 20 50), (0, .nameAndType 51 45), (0, u "end"), (0, .long 15), (1, .long 10), (3, .long 2147483647), (1, .methodref 61 62), (0, .class_ 63), (0, .nameAndType 44 64), (0, u "java/lang/Math"), (0, u "(JJ)J"), (2, u "law"), (0, u "(IJJII)Z")] 5

def k1m0 : Method := { name := "<init>", desc := "()V", sig := { parameters := [], returnType := none }, accessFlags := 2, code := none }
def k1c1 : Code := { maxStack := 5, maxLocals := 36, code := code, exceptionTable := #[], attributes := #[] }
def k1m1 : Method := { name := "law", desc := "(IJJII)Z", sig := { parameters := [.int, .long, .long, .int, .int], returnType := some .boolean }, accessFlags := 9, code := some k1c1 }
def k1c2 : Code := { maxStack := 4, maxLocals := 3, code := method_3_code, exceptionTable := #[], attributes := #[] }
def k1m2 : Method := { name := "digitOf", desc := "(JI)I", sig := { parameters := [.long, .int], returnType := some .int }, accessFlags := 10, code := some k1c2 }
def k1c3 : Code := { maxStack := 6, maxLocals := 5, code := method_4_code, exceptionTable := #[], attributes := #[] }
def k1m3 : Method := { name := "fillDigits", desc := "([CIIJ)V", sig := { parameters := [(.array .char), .int, .int, .long], returnType := none }, accessFlags := 10, code := some k1c3 }
def k1c4 : Code := { maxStack := 5, maxLocals := 5, code := method_5_code, exceptionTable := #[], attributes := #[] }
def k1m4 : Method := { name := "value", desc := "(JI)I", sig := { parameters := [.long, .int], returnType := some .int }, accessFlags := 10, code := some k1c4 }
/-- com/example/wardn/wardn/rules/RepetitionOperatorAtPinLaw -/
def k1 : Class := { plain "com/example/wardn/wardn/rules/RepetitionOperatorAtPinLaw" (some 0) with
  accessFlags := 49
  interfaces := #[]
  cf := some (fileOf pool1 8 #[] #[{ accessFlags := 2, nameIndex := 5, descriptorIndex := 6, attributes := #[] }, { accessFlags := 9, nameIndex := 67, descriptorIndex := 68, attributes := #[] }, { accessFlags := 10, nameIndex := 27, descriptorIndex := 28, attributes := #[] }, { accessFlags := 10, nameIndex := 11, descriptorIndex := 12, attributes := #[] }, { accessFlags := 10, nameIndex := 31, descriptorIndex := 28, attributes := #[] }] 49 2 #[] #[])
  fields := #[]
  methods := #[k1m0, k1m1, k1m2, k1m3, k1m4]
  instanceTypes := #[]
  staticTypes := #[]
  resolved := Array.replicate 74 none
  statics := none }

def pool2 : Array CpInfo := pool [(1, .class_ 2), (0, u "java/io/Serializable"), (0, .class_ 4), (0, u "java/lang/Object")] 2

/-- java/io/Serializable -/
def k2 : Class := { plain "java/io/Serializable" (some 0) with
  accessFlags := 1537
  interfaces := #[]
  cf := some (fileOf pool2 1 #[] #[] 1537 3 #[] #[])
  fields := #[]
  methods := #[]
  instanceTypes := #[]
  staticTypes := #[]
  resolved := Array.replicate 7 none
  statics := none }

def pool3 : Array CpInfo := pool [(1, .class_ 2), (0, u "java/lang/Comparable"), (0, .class_ 4), (0, u "java/lang/Object")] 7

/-- java/lang/Comparable -/
def k3 : Class := { plain "java/lang/Comparable" (some 0) with
  accessFlags := 1537
  interfaces := #[]
  cf := some (fileOf pool3 1 #[] #[] 1537 3 #[] #[])
  fields := #[]
  methods := #[]
  instanceTypes := #[]
  staticTypes := #[]
  resolved := Array.replicate 12 none
  statics := none }

def pool4 : Array CpInfo := pool [(2, .class_ 4), (1, u "java/lang/CharSequence"), (42, .class_ 48), (0, u "java/lang/CharSequence$1CodePointIterator"), (10, .class_ 60), (0, u "java/lang/CharSequence$1CharIterator"), (5, .class_ 67), (0, u "java/lang/Object")] 63

/-- java/lang/CharSequence -/
def k4 : Class := { plain "java/lang/CharSequence" (some 0) with
  accessFlags := 1537
  interfaces := #[]
  cf := some (fileOf pool4 2 #[.nestMembers #[47, 59]] #[] 1537 66 #[] #[])
  fields := #[]
  methods := #[]
  instanceTypes := #[]
  staticTypes := #[]
  resolved := Array.replicate 131 none
  statics := none }

def pool5 : Array CpInfo := pool [(1, .class_ 2), (0, u "java/lang/constant/Constable"), (0, .class_ 4), (0, u "java/lang/Object")] 6

/-- java/lang/constant/Constable -/
def k5 : Class := { plain "java/lang/constant/Constable" (some 0) with
  accessFlags := 1537
  interfaces := #[]
  cf := some (fileOf pool5 1 #[] #[] 1537 3 #[] #[])
  fields := #[]
  methods := #[]
  instanceTypes := #[]
  staticTypes := #[]
  resolved := Array.replicate 11 none
  statics := none }

def pool6 : Array CpInfo := pool [(1, .class_ 2), (0, u "java/lang/constant/ConstantDesc"), (0, .class_ 4), (0, u "java/lang/Object")] 32

/-- java/lang/constant/ConstantDesc -/
def k6 : Class := { plain "java/lang/constant/ConstantDesc" (some 0) with
  accessFlags := 1537
  interfaces := #[]
  cf := some (fileOf pool6 1 #[] #[] 1537 3 #[] #[])
  fields := #[]
  methods := #[]
  instanceTypes := #[]
  staticTypes := #[]
  resolved := Array.replicate 37 none
  statics := none }

def pool7 : Array CpInfo := pool [(1, .methodref 2 3), (0, .class_ 4), (0, .nameAndType 5 6), (0, u "java/lang/Object"), (0, u "<init>"), (0, u "()V"), (2, .fieldref 10 11), (0, .class_ 12), (0, .nameAndType 13 14), (0, u "java/lang/String"), (0, u "value"), (0, u "[B"), (0, .fieldref 10 16), (0, .nameAndType 17 18), (0, u "coder"), (0, u "B"), (2, u "hash"), (0, u "I"), (2, u "hashIsZero"), (0, u "Z"), (0, .methodref 10 28), (0, .nameAndType 5 29), (0, u "([CIILjava/lang/Void;)V"), (8, .fieldref 10 39), (0, .nameAndType 40 26), (0, u "COMPACT_STRINGS"), (1, .class_ 44), (1, u "java/lang/StringUTF16"), (0, u "compress"), (1, .methodref 42 48), (0, .nameAndType 49 50), (0, u "coderFromArrayLen"), (0, u "([BI)B"), (56, .class_ 109), (1, u "java/lang/StringLatin1"), (32, u "()Z"), (34, .methodref 42 178), (0, .nameAndType 45 179), (0, u "([CII)[B"), (183, u "([BI)C"), (27, u "(II)V"), (35, u "(I)C"), (64, .methodref 10 493), (0, .nameAndType 494 142), (0, u "isLatin1"), (0, .methodref 107 496), (0, .nameAndType 497 363), (0, u "charAt"), (3, u "checkIndex"), (73, .class_ 576), (0, u "java/lang/CharSequence"), (22, u "CASE_INSENSITIVE_ORDER"), (0, u "Ljava/util/Comparator;"), (409, u "([C)V"), (42, .fieldref 1054 1055), (0, .class_ 1056), (0, .nameAndType 1057 1058), (0, u "jdk/internal/util/Preconditions"), (0, u "SIOOBE_FORMATTER"), (0, u "Ljava/util/function/BiFunction;"), (0, .methodref 1054 1060), (0, .nameAndType 501 1061), (0, u "(IILjava/util/function/BiFunction;)I"), (39, u "serialPersistentFields"), (0, u "[Ljava/io/ObjectStreamField;"), (0, .class_ 1104), (0, u "java/lang/String$CaseInsensitiveComparator"), (1, .class_ 1107), (0, u "java/io/Serializable"), (0, .class_ 1109), (0, u "java/lang/Comparable"), (0, .class_ 1111), (0, u "java/lang/constant/Constable"), (0, .class_ 1113), (0, u "java/lang/constant/ConstantDesc"), (2, u "serialVersionUID"), (0, u "J"), (3, u "REPL"), (0, u "C"), (2, u "LATIN1"), (1, u "UTF16")] 323

def k7m0 : Method := { name := "<init>", desc := "()V", sig := { parameters := [], returnType := none }, accessFlags := 1, code := none }
def k7c1 : Code := { maxStack := 5, maxLocals := 2, code := jdk_42_method_3_code, exceptionTable := #[], attributes := #[] }
def k7m1 : Method := { name := "<init>", desc := "([C)V", sig := { parameters := [(.array .char)], returnType := none }, accessFlags := 1, code := some k7c1 }
def k7c2 : Code := { maxStack := 2, maxLocals := 2, code := jdk_42_method_56_code, exceptionTable := #[], attributes := #[] }
def k7m2 : Method := { name := "charAt", desc := "(I)C", sig := { parameters := [.int], returnType := some .char }, accessFlags := 1, code := some k7c2 }
def k7c3 : Code := { maxStack := 4, maxLocals := 6, code := jdk_42_method_149_code, exceptionTable := #[], attributes := #[] }
def k7m3 : Method := { name := "<init>", desc := "([CIILjava/lang/Void;)V", sig := { parameters := [(.array .char), .int, .int, (.object "java/lang/Void")], returnType := none }, accessFlags := 2, code := some k7c3 }
def k7c4 : Code := { maxStack := 1, maxLocals := 1, code := jdk_42_method_154_code, exceptionTable := #[], attributes := #[] }
def k7m4 : Method := { name := "isLatin1", desc := "()Z", sig := { parameters := [], returnType := some .boolean }, accessFlags := 0, code := some k7c4 }
def k7c5 : Code := { maxStack := 3, maxLocals := 2, code := jdk_42_method_155_code, exceptionTable := #[], attributes := #[] }
def k7m5 : Method := { name := "checkIndex", desc := "(II)V", sig := { parameters := [.int, .int], returnType := none }, accessFlags := 8, code := some k7c5 }
/-- java/lang/String -/
def k7 : Class := { plain "java/lang/String" (some 0) with
  accessFlags := 49
  interfaces := #[2, 3, 4, 5, 6]
  cf := some (fileOf pool7 10 #[.nestMembers #[1103]] #[{ accessFlags := 1, nameIndex := 5, descriptorIndex := 6, attributes := #[] }, { accessFlags := 1, nameIndex := 5, descriptorIndex := 1010, attributes := #[] }, { accessFlags := 1, nameIndex := 497, descriptorIndex := 427, attributes := #[] }, { accessFlags := 2, nameIndex := 5, descriptorIndex := 29, attributes := #[] }, { accessFlags := 0, nameIndex := 494, descriptorIndex := 142, attributes := #[] }, { accessFlags := 8, nameIndex := 501, descriptorIndex := 391, attributes := #[] }] 49 2 #[1106, 1108, 575, 1110, 1112] #[{ accessFlags := 18, nameIndex := 13, descriptorIndex := 14, attributes := #[] }, { accessFlags := 18, nameIndex := 17, descriptorIndex := 18, attributes := #[] }, { accessFlags := 2, nameIndex := 21, descriptorIndex := 22, attributes := #[] }, { accessFlags := 2, nameIndex := 25, descriptorIndex := 26, attributes := #[] }, { accessFlags := 26, nameIndex := 1116, descriptorIndex := 1117, attributes := #[] }, { accessFlags := 24, nameIndex := 40, descriptorIndex := 26, attributes := #[] }, { accessFlags := 26, nameIndex := 1101, descriptorIndex := 1102, attributes := #[] }, { accessFlags := 26, nameIndex := 1121, descriptorIndex := 1122, attributes := #[] }, { accessFlags := 25, nameIndex := 599, descriptorIndex := 600, attributes := #[] }, { accessFlags := 24, nameIndex := 1125, descriptorIndex := 18, attributes := #[] }, { accessFlags := 24, nameIndex := 1127, descriptorIndex := 18, attributes := #[] }])
  fields := #[{ name := "value", type := (.array .byte), accessFlags := 18, slot := 0, constantValue := 0 }, { name := "coder", type := .byte, accessFlags := 18, slot := 1, constantValue := 0 }, { name := "hash", type := .int, accessFlags := 2, slot := 2, constantValue := 0 }, { name := "hashIsZero", type := .boolean, accessFlags := 2, slot := 3, constantValue := 0 }, { name := "serialVersionUID", type := .long, accessFlags := 26, slot := 0, constantValue := 0 }, { name := "COMPACT_STRINGS", type := .boolean, accessFlags := 24, slot := 1, constantValue := 0 }, { name := "serialPersistentFields", type := (.array (.object "java/io/ObjectStreamField")), accessFlags := 26, slot := 2, constantValue := 0 }, { name := "REPL", type := .char, accessFlags := 26, slot := 3, constantValue := 0 }, { name := "CASE_INSENSITIVE_ORDER", type := (.object "java/util/Comparator"), accessFlags := 25, slot := 4, constantValue := 0 }, { name := "LATIN1", type := .byte, accessFlags := 24, slot := 5, constantValue := 0 }, { name := "UTF16", type := .byte, accessFlags := 24, slot := 6, constantValue := 0 }]
  methods := #[k7m0, k7m1, k7m2, k7m3, k7m4, k7m5]
  instanceTypes := #[(.array .byte), .byte, .int, .boolean]
  staticTypes := #[.long, .boolean, (.array (.object "java/io/ObjectStreamField")), .char, (.object "java/util/Comparator"), .byte, .byte]
  resolved := Array.replicate 1451 none
  statics := some 0 }

def pool8 : Array CpInfo := pool [(6, .class_ 8), (1, u "java/lang/Object"), (0, u "<init>"), (0, u "()V"), (1, .class_ 14), (1, u "java/lang/StringUTF16"), (31, u "$assertionsDisabled"), (0, u "Z"), (13, u "HI_BYTE_SHIFT"), (0, u "I"), (2, u "LO_BYTE_SHIFT"), (49, .methodref 12 116), (0, .nameAndType 117 118), (0, u "compress"), (0, u "([CI[BII)I"), (3, u "([CII)[B"), (138, u "coderFromArrayLen"), (0, u "([BI)B"), (106, .class_ 371), (1, u "java/lang/StringUTF16$LinesSpliterator"), (58, u "MAX_LENGTH"), (196, .class_ 628), (0, u "java/lang/StringUTF16$CodePointsSpliterator"), (0, .class_ 630), (0, u "java/lang/StringUTF16$CharsSpliterator")] 4

def k8m0 : Method := { name := "<init>", desc := "()V", sig := { parameters := [], returnType := none }, accessFlags := 0, code := none }
def k8c1 : Code := { maxStack := 2, maxLocals := 2, code := jdk_52_method_15_code, exceptionTable := #[], attributes := #[] }
def k8m1 : Method := { name := "coderFromArrayLen", desc := "([BI)B", sig := { parameters := [(.array .byte), .int], returnType := some .byte }, accessFlags := 8, code := some k8c1 }
def k8c2 : Code := { maxStack := 5, maxLocals := 6, code := jdk_52_method_16_code, exceptionTable := #[], attributes := #[] }
def k8m2 : Method := { name := "compress", desc := "([CII)[B", sig := { parameters := [(.array .char), .int, .int], returnType := some (.array .byte) }, accessFlags := 9, code := some k8c2 }
def k8c3 : Code := { maxStack := 3, maxLocals := 7, code := jdk_52_method_21_code, exceptionTable := #[], attributes := #[] }
def k8m3 : Method := { name := "compress", desc := "([CI[BII)I", sig := { parameters := [(.array .char), .int, (.array .byte), .int, .int], returnType := some .int }, accessFlags := 9, code := some k8c3 }
/-- java/lang/StringUTF16 -/
def k8 : Class := { plain "java/lang/StringUTF16" (some 0) with
  accessFlags := 48
  interfaces := #[]
  cf := some (fileOf pool8 12 #[.nestMembers #[627, 629, 369]] #[{ accessFlags := 0, nameIndex := 9, descriptorIndex := 10, attributes := #[] }, { accessFlags := 8, nameIndex := 261, descriptorIndex := 262, attributes := #[] }, { accessFlags := 9, nameIndex := 117, descriptorIndex := 122, attributes := #[] }, { accessFlags := 9, nameIndex := 117, descriptorIndex := 118, attributes := #[] }] 48 6 #[] #[{ accessFlags := 26, nameIndex := 61, descriptorIndex := 62, attributes := #[] }, { accessFlags := 26, nameIndex := 65, descriptorIndex := 62, attributes := #[] }, { accessFlags := 24, nameIndex := 430, descriptorIndex := 62, attributes := #[] }, { accessFlags := 4120, nameIndex := 46, descriptorIndex := 47, attributes := #[] }])
  fields := #[{ name := "HI_BYTE_SHIFT", type := .int, accessFlags := 26, slot := 0, constantValue := 0 }, { name := "LO_BYTE_SHIFT", type := .int, accessFlags := 26, slot := 1, constantValue := 0 }, { name := "MAX_LENGTH", type := .int, accessFlags := 24, slot := 2, constantValue := 0 }, { name := "$assertionsDisabled", type := .boolean, accessFlags := 4120, slot := 3, constantValue := 0 }]
  methods := #[k8m0, k8m1, k8m2, k8m3]
  instanceTypes := #[]
  staticTypes := #[.int, .int, .int, .boolean]
  resolved := Array.replicate 635 none
  statics := none }

def pool9 : Array CpInfo := pool [(1, .methodref 2 3), (0, .class_ 4), (0, .nameAndType 5 6), (0, u "java/lang/Object"), (0, u "<init>"), (0, u "()V"), (0, .fieldref 8 9), (0, .class_ 10), (0, .nameAndType 11 12), (0, u "com/example/wardn/wardn/rules/RepetitionOperator"), (0, u "min"), (0, u "I"), (0, .fieldref 8 14), (0, .nameAndType 15 12), (0, u "max"), (0, .fieldref 8 17), (0, .nameAndType 18 12), (0, u "end"), (0, .methodref 20 21), (0, .class_ 22), (0, .nameAndType 23 24), (0, u "java/lang/String"), (0, u "charAt"), (0, u "(I)C"), (0, .methodref 8 26), (0, .nameAndType 5 27), (0, u "(III)V"), (0, .methodref 29 30), (0, .class_ 31), (0, .nameAndType 32 33), (0, u "java/util/Optional"), (0, u "of"), (0, u "(Ljava/lang/Object;)Ljava/util/Optional;"), (0, .methodref 8 35), (0, .nameAndType 36 37), (0, u "counted"), (0, u "(Ljava/lang/String;II)Ljava/util/Optional;"), (0, .methodref 29 39), (0, .nameAndType 40 41), (0, u "empty"), (0, u "()Ljava/util/Optional;"), (0, .methodref 8 43), (0, .nameAndType 44 45), (0, u "countEnd"), (0, u "(Ljava/lang/String;II)I"), (0, .methodref 8 47), (0, .nameAndType 48 45), (0, u "count"), (0, .methodref 8 50), (0, .nameAndType 51 52), (0, u "isDigit"), (0, u "(C)Z"), (0, .long 10), (1, .long 48), (3, .long 2147483647), (1, .methodref 62 63), (0, .class_ 64), (0, .nameAndType 11 65), (0, u "java/lang/Math"), (0, u "(JJ)J"), (0, u "UNBOUNDED"), (4, u "at"), (3, u "()I")] 2

def k9c0 : Code := { maxStack := 2, maxLocals := 4, code := prog_22_method_1_code, exceptionTable := #[], attributes := #[] }
def k9m0 : Method := { name := "<init>", desc := "(III)V", sig := { parameters := [.int, .int, .int], returnType := none }, accessFlags := 2, code := some k9c0 }
def k9c1 : Code := { maxStack := 6, maxLocals := 5, code := prog_22_method_2_code, exceptionTable := #[], attributes := #[] }
def k9m1 : Method := { name := "at", desc := "(Ljava/lang/String;II)Ljava/util/Optional;", sig := { parameters := [(.object "java/lang/String"), .int, .int], returnType := some (.object "java/util/Optional") }, accessFlags := 8, code := some k9c1 }
def k9c2 : Code := { maxStack := 1, maxLocals := 1, code := prog_22_method_3_code, exceptionTable := #[], attributes := #[] }
def k9m2 : Method := { name := "min", desc := "()I", sig := { parameters := [], returnType := some .int }, accessFlags := 0, code := some k9c2 }
def k9c3 : Code := { maxStack := 1, maxLocals := 1, code := prog_22_method_4_code, exceptionTable := #[], attributes := #[] }
def k9m3 : Method := { name := "max", desc := "()I", sig := { parameters := [], returnType := some .int }, accessFlags := 0, code := some k9c3 }
def k9c4 : Code := { maxStack := 1, maxLocals := 1, code := prog_22_method_5_code, exceptionTable := #[], attributes := #[] }
def k9m4 : Method := { name := "end", desc := "()I", sig := { parameters := [], returnType := some .int }, accessFlags := 0, code := some k9c4 }
def k9c5 : Code := { maxStack := 6, maxLocals := 9, code := prog_22_method_6_code, exceptionTable := #[], attributes := #[] }
def k9m5 : Method := { name := "counted", desc := "(Ljava/lang/String;II)Ljava/util/Optional;", sig := { parameters := [(.object "java/lang/String"), .int, .int], returnType := some (.object "java/util/Optional") }, accessFlags := 10, code := some k9c5 }
def k9c6 : Code := { maxStack := 2, maxLocals := 5, code := prog_22_method_7_code, exceptionTable := #[], attributes := #[] }
def k9m6 : Method := { name := "countEnd", desc := "(Ljava/lang/String;II)I", sig := { parameters := [(.object "java/lang/String"), .int, .int], returnType := some .int }, accessFlags := 10, code := some k9c6 }
def k9c7 : Code := { maxStack := 4, maxLocals := 6, code := prog_22_method_8_code, exceptionTable := #[], attributes := #[] }
def k9m7 : Method := { name := "count", desc := "(Ljava/lang/String;II)I", sig := { parameters := [(.object "java/lang/String"), .int, .int], returnType := some .int }, accessFlags := 10, code := some k9c7 }
def k9c8 : Code := { maxStack := 2, maxLocals := 1, code := prog_22_method_9_code, exceptionTable := #[], attributes := #[] }
def k9m8 : Method := { name := "isDigit", desc := "(C)Z", sig := { parameters := [.char], returnType := some .boolean }, accessFlags := 10, code := some k9c8 }
/-- com/example/wardn/wardn/rules/RepetitionOperator -/
def k9 : Class := { plain "com/example/wardn/wardn/rules/RepetitionOperator" (some 0) with
  accessFlags := 48
  interfaces := #[]
  cf := some (fileOf pool9 8 #[] #[{ accessFlags := 2, nameIndex := 5, descriptorIndex := 27, attributes := #[] }, { accessFlags := 8, nameIndex := 71, descriptorIndex := 37, attributes := #[] }, { accessFlags := 0, nameIndex := 11, descriptorIndex := 75, attributes := #[] }, { accessFlags := 0, nameIndex := 15, descriptorIndex := 75, attributes := #[] }, { accessFlags := 0, nameIndex := 18, descriptorIndex := 75, attributes := #[] }, { accessFlags := 10, nameIndex := 36, descriptorIndex := 37, attributes := #[] }, { accessFlags := 10, nameIndex := 44, descriptorIndex := 45, attributes := #[] }, { accessFlags := 10, nameIndex := 48, descriptorIndex := 45, attributes := #[] }, { accessFlags := 10, nameIndex := 51, descriptorIndex := 52, attributes := #[] }] 48 2 #[] #[{ accessFlags := 24, nameIndex := 66, descriptorIndex := 12, attributes := #[] }, { accessFlags := 18, nameIndex := 11, descriptorIndex := 12, attributes := #[] }, { accessFlags := 18, nameIndex := 15, descriptorIndex := 12, attributes := #[] }, { accessFlags := 18, nameIndex := 18, descriptorIndex := 12, attributes := #[] }])
  fields := #[{ name := "UNBOUNDED", type := .int, accessFlags := 24, slot := 0, constantValue := 0 }, { name := "min", type := .int, accessFlags := 18, slot := 0, constantValue := 0 }, { name := "max", type := .int, accessFlags := 18, slot := 1, constantValue := 0 }, { name := "end", type := .int, accessFlags := 18, slot := 2, constantValue := 0 }]
  methods := #[k9m0, k9m1, k9m2, k9m3, k9m4, k9m5, k9m6, k9m7, k9m8]
  instanceTypes := #[.int, .int, .int]
  staticTypes := #[.int]
  resolved := Array.replicate 78 none
  statics := none }

def pool10 : Array CpInfo := pool [(1, .class_ 2), (0, u "java/lang/String"), (1, .class_ 6), (1, u "java/lang/Object"), (0, u "<init>"), (0, u "()V"), (0, .methodref 1 10), (0, .nameAndType 11 12), (0, u "checkIndex"), (0, u "(II)V"), (1, .class_ 16), (1, u "java/lang/StringLatin1"), (36, u "([BI)C"), (67, u "$assertionsDisabled"), (0, u "Z"), (98, .class_ 223), (1, u "java/lang/StringLatin1$LinesSpliterator"), (28, u "charAt"), (137, .class_ 391), (0, u "java/lang/StringLatin1$CharsSpliterator")] 3

def k10m0 : Method := { name := "<init>", desc := "()V", sig := { parameters := [], returnType := none }, accessFlags := 0, code := none }
def k10c1 : Code := { maxStack := 2, maxLocals := 2, code := jdk_43_method_2_code, exceptionTable := #[], attributes := #[] }
def k10m1 : Method := { name := "charAt", desc := "([BI)C", sig := { parameters := [(.array .byte), .int], returnType := some .char }, accessFlags := 9, code := some k10c1 }
/-- java/lang/StringLatin1 -/
def k10 : Class := { plain "java/lang/StringLatin1" (some 0) with
  accessFlags := 48
  interfaces := #[]
  cf := some (fileOf pool10 14 #[.nestMembers #[390, 221]] #[{ accessFlags := 0, nameIndex := 7, descriptorIndex := 8, attributes := #[] }, { accessFlags := 9, nameIndex := 252, descriptorIndex := 53, attributes := #[] }] 48 4 #[] #[{ accessFlags := 4120, nameIndex := 121, descriptorIndex := 122, attributes := #[] }])
  fields := #[{ name := "$assertionsDisabled", type := .boolean, accessFlags := 4120, slot := 0, constantValue := 0 }]
  methods := #[k10m0, k10m1]
  instanceTypes := #[]
  staticTypes := #[.boolean]
  resolved := Array.replicate 395 none
  statics := none }

def pool11 : Array CpInfo := pool [(2, .class_ 4), (1, u "java/lang/Object"), (0, u "<init>"), (0, u "()V"), (17, .class_ 26), (1, u "jdk/internal/util/Preconditions"), (6, u "checkIndex"), (21, .class_ 56), (0, u "jdk/internal/util/Preconditions$4"), (57, .class_ 115), (0, u "jdk/internal/util/Preconditions$1"), (7, u "SIOOBE_FORMATTER"), (0, u "Ljava/util/function/BiFunction;"), (0, .class_ 126), (0, u "jdk/internal/util/Preconditions$2"), (3, u "AIOOBE_FORMATTER"), (0, .class_ 132), (0, u "jdk/internal/util/Preconditions$3"), (3, u "IOOBE_FORMATTER"), (41, u "(IILjava/util/function/BiFunction;)I")] 15

def k11m0 : Method := { name := "<init>", desc := "()V", sig := { parameters := [], returnType := none }, accessFlags := 1, code := none }
def k11c1 : Code := { maxStack := 3, maxLocals := 3, code := jdk_41_method_11_code, exceptionTable := #[], attributes := #[] }
def k11m1 : Method := { name := "checkIndex", desc := "(IILjava/util/function/BiFunction;)I", sig := { parameters := [.int, .int, (.object "java/util/function/BiFunction")], returnType := some .int }, accessFlags := 9, code := some k11c1 }
/-- jdk/internal/util/Preconditions -/
def k11 : Class := { plain "jdk/internal/util/Preconditions" (some 0) with
  accessFlags := 33
  interfaces := #[]
  cf := some (fileOf pool11 24 #[.nestMembers #[55, 131, 125, 114]] #[{ accessFlags := 1, nameIndex := 5, descriptorIndex := 6, attributes := #[] }, { accessFlags := 9, nameIndex := 33, descriptorIndex := 178, attributes := #[] }] 33 2 #[] #[{ accessFlags := 25, nameIndex := 123, descriptorIndex := 124, attributes := #[] }, { accessFlags := 25, nameIndex := 130, descriptorIndex := 124, attributes := #[] }, { accessFlags := 25, nameIndex := 136, descriptorIndex := 124, attributes := #[] }])
  fields := #[{ name := "SIOOBE_FORMATTER", type := (.object "java/util/function/BiFunction"), accessFlags := 25, slot := 0, constantValue := 0 }, { name := "AIOOBE_FORMATTER", type := (.object "java/util/function/BiFunction"), accessFlags := 25, slot := 1, constantValue := 0 }, { name := "IOOBE_FORMATTER", type := (.object "java/util/function/BiFunction"), accessFlags := 25, slot := 2, constantValue := 0 }]
  methods := #[k11m0, k11m1]
  instanceTypes := #[]
  staticTypes := #[(.object "java/util/function/BiFunction"), (.object "java/util/function/BiFunction"), (.object "java/util/function/BiFunction")]
  resolved := Array.replicate 194 none
  statics := some 1 }

def pool12 : Array CpInfo := pool [(1, .fieldref 2 3), (0, .class_ 4), (0, .nameAndType 5 6), (0, u "java/util/Optional"), (0, u "EMPTY"), (0, u "Ljava/util/Optional;"), (0, .methodref 8 9), (0, .class_ 10), (0, .nameAndType 11 12), (0, u "java/lang/Object"), (0, u "<init>"), (0, u "()V"), (0, .fieldref 2 14), (0, .nameAndType 15 16), (0, u "value"), (0, u "Ljava/lang/Object;"), (0, .methodref 18 19), (0, .class_ 20), (0, .nameAndType 21 22), (0, u "java/util/Objects"), (0, u "requireNonNull"), (0, u "(Ljava/lang/Object;)Ljava/lang/Object;"), (0, .methodref 2 24), (0, .nameAndType 11 25), (0, u "(Ljava/lang/Object;)V"), (19, u "isEmpty"), (0, u "()Z"), (8, u "empty"), (0, u "()Ljava/util/Optional;"), (8, u "(Ljava/lang/Object;)Ljava/util/Optional;"), (7, u "get"), (0, u "()Ljava/lang/Object;"), (7, u "of")] 104

def k12c0 : Code := { maxStack := 1, maxLocals := 1, code := jdk_32_method_1_code, exceptionTable := #[], attributes := #[] }
def k12m0 : Method := { name := "empty", desc := "()Ljava/util/Optional;", sig := { parameters := [], returnType := some (.object "java/util/Optional") }, accessFlags := 9, code := some k12c0 }
def k12c1 : Code := { maxStack := 2, maxLocals := 2, code := jdk_32_method_2_code, exceptionTable := #[], attributes := #[] }
def k12m1 : Method := { name := "<init>", desc := "(Ljava/lang/Object;)V", sig := { parameters := [(.object "java/lang/Object")], returnType := none }, accessFlags := 2, code := some k12c1 }
def k12c2 : Code := { maxStack := 3, maxLocals := 1, code := jdk_32_method_3_code, exceptionTable := #[], attributes := #[] }
def k12m2 : Method := { name := "of", desc := "(Ljava/lang/Object;)Ljava/util/Optional;", sig := { parameters := [(.object "java/lang/Object")], returnType := some (.object "java/util/Optional") }, accessFlags := 9, code := some k12c2 }
def k12c3 : Code := { maxStack := 3, maxLocals := 1, code := jdk_32_method_5_code, exceptionTable := #[], attributes := #[] }
def k12m3 : Method := { name := "get", desc := "()Ljava/lang/Object;", sig := { parameters := [], returnType := some (.object "java/lang/Object") }, accessFlags := 1, code := some k12c3 }
def k12c4 : Code := { maxStack := 1, maxLocals := 1, code := jdk_32_method_7_code, exceptionTable := #[], attributes := #[] }
def k12m4 : Method := { name := "isEmpty", desc := "()Z", sig := { parameters := [], returnType := some .boolean }, accessFlags := 1, code := some k12c4 }
/-- java/util/Optional -/
def k12 : Class := { plain "java/util/Optional" (some 0) with
  accessFlags := 49
  interfaces := #[]
  cf := some (fileOf pool12 2 #[] #[{ accessFlags := 9, nameIndex := 55, descriptorIndex := 56, attributes := #[] }, { accessFlags := 2, nameIndex := 11, descriptorIndex := 25, attributes := #[] }, { accessFlags := 9, nameIndex := 82, descriptorIndex := 65, attributes := #[] }, { accessFlags := 1, nameIndex := 73, descriptorIndex := 74, attributes := #[] }, { accessFlags := 1, nameIndex := 45, descriptorIndex := 46, attributes := #[] }] 49 8 #[] #[{ accessFlags := 26, nameIndex := 5, descriptorIndex := 6, attributes := #[] }, { accessFlags := 18, nameIndex := 15, descriptorIndex := 16, attributes := #[] }])
  fields := #[{ name := "EMPTY", type := (.object "java/util/Optional"), accessFlags := 26, slot := 0, constantValue := 0 }, { name := "value", type := (.object "java/lang/Object"), accessFlags := 18, slot := 0, constantValue := 0 }]
  methods := #[k12m0, k12m1, k12m2, k12m3, k12m4]
  instanceTypes := #[(.object "java/lang/Object")]
  staticTypes := #[(.object "java/util/Optional")]
  resolved := Array.replicate 187 none
  statics := some 2 }

def pool13 : Array CpInfo := pool [(2, .class_ 4), (1, u "java/lang/Object"), (0, u "<init>"), (0, u "()V"), (35, .class_ 44), (1, u "java/util/Objects"), (0, u "requireNonNull"), (0, u "(Ljava/lang/Object;)Ljava/lang/Object;")] 137

def k13m0 : Method := { name := "<init>", desc := "()V", sig := { parameters := [], returnType := none }, accessFlags := 2, code := none }
def k13c1 : Code := { maxStack := 2, maxLocals := 1, code := jdk_31_method_10_code, exceptionTable := #[], attributes := #[] }
def k13m1 : Method := { name := "requireNonNull", desc := "(Ljava/lang/Object;)Ljava/lang/Object;", sig := { parameters := [(.object "java/lang/Object")], returnType := some (.object "java/lang/Object") }, accessFlags := 9, code := some k13c1 }
/-- java/util/Objects -/
def k13 : Class := { plain "java/util/Objects" (some 0) with
  accessFlags := 49
  interfaces := #[]
  cf := some (fileOf pool13 42 #[] #[{ accessFlags := 2, nameIndex := 5, descriptorIndex := 6, attributes := #[] }, { accessFlags := 9, nameIndex := 45, descriptorIndex := 46, attributes := #[] }] 49 2 #[] #[])
  fields := #[]
  methods := #[k13m0, k13m1]
  instanceTypes := #[]
  staticTypes := #[]
  resolved := Array.replicate 184 none
  statics := none }

def pool14 : Array CpInfo := pool [(1, .class_ 2), (0, u "java/lang/Math"), (1, .class_ 6), (1, u "java/lang/Object"), (0, u "<init>"), (0, u "()V"), (89, .class_ 100), (1, u "java/lang/Math$RandomNumberGeneratorHolder"), (20, u "(JJ)J"), (50, u "negativeZeroFloatBits"), (0, u "J"), (2, u "negativeZeroDoubleBits"), (24, u "min"), (43, u "$assertionsDisabled"), (0, u "Z"), (91, u "twoToTheDoubleScaleDown"), (0, u "D"), (4, u "twoToTheDoubleScaleUp"), (9, u "E"), (3, u "PI"), (2, u "TAU"), (2, u "DEGREES_TO_RADIANS"), (0, u "RADIANS_TO_DEGREES")] 94

def k14m0 : Method := { name := "<init>", desc := "()V", sig := { parameters := [], returnType := none }, accessFlags := 2, code := none }
def k14c1 : Code := { maxStack := 4, maxLocals := 4, code := jdk_29_method_70_code, exceptionTable := #[], attributes := #[] }
def k14m1 : Method := { name := "min", desc := "(JJ)J", sig := { parameters := [.long, .long], returnType := some .long }, accessFlags := 9, code := some k14c1 }
/-- java/lang/Math -/
def k14 : Class := { plain "java/lang/Math" (some 0) with
  accessFlags := 49
  interfaces := #[]
  cf := some (fileOf pool14 1 #[.nestMembers #[98]] #[{ accessFlags := 2, nameIndex := 7, descriptorIndex := 8, attributes := #[] }, { accessFlags := 9, nameIndex := 201, descriptorIndex := 121, attributes := #[] }] 49 4 #[] #[{ accessFlags := 25, nameIndex := 354, descriptorIndex := 339, attributes := #[] }, { accessFlags := 25, nameIndex := 358, descriptorIndex := 339, attributes := #[] }, { accessFlags := 25, nameIndex := 361, descriptorIndex := 339, attributes := #[] }, { accessFlags := 26, nameIndex := 364, descriptorIndex := 339, attributes := #[] }, { accessFlags := 26, nameIndex := 365, descriptorIndex := 339, attributes := #[] }, { accessFlags := 26, nameIndex := 172, descriptorIndex := 173, attributes := #[] }, { accessFlags := 26, nameIndex := 176, descriptorIndex := 173, attributes := #[] }, { accessFlags := 8, nameIndex := 344, descriptorIndex := 339, attributes := #[] }, { accessFlags := 8, nameIndex := 338, descriptorIndex := 339, attributes := #[] }, { accessFlags := 4120, nameIndex := 245, descriptorIndex := 246, attributes := #[] }])
  fields := #[{ name := "E", type := .double, accessFlags := 25, slot := 0, constantValue := 0 }, { name := "PI", type := .double, accessFlags := 25, slot := 1, constantValue := 0 }, { name := "TAU", type := .double, accessFlags := 25, slot := 2, constantValue := 0 }, { name := "DEGREES_TO_RADIANS", type := .double, accessFlags := 26, slot := 3, constantValue := 0 }, { name := "RADIANS_TO_DEGREES", type := .double, accessFlags := 26, slot := 4, constantValue := 0 }, { name := "negativeZeroFloatBits", type := .long, accessFlags := 26, slot := 5, constantValue := 0 }, { name := "negativeZeroDoubleBits", type := .long, accessFlags := 26, slot := 6, constantValue := 0 }, { name := "twoToTheDoubleScaleUp", type := .double, accessFlags := 8, slot := 7, constantValue := 0 }, { name := "twoToTheDoubleScaleDown", type := .double, accessFlags := 8, slot := 8, constantValue := 0 }, { name := "$assertionsDisabled", type := .boolean, accessFlags := 4120, slot := 9, constantValue := 0 }]
  methods := #[k14m0, k14m1]
  instanceTypes := #[]
  staticTypes := #[.double, .double, .double, .double, .double, .long, .long, .double, .double, .boolean]
  resolved := Array.replicate 460 none
  statics := none }

def pool15 : Array CpInfo := pool [(9, u "<init>"), (6, .class_ 18), (1, u "java/lang/Object"), (0, u "()V"), (1, .class_ 23), (1, u "jdk/internal/util/ArraysSupport"), (0, u "LOG2_ARRAY_LONG_INDEX_SCALE"), (0, u "I"), (2, u "U"), (0, u "Ljdk/internal/misc/Unsafe;"), (8, u "BIG_ENDIAN"), (0, u "Z"), (8, u "LOG2_BYTE_BIT_SIZE"), (4, u "LOG2_ARRAY_INT_INDEX_SCALE"), (54, u "JLA"), (0, u "Ljdk/internal/access/JavaLangAccess;"), (11, u "LOG2_ARRAY_BOOLEAN_INDEX_SCALE"), (9, u "LOG2_ARRAY_BYTE_INDEX_SCALE"), (5, u "LOG2_ARRAY_CHAR_INDEX_SCALE"), (5, u "LOG2_ARRAY_SHORT_INDEX_SCALE"), (18, u "LOG2_ARRAY_FLOAT_INDEX_SCALE"), (24, u "LOG2_ARRAY_DOUBLE_INDEX_SCALE"), (89, u "T_BOOLEAN"), (2, u "T_CHAR"), (1, u "T_FLOAT"), (1, u "T_DOUBLE"), (1, u "T_BYTE"), (1, u "T_SHORT"), (1, u "T_INT"), (1, u "T_LONG"), (1, u "SOFT_MAX_ARRAY_LENGTH")] 83

def k15m0 : Method := { name := "<init>", desc := "()V", sig := { parameters := [], returnType := none }, accessFlags := 2, code := none }
/-- jdk/internal/util/ArraysSupport -/
def k15 : Class := { plain "jdk/internal/util/ArraysSupport" (some 0) with
  accessFlags := 33
  interfaces := #[]
  cf := some (fileOf pool15 21 #[] #[{ accessFlags := 2, nameIndex := 9, descriptorIndex := 19, attributes := #[] }] 33 16 #[] #[{ accessFlags := 24, nameIndex := 28, descriptorIndex := 29, attributes := #[] }, { accessFlags := 26, nameIndex := 38, descriptorIndex := 39, attributes := #[] }, { accessFlags := 25, nameIndex := 121, descriptorIndex := 25, attributes := #[] }, { accessFlags := 25, nameIndex := 131, descriptorIndex := 25, attributes := #[] }, { accessFlags := 25, nameIndex := 137, descriptorIndex := 25, attributes := #[] }, { accessFlags := 25, nameIndex := 143, descriptorIndex := 25, attributes := #[] }, { accessFlags := 25, nameIndex := 53, descriptorIndex := 25, attributes := #[] }, { accessFlags := 25, nameIndex := 24, descriptorIndex := 25, attributes := #[] }, { accessFlags := 25, nameIndex := 162, descriptorIndex := 25, attributes := #[] }, { accessFlags := 25, nameIndex := 187, descriptorIndex := 25, attributes := #[] }, { accessFlags := 26, nameIndex := 48, descriptorIndex := 25, attributes := #[] }, { accessFlags := 25, nameIndex := 277, descriptorIndex := 25, attributes := #[] }, { accessFlags := 25, nameIndex := 280, descriptorIndex := 25, attributes := #[] }, { accessFlags := 25, nameIndex := 282, descriptorIndex := 25, attributes := #[] }, { accessFlags := 25, nameIndex := 284, descriptorIndex := 25, attributes := #[] }, { accessFlags := 25, nameIndex := 286, descriptorIndex := 25, attributes := #[] }, { accessFlags := 25, nameIndex := 288, descriptorIndex := 25, attributes := #[] }, { accessFlags := 25, nameIndex := 290, descriptorIndex := 25, attributes := #[] }, { accessFlags := 25, nameIndex := 292, descriptorIndex := 25, attributes := #[] }, { accessFlags := 26, nameIndex := 108, descriptorIndex := 109, attributes := #[] }, { accessFlags := 25, nameIndex := 294, descriptorIndex := 25, attributes := #[] }])
  fields := #[{ name := "U", type := (.object "jdk/internal/misc/Unsafe"), accessFlags := 24, slot := 0, constantValue := 0 }, { name := "BIG_ENDIAN", type := .boolean, accessFlags := 26, slot := 1, constantValue := 0 }, { name := "LOG2_ARRAY_BOOLEAN_INDEX_SCALE", type := .int, accessFlags := 25, slot := 2, constantValue := 0 }, { name := "LOG2_ARRAY_BYTE_INDEX_SCALE", type := .int, accessFlags := 25, slot := 3, constantValue := 0 }, { name := "LOG2_ARRAY_CHAR_INDEX_SCALE", type := .int, accessFlags := 25, slot := 4, constantValue := 0 }, { name := "LOG2_ARRAY_SHORT_INDEX_SCALE", type := .int, accessFlags := 25, slot := 5, constantValue := 0 }, { name := "LOG2_ARRAY_INT_INDEX_SCALE", type := .int, accessFlags := 25, slot := 6, constantValue := 0 }, { name := "LOG2_ARRAY_LONG_INDEX_SCALE", type := .int, accessFlags := 25, slot := 7, constantValue := 0 }, { name := "LOG2_ARRAY_FLOAT_INDEX_SCALE", type := .int, accessFlags := 25, slot := 8, constantValue := 0 }, { name := "LOG2_ARRAY_DOUBLE_INDEX_SCALE", type := .int, accessFlags := 25, slot := 9, constantValue := 0 }, { name := "LOG2_BYTE_BIT_SIZE", type := .int, accessFlags := 26, slot := 10, constantValue := 0 }, { name := "T_BOOLEAN", type := .int, accessFlags := 25, slot := 11, constantValue := 0 }, { name := "T_CHAR", type := .int, accessFlags := 25, slot := 12, constantValue := 0 }, { name := "T_FLOAT", type := .int, accessFlags := 25, slot := 13, constantValue := 0 }, { name := "T_DOUBLE", type := .int, accessFlags := 25, slot := 14, constantValue := 0 }, { name := "T_BYTE", type := .int, accessFlags := 25, slot := 15, constantValue := 0 }, { name := "T_SHORT", type := .int, accessFlags := 25, slot := 16, constantValue := 0 }, { name := "T_INT", type := .int, accessFlags := 25, slot := 17, constantValue := 0 }, { name := "T_LONG", type := .int, accessFlags := 25, slot := 18, constantValue := 0 }, { name := "JLA", type := (.object "jdk/internal/access/JavaLangAccess"), accessFlags := 26, slot := 19, constantValue := 0 }, { name := "SOFT_MAX_ARRAY_LENGTH", type := .int, accessFlags := 25, slot := 20, constantValue := 0 }]
  methods := #[k15m0]
  instanceTypes := #[]
  staticTypes := #[(.object "jdk/internal/misc/Unsafe"), .boolean, .int, .int, .int, .int, .int, .int, .int, .int, .int, .int, .int, .int, .int, .int, .int, .int, .int, (.object "jdk/internal/access/JavaLangAccess"), .int]
  resolved := Array.replicate 378 none
  statics := none }

def pool16 : Array CpInfo := pool [(1, u "java/lang/Cloneable"), (0, .class_ 1), (0, u "java/lang/Object"), (0, .class_ 3)] 3

/-- java/lang/Cloneable -/
def k16 : Class := { plain "java/lang/Cloneable" (some 0) with
  accessFlags := 1537
  interfaces := #[]
  cf := some (fileOf pool16 2 #[] #[] 1537 4 #[] #[])
  fields := #[]
  methods := #[]
  instanceTypes := #[]
  staticTypes := #[]
  resolved := Array.replicate 8 none
  statics := none }

/-- the primitive byte -/
def k17 : Class := { plain "byte" none with kind := .primitive 'B', accessFlags := 0x411 }
/-- [B -/
def k18 : Class := { plain "[B" (some 0) with kind := .array 17 .byte, interfaces := #[16, 2], accessFlags := 1041 }

/-- the primitive char -/
def k19 : Class := { plain "char" none with kind := .primitive 'C', accessFlags := 0x411 }
/-- [C -/
def k20 : Class := { plain "[C" (some 0) with kind := .array 19 .char, interfaces := #[16, 2], accessFlags := 1041 }

/-- the primitive int -/
def k21 : Class := { plain "int" none with kind := .primitive 'I', accessFlags := 0x411 }
/-- [I -/
def k22 : Class := { plain "[I" (some 0) with kind := .array 21 .int, interfaces := #[16, 2], accessFlags := 1041 }

def heap : Heap := #[{ cls := 7, slots := #[.long 0, .int 1, .null, .int 0, .null, .int 0, .int 0], vm := .statics 7 },
  { cls := 11, slots := #[.null, .null, .null], vm := .statics 11 },
  { cls := 12, slots := #[.ref 3], vm := .statics 12 },
  { cls := 12, slots := #[.null], vm := .none }]
def classes : Array Class := #[k0, k1, k2, k3, k4, k5, k6, k7, k8, k9, k10, k11, k12, k13, k14, k15, k16, k17, k18, k19, k20, k21, k22]
def interned : List (Array UInt16 × Addr) := []
def slotsUsed : Nat := 12
def theMethod : MethodId := ⟨1, 1⟩
def args0 : Array Value := #[.int 5, .long 6, .long 7, .int 8, .int 9]
def aboutOver (below : List Frame) : State where
  vm := { classes := classes, interned := interned.toArray }
  heap := heap
  slotsUsed := slotsUsed
  threads := #[{ frames := .invoking theMethod args0 :: below }]
def below0 : List Frame := [.native { method := ⟨0, 0⟩, args := #[] }]
def about1 : State := aboutOver below0
def p0 : Program := .bare "" "" ""
def e0 : Env := launch0.env 0 0 0
theorem w_frames : about1.frames = Frame.invoking theMethod args0 :: below0 := rfl
set_option maxRecDepth 65536 in
theorem w_args : argsFit about1.vm theMethod args0 = true := by decide +kernel
set_option maxRecDepth 65536 in
theorem w_heap : heapFits about1 = true := by decide +kernel
set_option maxRecDepth 65536 in
theorem w_runnable : about1.curStatus? = some .runnable := by decide +kernel
set_option maxRecDepth 65536 in
theorem w_alone : about1.alone = true := by decide +kernel
set_option maxRecDepth 65536 in
theorem w_named : about1.methodNamed? x = some theMethod := by decide +kernel
set_option maxRecDepth 65536 in
theorem w_hears : about1.hears theMethod below0 = true := by decide +kernel
set_option maxRecDepth 65536 in
theorem w_ripe : about1.ripe theMethod args0 below0 = true := by decide +kernel
theorem w_running : about1.status = .running := rfl
set_option maxRecDepth 65536 in
theorem w_room : about1.hasRoom e0.platform room_1 = true :=
  launch0.hasRoom_least _ room_1 (by decide +kernel) (by decide +kernel) (by decide +kernel) (by decide +kernel) (by decide +kernel) (by decide +kernel)
theorem allAtoms_all (ts : List Jvm.Cond) (a : Array Jvm.Value) (st : Jvm.State) : (allAtoms ts).before a st = ts.all (fun c => c.before a st) := by
  induction ts with
  | nil => rfl
  | cons c t ih =>
    show (Jvm.Cond.and c (allAtoms t)).before a st = _
    rw [Jvm.Cond.before_and, ih, List.all_cons]
def words1 : List Jvm.Cond := Jvm.Cond.code x code maxLocals ret :: tables_1
/-- a 'code' word, met by the world's own term for the bytes: nothing is compared byte by byte -/
theorem code_word {y : MethodName} {bytes : ByteArray} {mx : Nat} {rt : Option FieldType} {a : Array Value} {s : State} {m : MethodId} {meth : Method} {c : Code} (h1 : s.methodNamed? y = some m) (h2 : s.vm.method? m = some meth) (h3 : meth.code = some c) (h4 : c.code = bytes)
    (h5 : (c.maxLocals == mx && c.exceptionTable.isEmpty && decide (c.maxStack ≤ mostOperands) && decide (meth.sig.returnType = rt) && !meth.locks && decide (parseMethodDescriptor y.desc = some meth.sig)) = true) : (Jvm.Cond.code y bytes mx rt).before a s = true := by
  simp only [Bool.and_eq_true, beq_iff_eq, Bool.not_eq_true', decide_eq_true_eq] at h5
  obtain ⟨⟨⟨⟨⟨g1, g2⟩, g3⟩, g4⟩, g5⟩, g6⟩ := h5
  simp [Cond.before, Cond.holds, Cond.value, h1, h2, h3, h4, g1, g2, g3, g4, g5, g6]
def isCode : Jvm.Cond → Bool
  | .code _ _ _ _ => true
  | _ => false
theorem all_split {L : List Jvm.Cond} {P : Jvm.Cond → Bool} (h1 : L.all (fun c => isCode c || P c) = true) (h2 : ∀ c ∈ L.filter isCode, P c = true) : L.all P = true := by
  refine List.all_eq_true.mpr fun c hc => ?_
  have h := List.all_eq_true.mp h1 c hc
  rcases Bool.eq_false_or_eq_true (isCode c) with hi | hi
  · exact h2 c (List.mem_filter.mpr ⟨hc, hi⟩)
  · simpa [hi] using h
set_option maxRecDepth 65536 in
theorem w_c0 : (Jvm.Cond.code x code maxLocals ret).before args0 about1 = true := code_word (m := ⟨1, 1⟩) (meth := k1m1) (c := k1c1) (by decide +kernel) rfl rfl rfl (by decide +kernel)
set_option maxRecDepth 65536 in
theorem w_c1 : (Jvm.Cond.code ({ cls := "com/example/wardn/wardn/rules/RepetitionOperatorAtPinLaw", name := "fillDigits", desc := "([CIIJ)V" } : Jvm.MethodName) method_4_code (5 : Nat) (Option.none : Option Jvm.ClassFile.FieldType)).before args0 about1 = true := code_word (m := ⟨1, 3⟩) (meth := k1m3) (c := k1c3) (by decide +kernel) rfl rfl rfl (by decide +kernel)
set_option maxRecDepth 65536 in
theorem w_c2 : (Jvm.Cond.code ({ cls := "java/lang/String", name := "<init>", desc := "([C)V" } : Jvm.MethodName) jdk_42_method_3_code (2 : Nat) (Option.none : Option Jvm.ClassFile.FieldType)).before args0 about1 = true := code_word (m := ⟨7, 1⟩) (meth := k7m1) (c := k7c1) (by decide +kernel) rfl rfl rfl (by decide +kernel)
set_option maxRecDepth 65536 in
theorem w_c3 : (Jvm.Cond.code ({ cls := "java/lang/String", name := "<init>", desc := "([CIILjava/lang/Void;)V" } : Jvm.MethodName) jdk_42_method_149_code (6 : Nat) (Option.none : Option Jvm.ClassFile.FieldType)).before args0 about1 = true := code_word (m := ⟨7, 3⟩) (meth := k7m3) (c := k7c3) (by decide +kernel) rfl rfl rfl (by decide +kernel)
set_option maxRecDepth 65536 in
theorem w_c4 : (Jvm.Cond.code ({ cls := "java/lang/Object", name := "<init>", desc := "()V" } : Jvm.MethodName) object_method_1_code (1 : Nat) (Option.none : Option Jvm.ClassFile.FieldType)).before args0 about1 = true := code_word (m := ⟨0, 0⟩) (meth := k0m0) (c := k0c0) (by decide +kernel) rfl rfl rfl (by decide +kernel)
set_option maxRecDepth 65536 in
theorem w_c5 : (Jvm.Cond.code ({ cls := "java/lang/StringUTF16", name := "compress", desc := "([CII)[B" } : Jvm.MethodName) jdk_52_method_16_code (6 : Nat) (Option.some (Jvm.ClassFile.FieldType.array Jvm.ClassFile.FieldType.byte))).before args0 about1 = true := code_word (m := ⟨8, 2⟩) (meth := k8m2) (c := k8c2) (by decide +kernel) rfl rfl rfl (by decide +kernel)
set_option maxRecDepth 65536 in
theorem w_c6 : (Jvm.Cond.code ({ cls := "java/lang/StringUTF16", name := "compress", desc := "([CI[BII)I" } : Jvm.MethodName) jdk_52_method_21_code (7 : Nat) (Option.some Jvm.ClassFile.FieldType.int)).before args0 about1 = true := code_word (m := ⟨8, 3⟩) (meth := k8m3) (c := k8c3) (by decide +kernel) rfl rfl rfl (by decide +kernel)
set_option maxRecDepth 65536 in
theorem w_c7 : (Jvm.Cond.code ({ cls := "java/lang/StringUTF16", name := "coderFromArrayLen", desc := "([BI)B" } : Jvm.MethodName) jdk_52_method_15_code (2 : Nat) (Option.some Jvm.ClassFile.FieldType.byte)).before args0 about1 = true := code_word (m := ⟨8, 1⟩) (meth := k8m1) (c := k8c1) (by decide +kernel) rfl rfl rfl (by decide +kernel)
set_option maxRecDepth 65536 in
theorem w_c8 : (Jvm.Cond.code ({ cls := "com/example/wardn/wardn/rules/RepetitionOperator", name := "at", desc := "(Ljava/lang/String;II)Ljava/util/Optional;" } : Jvm.MethodName) prog_22_method_2_code (5 : Nat) (Option.some (Jvm.ClassFile.FieldType.object "java/util/Optional"))).before args0 about1 = true := code_word (m := ⟨9, 1⟩) (meth := k9m1) (c := k9c1) (by decide +kernel) rfl rfl rfl (by decide +kernel)
set_option maxRecDepth 65536 in
theorem w_c9 : (Jvm.Cond.code ({ cls := "java/lang/String", name := "charAt", desc := "(I)C" } : Jvm.MethodName) jdk_42_method_56_code (2 : Nat) (Option.some Jvm.ClassFile.FieldType.char)).before args0 about1 = true := code_word (m := ⟨7, 2⟩) (meth := k7m2) (c := k7c2) (by decide +kernel) rfl rfl rfl (by decide +kernel)
set_option maxRecDepth 65536 in
theorem w_c10 : (Jvm.Cond.code ({ cls := "java/lang/String", name := "isLatin1", desc := "()Z" } : Jvm.MethodName) jdk_42_method_154_code (1 : Nat) (Option.some Jvm.ClassFile.FieldType.boolean)).before args0 about1 = true := code_word (m := ⟨7, 4⟩) (meth := k7m4) (c := k7c4) (by decide +kernel) rfl rfl rfl (by decide +kernel)
set_option maxRecDepth 65536 in
theorem w_c11 : (Jvm.Cond.code ({ cls := "java/lang/StringLatin1", name := "charAt", desc := "([BI)C" } : Jvm.MethodName) jdk_43_method_2_code (2 : Nat) (Option.some Jvm.ClassFile.FieldType.char)).before args0 about1 = true := code_word (m := ⟨10, 1⟩) (meth := k10m1) (c := k10c1) (by decide +kernel) rfl rfl rfl (by decide +kernel)
set_option maxRecDepth 65536 in
theorem w_c12 : (Jvm.Cond.code ({ cls := "java/lang/String", name := "checkIndex", desc := "(II)V" } : Jvm.MethodName) jdk_42_method_155_code (2 : Nat) (Option.none : Option Jvm.ClassFile.FieldType)).before args0 about1 = true := code_word (m := ⟨7, 5⟩) (meth := k7m5) (c := k7c5) (by decide +kernel) rfl rfl rfl (by decide +kernel)
set_option maxRecDepth 65536 in
theorem w_c13 : (Jvm.Cond.code ({ cls := "jdk/internal/util/Preconditions", name := "checkIndex", desc := "(IILjava/util/function/BiFunction;)I" } : Jvm.MethodName) jdk_41_method_11_code (3 : Nat) (Option.some Jvm.ClassFile.FieldType.int)).before args0 about1 = true := code_word (m := ⟨11, 1⟩) (meth := k11m1) (c := k11c1) (by decide +kernel) rfl rfl rfl (by decide +kernel)
set_option maxRecDepth 65536 in
theorem w_c14 : (Jvm.Cond.code ({ cls := "com/example/wardn/wardn/rules/RepetitionOperator", name := "<init>", desc := "(III)V" } : Jvm.MethodName) prog_22_method_1_code (4 : Nat) (Option.none : Option Jvm.ClassFile.FieldType)).before args0 about1 = true := code_word (m := ⟨9, 0⟩) (meth := k9m0) (c := k9c0) (by decide +kernel) rfl rfl rfl (by decide +kernel)
set_option maxRecDepth 65536 in
theorem w_c15 : (Jvm.Cond.code ({ cls := "java/util/Optional", name := "of", desc := "(Ljava/lang/Object;)Ljava/util/Optional;" } : Jvm.MethodName) jdk_32_method_3_code (1 : Nat) (Option.some (Jvm.ClassFile.FieldType.object "java/util/Optional"))).before args0 about1 = true := code_word (m := ⟨12, 2⟩) (meth := k12m2) (c := k12c2) (by decide +kernel) rfl rfl rfl (by decide +kernel)
set_option maxRecDepth 65536 in
theorem w_c16 : (Jvm.Cond.code ({ cls := "java/util/Objects", name := "requireNonNull", desc := "(Ljava/lang/Object;)Ljava/lang/Object;" } : Jvm.MethodName) jdk_31_method_10_code (1 : Nat) (Option.some (Jvm.ClassFile.FieldType.object "java/lang/Object"))).before args0 about1 = true := code_word (m := ⟨13, 1⟩) (meth := k13m1) (c := k13c1) (by decide +kernel) rfl rfl rfl (by decide +kernel)
set_option maxRecDepth 65536 in
theorem w_c17 : (Jvm.Cond.code ({ cls := "java/util/Optional", name := "<init>", desc := "(Ljava/lang/Object;)V" } : Jvm.MethodName) jdk_32_method_2_code (2 : Nat) (Option.none : Option Jvm.ClassFile.FieldType)).before args0 about1 = true := code_word (m := ⟨12, 1⟩) (meth := k12m1) (c := k12c1) (by decide +kernel) rfl rfl rfl (by decide +kernel)
set_option maxRecDepth 65536 in
theorem w_c18 : (Jvm.Cond.code ({ cls := "java/util/Optional", name := "isEmpty", desc := "()Z" } : Jvm.MethodName) jdk_32_method_7_code (1 : Nat) (Option.some Jvm.ClassFile.FieldType.boolean)).before args0 about1 = true := code_word (m := ⟨12, 4⟩) (meth := k12m4) (c := k12c4) (by decide +kernel) rfl rfl rfl (by decide +kernel)
set_option maxRecDepth 65536 in
theorem w_c19 : (Jvm.Cond.code ({ cls := "java/util/Optional", name := "get", desc := "()Ljava/lang/Object;" } : Jvm.MethodName) jdk_32_method_5_code (1 : Nat) (Option.some (Jvm.ClassFile.FieldType.object "java/lang/Object"))).before args0 about1 = true := code_word (m := ⟨12, 3⟩) (meth := k12m3) (c := k12c3) (by decide +kernel) rfl rfl rfl (by decide +kernel)
set_option maxRecDepth 65536 in
theorem w_c20 : (Jvm.Cond.code ({ cls := "com/example/wardn/wardn/rules/RepetitionOperator", name := "min", desc := "()I" } : Jvm.MethodName) prog_22_method_3_code (1 : Nat) (Option.some Jvm.ClassFile.FieldType.int)).before args0 about1 = true := code_word (m := ⟨9, 2⟩) (meth := k9m2) (c := k9c2) (by decide +kernel) rfl rfl rfl (by decide +kernel)
set_option maxRecDepth 65536 in
theorem w_c21 : (Jvm.Cond.code ({ cls := "com/example/wardn/wardn/rules/RepetitionOperator", name := "max", desc := "()I" } : Jvm.MethodName) prog_22_method_4_code (1 : Nat) (Option.some Jvm.ClassFile.FieldType.int)).before args0 about1 = true := code_word (m := ⟨9, 3⟩) (meth := k9m3) (c := k9c3) (by decide +kernel) rfl rfl rfl (by decide +kernel)
set_option maxRecDepth 65536 in
theorem w_c22 : (Jvm.Cond.code ({ cls := "com/example/wardn/wardn/rules/RepetitionOperator", name := "end", desc := "()I" } : Jvm.MethodName) prog_22_method_5_code (1 : Nat) (Option.some Jvm.ClassFile.FieldType.int)).before args0 about1 = true := code_word (m := ⟨9, 4⟩) (meth := k9m4) (c := k9c4) (by decide +kernel) rfl rfl rfl (by decide +kernel)
set_option maxRecDepth 65536 in
theorem w_c23 : (Jvm.Cond.code ({ cls := "java/util/Optional", name := "empty", desc := "()Ljava/util/Optional;" } : Jvm.MethodName) jdk_32_method_1_code (1 : Nat) (Option.some (Jvm.ClassFile.FieldType.object "java/util/Optional"))).before args0 about1 = true := code_word (m := ⟨12, 0⟩) (meth := k12m0) (c := k12c0) (by decide +kernel) rfl rfl rfl (by decide +kernel)
set_option maxRecDepth 65536 in
theorem w_c24 : (Jvm.Cond.code ({ cls := "com/example/wardn/wardn/rules/RepetitionOperatorAtPinLaw", name := "digitOf", desc := "(JI)I" } : Jvm.MethodName) method_3_code (3 : Nat) (Option.some Jvm.ClassFile.FieldType.int)).before args0 about1 = true := code_word (m := ⟨1, 2⟩) (meth := k1m2) (c := k1c2) (by decide +kernel) rfl rfl rfl (by decide +kernel)
set_option maxRecDepth 65536 in
theorem w_c25 : (Jvm.Cond.code ({ cls := "com/example/wardn/wardn/rules/RepetitionOperator", name := "counted", desc := "(Ljava/lang/String;II)Ljava/util/Optional;" } : Jvm.MethodName) prog_22_method_6_code (9 : Nat) (Option.some (Jvm.ClassFile.FieldType.object "java/util/Optional"))).before args0 about1 = true := code_word (m := ⟨9, 5⟩) (meth := k9m5) (c := k9c5) (by decide +kernel) rfl rfl rfl (by decide +kernel)
set_option maxRecDepth 65536 in
theorem w_c26 : (Jvm.Cond.code ({ cls := "com/example/wardn/wardn/rules/RepetitionOperator", name := "countEnd", desc := "(Ljava/lang/String;II)I" } : Jvm.MethodName) prog_22_method_7_code (5 : Nat) (Option.some Jvm.ClassFile.FieldType.int)).before args0 about1 = true := code_word (m := ⟨9, 6⟩) (meth := k9m6) (c := k9c6) (by decide +kernel) rfl rfl rfl (by decide +kernel)
set_option maxRecDepth 65536 in
theorem w_c27 : (Jvm.Cond.code ({ cls := "com/example/wardn/wardn/rules/RepetitionOperator", name := "isDigit", desc := "(C)Z" } : Jvm.MethodName) prog_22_method_9_code (1 : Nat) (Option.some Jvm.ClassFile.FieldType.boolean)).before args0 about1 = true := code_word (m := ⟨9, 8⟩) (meth := k9m8) (c := k9c8) (by decide +kernel) rfl rfl rfl (by decide +kernel)
set_option maxRecDepth 65536 in
theorem w_c28 : (Jvm.Cond.code ({ cls := "com/example/wardn/wardn/rules/RepetitionOperator", name := "count", desc := "(Ljava/lang/String;II)I" } : Jvm.MethodName) prog_22_method_8_code (6 : Nat) (Option.some Jvm.ClassFile.FieldType.int)).before args0 about1 = true := code_word (m := ⟨9, 7⟩) (meth := k9m7) (c := k9c7) (by decide +kernel) rfl rfl rfl (by decide +kernel)
set_option maxRecDepth 65536 in
theorem w_c29 : (Jvm.Cond.code ({ cls := "java/lang/Math", name := "min", desc := "(JJ)J" } : Jvm.MethodName) jdk_29_method_70_code (4 : Nat) (Option.some Jvm.ClassFile.FieldType.long)).before args0 about1 = true := code_word (m := ⟨14, 1⟩) (meth := k14m1) (c := k14c1) (by decide +kernel) rfl rfl rfl (by decide +kernel)
set_option maxRecDepth 65536 in
theorem w_c30 : (Jvm.Cond.code ({ cls := "com/example/wardn/wardn/rules/RepetitionOperatorAtPinLaw", name := "value", desc := "(JI)I" } : Jvm.MethodName) method_5_code (5 : Nat) (Option.some Jvm.ClassFile.FieldType.int)).before args0 about1 = true := code_word (m := ⟨1, 4⟩) (meth := k1m4) (c := k1c4) (by decide +kernel) rfl rfl rfl (by decide +kernel)
def codes1 : List Jvm.Cond := [Jvm.Cond.code x code maxLocals ret, Jvm.Cond.code ({ cls := "com/example/wardn/wardn/rules/RepetitionOperatorAtPinLaw", name := "fillDigits", desc := "([CIIJ)V" } : Jvm.MethodName) method_4_code (5 : Nat) (Option.none : Option Jvm.ClassFile.FieldType), Jvm.Cond.code ({ cls := "java/lang/String", name := "<init>", desc := "([C)V" } : Jvm.MethodName) jdk_42_method_3_code (2 : Nat) (Option.none : Option Jvm.ClassFile.FieldType), Jvm.Cond.code ({ cls := "java/lang/String", name := "<init>", desc := "([CIILjava/lang/Void;)V" } : Jvm.MethodName) jdk_42_method_149_code (6 : Nat) (Option.none : Option Jvm.ClassFile.FieldType), Jvm.Cond.code ({ cls := "java/lang/Object", name := "<init>", desc := "()V" } : Jvm.MethodName) object_method_1_code (1 : Nat) (Option.none : Option Jvm.ClassFile.FieldType), Jvm.Cond.code ({ cls := "java/lang/StringUTF16", name := "compress", desc := "([CII)[B" } : Jvm.MethodName) jdk_52_method_16_code (6 : Nat) (Option.some (Jvm.ClassFile.FieldType.array Jvm.ClassFile.FieldType.byte)), Jvm.Cond.code ({ cls := "java/lang/StringUTF16", name := "compress", desc := "([CI[BII)I" } : Jvm.MethodName) jdk_52_method_21_code (7 : Nat) (Option.some Jvm.ClassFile.FieldType.int), Jvm.Cond.code ({ cls := "java/lang/StringUTF16", name := "coderFromArrayLen", desc := "([BI)B" } : Jvm.MethodName) jdk_52_method_15_code (2 : Nat) (Option.some Jvm.ClassFile.FieldType.byte), Jvm.Cond.code ({ cls := "com/example/wardn/wardn/rules/RepetitionOperator", name := "at", desc := "(Ljava/lang/String;II)Ljava/util/Optional;" } : Jvm.MethodName) prog_22_method_2_code (5 : Nat) (Option.some (Jvm.ClassFile.FieldType.object "java/util/Optional")), Jvm.Cond.code ({ cls := "java/lang/String", name := "charAt", desc := "(I)C" } : Jvm.MethodName) jdk_42_method_56_code (2 : Nat) (Option.some Jvm.ClassFile.FieldType.char), Jvm.Cond.code ({ cls := "java/lang/String", name := "isLatin1", desc := "()Z" } : Jvm.MethodName) jdk_42_method_154_code (1 : Nat) (Option.some Jvm.ClassFile.FieldType.boolean), Jvm.Cond.code ({ cls := "java/lang/StringLatin1", name := "charAt", desc := "([BI)C" } : Jvm.MethodName) jdk_43_method_2_code (2 : Nat) (Option.some Jvm.ClassFile.FieldType.char), Jvm.Cond.code ({ cls := "java/lang/String", name := "checkIndex", desc := "(II)V" } : Jvm.MethodName) jdk_42_method_155_code (2 : Nat) (Option.none : Option Jvm.ClassFile.FieldType), Jvm.Cond.code ({ cls := "jdk/internal/util/Preconditions", name := "checkIndex", desc := "(IILjava/util/function/BiFunction;)I" } : Jvm.MethodName) jdk_41_method_11_code (3 : Nat) (Option.some Jvm.ClassFile.FieldType.int), Jvm.Cond.code ({ cls := "com/example/wardn/wardn/rules/RepetitionOperator", name := "<init>", desc := "(III)V" } : Jvm.MethodName) prog_22_method_1_code (4 : Nat) (Option.none : Option Jvm.ClassFile.FieldType), Jvm.Cond.code ({ cls := "java/util/Optional", name := "of", desc := "(Ljava/lang/Object;)Ljava/util/Optional;" } : Jvm.MethodName) jdk_32_method_3_code (1 : Nat) (Option.some (Jvm.ClassFile.FieldType.object "java/util/Optional")), Jvm.Cond.code ({ cls := "java/util/Objects", name := "requireNonNull", desc := "(Ljava/lang/Object;)Ljava/lang/Object;" } : Jvm.MethodName) jdk_31_method_10_code (1 : Nat) (Option.some (Jvm.ClassFile.FieldType.object "java/lang/Object")), Jvm.Cond.code ({ cls := "java/util/Optional", name := "<init>", desc := "(Ljava/lang/Object;)V" } : Jvm.MethodName) jdk_32_method_2_code (2 : Nat) (Option.none : Option Jvm.ClassFile.FieldType), Jvm.Cond.code ({ cls := "java/util/Optional", name := "isEmpty", desc := "()Z" } : Jvm.MethodName) jdk_32_method_7_code (1 : Nat) (Option.some Jvm.ClassFile.FieldType.boolean), Jvm.Cond.code ({ cls := "java/util/Optional", name := "get", desc := "()Ljava/lang/Object;" } : Jvm.MethodName) jdk_32_method_5_code (1 : Nat) (Option.some (Jvm.ClassFile.FieldType.object "java/lang/Object")), Jvm.Cond.code ({ cls := "com/example/wardn/wardn/rules/RepetitionOperator", name := "min", desc := "()I" } : Jvm.MethodName) prog_22_method_3_code (1 : Nat) (Option.some Jvm.ClassFile.FieldType.int), Jvm.Cond.code ({ cls := "com/example/wardn/wardn/rules/RepetitionOperator", name := "max", desc := "()I" } : Jvm.MethodName) prog_22_method_4_code (1 : Nat) (Option.some Jvm.ClassFile.FieldType.int), Jvm.Cond.code ({ cls := "com/example/wardn/wardn/rules/RepetitionOperator", name := "end", desc := "()I" } : Jvm.MethodName) prog_22_method_5_code (1 : Nat) (Option.some Jvm.ClassFile.FieldType.int), Jvm.Cond.code ({ cls := "java/util/Optional", name := "empty", desc := "()Ljava/util/Optional;" } : Jvm.MethodName) jdk_32_method_1_code (1 : Nat) (Option.some (Jvm.ClassFile.FieldType.object "java/util/Optional")), Jvm.Cond.code ({ cls := "com/example/wardn/wardn/rules/RepetitionOperatorAtPinLaw", name := "digitOf", desc := "(JI)I" } : Jvm.MethodName) method_3_code (3 : Nat) (Option.some Jvm.ClassFile.FieldType.int), Jvm.Cond.code ({ cls := "com/example/wardn/wardn/rules/RepetitionOperator", name := "counted", desc := "(Ljava/lang/String;II)Ljava/util/Optional;" } : Jvm.MethodName) prog_22_method_6_code (9 : Nat) (Option.some (Jvm.ClassFile.FieldType.object "java/util/Optional")), Jvm.Cond.code ({ cls := "com/example/wardn/wardn/rules/RepetitionOperator", name := "countEnd", desc := "(Ljava/lang/String;II)I" } : Jvm.MethodName) prog_22_method_7_code (5 : Nat) (Option.some Jvm.ClassFile.FieldType.int), Jvm.Cond.code ({ cls := "com/example/wardn/wardn/rules/RepetitionOperator", name := "isDigit", desc := "(C)Z" } : Jvm.MethodName) prog_22_method_9_code (1 : Nat) (Option.some Jvm.ClassFile.FieldType.boolean), Jvm.Cond.code ({ cls := "com/example/wardn/wardn/rules/RepetitionOperator", name := "count", desc := "(Ljava/lang/String;II)I" } : Jvm.MethodName) prog_22_method_8_code (6 : Nat) (Option.some Jvm.ClassFile.FieldType.int), Jvm.Cond.code ({ cls := "java/lang/Math", name := "min", desc := "(JJ)J" } : Jvm.MethodName) jdk_29_method_70_code (4 : Nat) (Option.some Jvm.ClassFile.FieldType.long), Jvm.Cond.code ({ cls := "com/example/wardn/wardn/rules/RepetitionOperatorAtPinLaw", name := "value", desc := "(JI)I" } : Jvm.MethodName) method_5_code (5 : Nat) (Option.some Jvm.ClassFile.FieldType.int)]
set_option maxRecDepth 65536 in
theorem codes_eq : words1.filter isCode = codes1 := rfl
theorem w_codes : ∀ c ∈ words1.filter isCode, c.before args0 about1 = true := by
  rw [codes_eq]
  intro c hc
  simp only [codes1, List.mem_cons, List.not_mem_nil, or_false] at hc
  rcases hc with rfl | rfl | rfl | rfl | rfl | rfl | rfl | rfl | rfl | rfl | rfl | rfl | rfl | rfl | rfl | rfl | rfl | rfl | rfl | rfl | rfl | rfl | rfl | rfl | rfl | rfl | rfl | rfl | rfl | rfl | rfl
  · exact w_c0
  · exact w_c1
  · exact w_c2
  · exact w_c3
  · exact w_c4
  · exact w_c5
  · exact w_c6
  · exact w_c7
  · exact w_c8
  · exact w_c9
  · exact w_c10
  · exact w_c11
  · exact w_c12
  · exact w_c13
  · exact w_c14
  · exact w_c15
  · exact w_c16
  · exact w_c17
  · exact w_c18
  · exact w_c19
  · exact w_c20
  · exact w_c21
  · exact w_c22
  · exact w_c23
  · exact w_c24
  · exact w_c25
  · exact w_c26
  · exact w_c27
  · exact w_c28
  · exact w_c29
  · exact w_c30
set_option maxRecDepth 65536 in
theorem w_t1 : (words1.take 24).all (fun c => isCode c || c.before args0 about1) = true := by decide +kernel
set_option maxRecDepth 65536 in
theorem w_t2 : ((words1.drop 24).take 24).all (fun c => isCode c || c.before args0 about1) = true := by decide +kernel
set_option maxRecDepth 65536 in
theorem w_t3 : (((words1.drop 24).drop 24).take 24).all (fun c => isCode c || c.before args0 about1) = true := by decide +kernel
set_option maxRecDepth 65536 in
theorem w_t4 : ((((words1.drop 24).drop 24).drop 24).take 24).all (fun c => isCode c || c.before args0 about1) = true := by decide +kernel
set_option maxRecDepth 65536 in
theorem w_t5 : (((((words1.drop 24).drop 24).drop 24).drop 24).take 24).all (fun c => isCode c || c.before args0 about1) = true := by decide +kernel
set_option maxRecDepth 65536 in
theorem w_t6 : ((((((words1.drop 24).drop 24).drop 24).drop 24).drop 24).take 24).all (fun c => isCode c || c.before args0 about1) = true := by decide +kernel
set_option maxRecDepth 65536 in
theorem w_t7 : ((((((words1.drop 24).drop 24).drop 24).drop 24).drop 24).drop 24).all (fun c => isCode c || c.before args0 about1) = true := by decide +kernel
theorem w_tables : (allAtoms (Jvm.Cond.code x code maxLocals ret :: tables_1)).before args0 about1 = true := by
  rw [allAtoms_all]
  show words1.all (fun c => c.before args0 about1) = true
  refine all_split ?_ w_codes
  rw [← List.take_append_drop 24 words1, List.all_append, w_t1, ← List.take_append_drop 24 (words1.drop 24), List.all_append, w_t2, ← List.take_append_drop 24 ((words1.drop 24).drop 24), List.all_append, w_t3, ← List.take_append_drop 24 (((words1.drop 24).drop 24).drop 24), List.all_append, w_t4, ← List.take_append_drop 24 ((((words1.drop 24).drop 24).drop 24).drop 24), List.all_append, w_t5, ← List.take_append_drop 24 (((((words1.drop 24).drop 24).drop 24).drop 24).drop 24), List.all_append, w_t6, w_t7]
  rfl
set_option maxRecDepth 65536 in
theorem w_rest : rest_1_c.before args0 about1 = true := by decide +kernel
set_option maxRecDepth 65536 in
theorem w_case : (Jvm.Cond.and given_1 narrow_1).before args0 about1 = true := by decide +kernel
theorem w_applies : (headSpec (Jvm.Cond.code x code maxLocals ret :: tables_1) room_1).applies x e0.platform about1 = true :=
  (Spec.applies_iff w_frames).mpr ⟨w_running, w_runnable, w_alone, w_named, w_hears, w_ripe, w_room, w_tables⟩
theorem atStart : AtStart classFile x code maxLocals ret World_1 tables_1 room_1 Calls_1 rest_1 Pre_1 launch0 p0 e0 about1 theMethod args0 below0 :=
  ⟨lists_1, trivial, launch0.admits_env _ _ _, launch0.least_env, fairChoices_fair.cas, fairChoices_fair.clock, w_frames, w_args, w_heap, w_applies, trivial, w_rest, w_case⟩
end start1
theorem witness_1 : WitnessClaimed_1 := ⟨start1.p0, start1.e0, start1.about1, start1.theMethod, start1.args0, start1.below0, start1.atStart⟩
end Jvm.Pilot.@@N@@
