
import JvmDerived
import JvmDerived.Pilot.@@N@@Statement
import JvmDerived.Pilot.@@N@@Code
set_option linter.unusedVariables false
set_option linter.unusedSimpArgs false
set_option maxRecDepth 65536
set_option maxHeartbeats 40000000
namespace Jvm.RoadKit
open Sem ClassFile Op Lib Jvm.Stand Jvm.Free Jvm.LawKit
section New
variable {p : Program} {l : Launch} {e : Env} {R : Room} {s : State} {m : MethodId} {args : Array Value} {below : List Frame} {meth : Method} {c : Code} {T : State} {locs : List Loc} {cells slots : Nat}
theorem retI (X : Stand p l e R s m args below meth c T locs cells slots) (hx : p.tables.exec = Jvm.exec) {pc : Nat} {Ls : Array Slot} {z : Int32} {rest : List Value} (hret : meth.sig.returnType = some .int) (hd : decode c.code pc = .ok (.ireturn, 1)) {fs : List Frame}
    (hl : ∀ (f : JFrame) (acts : List Action), f.method = m → f.locked = none → f.entered = [] → (doReturn e (T.setTop f) acts (some (.int z))).1 = T.setFrames fs) : Steps p.tables e below (T.setTop (mkF m pc Ls (.int z :: rest))) (T.setFrames fs) := by
  have hm' : T.vm.method? m = some meth := X.method'
  have hn : narrow .int (.int z) = .int z := rfl
  show Steps p.tables e below (T.setTop { method := m, pc := pc, locals := Ls, stack := _ :: rest, locked := none }) _
  jvm_step X.here [X.here.top, hx, hd, hm', hret, hn]
  first | (intro acts; rw [hl _ acts rfl rfl rfl]) | rw [hl _ _ rfl rfl rfl]
  exact Steps.refl _
/-- what is left of a walk: from S the run comes to its end, and Q is said of that -/
def OwnGo (p : Program) (e : Env) (below : List Frame) (s : State) (Q : Option Value → Heap → List Loc → Prop) (k n : Nat) (S : State) : Prop :=
  ∃ s₂ o, Steps p.tables e below S s₂ ∧ s₂.status = .running ∧ Ended s₂ below o ∧ ∃ v L, o = .returned v ∧ Q v s₂.heap L ∧ FrameEnd s o s₂ L k n
theorem gs {Q : Option Value → Heap → List Loc → Prop} {k n : Nat} {S S' : State} (f : ∀ t, Steps p.tables e below S' t → Steps p.tables e below S t) (h : OwnGo p e below s Q k n S') : OwnGo p e below s Q k n S := by
  obtain ⟨s₂, o, h1, r⟩ := h; exact ⟨s₂, o, f _ h1, r⟩
theorem gout {Q : Option Value → Heap → List Loc → Prop} {k n : Nat} {S : State} (X : Stand p l e R s m args below meth c T locs cells slots) (hlk : meth.locks = false) {v : Option Value} (hv : meth.sig.returnType = none → v = none) (hk : cells ≤ k) (hn : slots ≤ n) (hq : Q v T.heap locs)
    (st : ∀ fs, (∀ (f : JFrame) (acts : List Action), f.method = m → f.locked = none → f.entered = [] → (doReturn e (T.setTop f) acts v).1 = T.setFrames fs) → Steps p.tables e below S (T.setFrames fs)) : OwnGo p e below s Q k n S := by
  obtain ⟨fs, hr, hrun, hended, hW, hsame⟩ := X.leave (v := v) hv hlk
  exact ⟨_, _, st fs hr, hrun, hended, v, _, rfl, hq, ⟨v, rfl⟩, hW, hsame.mono hk hn⟩
/-- .. where String constants may be loaded on the way -/
def OwnGoW (p : Program) (e : Env) (below : List Frame) (s : State) (Z : State) (EL : List (String × Nat)) (Q : Option Value → Heap → List Loc → Prop) (k n : Nat) (S : State) : Prop :=
  ∃ s₂ o, Steps p.tables e below S s₂ ∧ s₂.status = .running ∧ Ended s₂ below o ∧ ∃ v L, o = .returned v ∧ Q v s₂.heap L ∧ CHr Z EL s.vm s.heap s₂.vm s₂.heap ∧ ReturnedEndW s o s₂ L k n
theorem gsW {Z : State} {EL : List (String × Nat)} {Q : Option Value → Heap → List Loc → Prop} {k n : Nat} {S S' : State} (f : ∀ t, Steps p.tables e below S' t → Steps p.tables e below S t) (h : OwnGoW p e below s Z EL Q k n S') : OwnGoW p e below s Z EL Q k n S := by
  obtain ⟨s₂, o, h1, r⟩ := h; exact ⟨s₂, o, f _ h1, r⟩
theorem goutW {Z : State} {a0 : Array Value} {EL : List (String × Nat)} {Q : Option Value → Heap → List Loc → Prop} {k n k0 : Nat} {S : State} {vm1 : Vm} {h0 h : Heap} (X : Stand p l e R (s.setVm vm1) m args below meth c T locs cells slots) (hS : s.Since vm1 k0) (hkk : k0 ≤ h.size) (hZ : Z.Warmed39 (s.setVm vm1).vm) (hEL : EW Z a0 EL) (hh : s.heap = h0) (eT : T.heap = h) (hR : CHr Z EL s.vm h0 vm1 h)
    (hlk : meth.locks = false) {v : Option Value} (hv : meth.sig.returnType = none → v = none) (hk : cells ≤ k) (hn : slots ≤ n) (hq : Q v h locs)
    (st : ∀ fs, (∀ (f : JFrame) (acts : List Action), f.method = m → f.locked = none → f.entered = [] → (doReturn e (T.setTop f) acts v).1 = T.setFrames fs) → Steps p.tables e below S (T.setFrames fs)) : OwnGoW p e below s Z EL Q k n S := by
  subst eT hh
  obtain ⟨fs, hr, hrun, hended, hE⟩ := X.leaveW hS hkk (v := v) hv hlk
  exact ⟨_, _, st fs hr, hrun, hended, v, _, rfl, hq, hR.trans (show CHr Z EL vm1 T.heap T.vm T.heap from CHv.at X hZ hEL hR.1), hE.1, hE.2.1, hE.2.2.1, hE.2.2.2.mono hk hn⟩
end New
def CtrW (l : Launch) (Z : State) (EL : List (String × Nat)) (y : MethodName) (bytes : ByteArray) (maxL : Nat) (ret : Option FieldType) (ws : List Jvm.Cond) (R : Room) (as' : Array Value) (h0 : Heap) (Q : Option Value → Heap → List Loc → Prop) : Prop :=
  MetFree l y (head1 (Jvm.Cond.code y bytes maxL ret :: ws) R) (fun a U => a = as' ∧ Z.Warmed39 U.vm ∧ U.heap = h0 ∧ CHv Z EL U.vm h0) (fun _ _ _ _ _ => True) (fun _ U o U' => ∃ v L, o = .returned v ∧ Q v U'.heap L ∧ CHr Z EL U.vm U.heap U'.vm U'.heap ∧ ReturnedEndW U o U' L R.cells R.slots)
/-- a method's contract -/
def Ctr (l : Launch) (Z : State) (y : MethodName) (bytes : ByteArray) (maxL : Nat) (ret : Option FieldType) (ws : List Jvm.Cond) (R : Room) (as' : Array Value) (h0 : Heap) (Q : Option Value → Heap → List Loc → Prop) : Prop :=
  MetFree l y (head1 (Jvm.Cond.code y bytes maxL ret :: ws) R) (fun a U => a = as' ∧ Z.Warmed39 U.vm ∧ U.heap = h0) (fun _ _ _ _ _ => True) (fun _ U o U' => ∃ v L, o = .returned v ∧ Q v U'.heap L ∧ FrameEnd U o U' L R.cells R.slots)
section Own
variable {p : Program} {l : Launch} {e : Env} {R : Room} {s Z : State} {args a0 : Array Value} {below : List Frame} {y : MethodName} {bytes : ByteArray} {maxL : Nat} {ret : Option FieldType} {rm : Room} {len W : Nat} {as' : Array Value} {h : Heap} {Q : Option Value → Heap → List Loc → Prop} {EL : List (String × Nat)} {vm0 : Vm} {ws : List Jvm.Cond}
theorem Ctr.of (hM : MetFree l y (head1 (Jvm.Cond.code y bytes maxL ret :: ws) R) (fun a U => a = as' ∧ Z.Warmed39 U.vm ∧ U.heap = h) (fun _ _ _ _ _ => True) (fun _ U o U' => ∃ v L, o = .returned v ∧ Q v U'.heap L ∧ FrameEnd U o U' L R.cells R.slots)) : Ctr l Z y bytes maxL ret ws R as' h Q := hM
theorem CtrW.of (hM : MetFree l y (head1 (Jvm.Cond.code y bytes maxL ret :: ws) R) (fun a U => a = as' ∧ Z.Warmed39 U.vm ∧ U.heap = h ∧ CHv Z EL U.vm h) (fun _ _ _ _ _ => True) (fun _ U o U' => ∃ v L, o = .returned v ∧ Q v U'.heap L ∧ CHr Z EL U.vm U.heap U'.vm U'.heap ∧ ReturnedEndW U o U' L R.cells R.slots)) : CtrW l Z EL y bytes maxL ret ws R as' h Q := hM
theorem backC (hM : Ctr l Z y bytes maxL ret [] rm as' h Q) (hZ : Z.Warmed39 s.vm) (wc : (Cond.code y bytes maxL ret).before a0 Z = true) (wz : (Cond.initialized y.cls).before a0 Z = true) (hf : rm.frames + 1 ≤ R.frames) (hl : W + (maxL + 11) + rm.locals ≤ R.locals) :
    Back l R p e below s args y len W (fun A a => a = as' ∧ A.U.heap = h ∧ A.cells + rm.cells ≤ R.cells ∧ A.slots + rm.slots ≤ R.slots)
      (fun A _ v B => ∃ L, Q v B.U.heap L ∧ B.locs = A.locs ++ L ∧ B.cells = A.cells + rm.cells ∧ B.slots = A.slots + rm.slots) := backOf (Q := Q) hM hZ wc wz hf hl
theorem backCW (hM : CtrW l Z EL y bytes maxL ret [] rm as' h Q) (hZ : Z.Warmed39 vm0) (wc : (Cond.code y bytes maxL ret).before a0 Z = true) (wz : (Cond.initialized y.cls).before a0 Z = true) (hf : rm.frames + 1 ≤ R.frames) (hl : W + (maxL + 11) + rm.locals ≤ R.locals) (hEL : EW Z a0 EL) (H : CHv Z EL vm0 h) :
    BackS l R p e below (s.setVm vm0) args y len W (fun A a => a = as' ∧ A.U.heap = h ∧ A.cells + rm.cells ≤ R.cells ∧ A.slots + rm.slots ≤ R.slots)
      (fun A _ v B => ∃ L, Q v B.U.heap L ∧ B.locs = A.locs ++ L ∧ B.cells = A.cells + rm.cells ∧ B.slots = A.slots + rm.slots ∧ CHr Z EL vm0 h B.U.vm B.U.heap) := backOfSH (Q := Q) hM hZ wc wz hf hl hEL H
theorem Ctr.go {h0 : Heap} (hp : plainFor y = true) (H : ∀ (p : Program) (e : Env) (s : State) (m : MethodId) (below : List Frame) (meth : Method) (c : Code) (s₁ : State), BodyLoose p l y (head1 (Jvm.Cond.code y bytes maxL ret :: ws) R) bytes maxL ret e s m as' below meth c s₁ → p.tables.exec = Jvm.exec → c.code = bytes → c.maxLocals = maxL → Z.Warmed39 s.vm → s.vm.findClass y.cls = some m.cls → meth.name = y.name → Stand p l e R s m as' below meth c s₁ [] 0 0 → s₁.heap = h0 → OwnGo p e below s Q R.cells R.slots (s₁.setTop (entryFrame m as' maxL))) : Ctr l Z y bytes maxL ret ws R as' h0 Q := by
  refine Ctr.of (MetFree.of_bodySF hp hisR ?_)
  intro p e s m args below meth c s₁ Bd hml0 hP hK
  obtain ⟨rfl, hZ, hh⟩ := hP
  exact H p e s m below meth c s₁ Bd Bd.exec Bd.bytes hml0 hZ (findClass_of_methodNamed Bd.named) (name_of_methodNamed Bd.named Bd.method).1 (Stand.of_body Bd) (by rw [← hh, Bd.state]; rfl)
end Own
end Jvm.RoadKit
open Int32 renaming ofNat → oI
namespace Jvm.Pilot.@@N@@
open Jvm Jvm.ClassFile Sem Op Lib Jvm.Free Jvm.Stand Jvm.LawKit Jvm.RoadKit Bundle Jvm.Pilot.@@N@@.Jvm.D
section Ow
variable {p : Program} {l : Launch} {e : Env} {R : Room} {s : State} {m : MethodId} {args : Array Value} {below : List Frame} {meth : Method} {c : Code} {T : State} {locs : List Loc} {cells slots : Nat} {code : ByteArray} {pc : Nat} {L : Array Slot} {S : List Value} {tg : State}
theorem o_aconstNull (X : Stand p l e R s m args below meth c T locs cells slots) (hx : p.tables.exec = Jvm.exec) (hby : c.code = code) (d : decode code pc = .ok (.aconst_null, 1)) (r : Steps p.tables e below (T.setTop (mkF m (pc + 1) L (.null :: S))) tg)  : Steps p.tables e below (T.setTop (mkF m pc L (S))) tg := XS.aconstNull X.here hx rfl (hb hby d) r
theorem jf (X : Stand p l e R s m args below meth c T locs cells slots) (hx : p.tables.exec = Jvm.exec) (hby : c.code = code) {k : Nat} {v : Value} (d : decode code pc = .ok (.aload k, 2)) (hl : L[k]? = some (.val v)) (hv : v.isRef = true) (r : Steps p.tables e below (T.setTop (mkF m (pc + 2) L (v :: S))) tg)  : Steps p.tables e below (T.setTop (mkF m pc L (S))) tg := XS.aload X.here hx rfl (hb hby d) hl hv r
theorem ja (X : Stand p l e R s m args below meth c T locs cells slots) (hx : p.tables.exec = Jvm.exec) (hby : c.code = code) {k : Fin 4} {v : Value} (d : decode code pc = .ok (.aload_n k, 1)) (hl : L[k.val]? = some (.val v)) (hv : v.isRef = true) (r : Steps p.tables e below (T.setTop (mkF m (pc + 1) L (v :: S))) tg)  : Steps p.tables e below (T.setTop (mkF m pc L (S))) tg := XS.aloadN X.here hx rfl (hb hby d) hl hv r
theorem jo (X : Stand p l e R s m args below meth c T locs cells slots) (hx : p.tables.exec = Jvm.exec) (hby : c.code = code) {k : Nat} {x : Value} {l' : Array Slot} (d : decode code pc = .ok (.astore k, 2)) (hv : x.isRef = true) (hl : storeLocals L k x = some l') (r : Steps p.tables e below (T.setTop (mkF m (pc + 2) l' (S))) tg)  : Steps p.tables e below (T.setTop (mkF m pc L (x :: S))) tg := XS.astore X.here hx rfl (hb hby d) rfl hv hl r
theorem jw (X : Stand p l e R s m args below meth c T locs cells slots) (hx : p.tables.exec = Jvm.exec) (hby : c.code = code) {k : Fin 4} {x : Value} {l' : Array Slot} (d : decode code pc = .ok (.astore_n k, 1)) (hv : x.isRef = true) (hl : storeLocals L k.val x = some l') (r : Steps p.tables e below (T.setTop (mkF m (pc + 1) l' (S))) tg)  : Steps p.tables e below (T.setTop (mkF m pc L (x :: S))) tg := XS.astoreN X.here hx rfl (hb hby d) rfl hv hl r
theorem jr (X : Stand p l e R s m args below meth c T locs cells slots) (hx : p.tables.exec = Jvm.exec) (hby : c.code = code) {v : Int32} {i : Int} (d : decode code pc = .ok (.bipush i, 2)) (r : Steps p.tables e below (T.setTop (mkF m (pc + 2) L (.int v :: S))) tg) (hv : (Int8.ofInt i).toInt32 = v := by rfl) : Steps p.tables e below (T.setTop (mkF m pc L S)) tg := by subst hv; exact XS.bipush X.here hx rfl (hb hby d) r
theorem jP (X : Stand p l e R s m args below meth c T locs cells slots) (hx : p.tables.exec = Jvm.exec) (hby : c.code = code) {x : Value} (d : decode code pc = .ok (.dup, 1)) (hc : x.category = 1) (r : Steps p.tables e below (T.setTop (mkF m (pc + 1) L (x :: x :: S))) tg)  : Steps p.tables e below (T.setTop (mkF m pc L (x :: S))) tg := XS.dup X.here hx rfl (hb hby d) rfl hc r
theorem o_dupX1 (X : Stand p l e R s m args below meth c T locs cells slots) (hx : p.tables.exec = Jvm.exec) (hby : c.code = code) {x y : Value} (d : decode code pc = .ok (.dup_x1, 1)) (hc : x.category = 1) (hc2 : y.category = 1) (r : Steps p.tables e below (T.setTop (mkF m (pc + 1) L (x :: y :: x :: S))) tg)  : Steps p.tables e below (T.setTop (mkF m pc L (x :: y :: S))) tg := XS.dupX1 X.here hx rfl (hb hby d) rfl hc hc2 r
theorem jl (X : Stand p l e R s m args below meth c T locs cells slots) (hx : p.tables.exec = Jvm.exec) (hby : c.code = code) {o : Int} {pc' : Nat} (d : decode code pc = .ok (.goto o, 3)) (r : Steps p.tables e below (T.setTop (mkF m (pc') L (S))) tg) (ho : decide (0 ≤ (pc : Int) + o) = true := by rfl) (hp : ((pc : Int) + o).toNat = pc' := by rfl) : Steps p.tables e below (T.setTop (mkF m pc L (S))) tg := XS.goto X.here hx rfl rfl (hb hby d) (of_decide_eq_true ho) hp r
theorem jN (X : Stand p l e R s m args below meth c T locs cells slots) (hx : p.tables.exec = Jvm.exec) (hby : c.code = code) {v : Int32} (d : decode code pc = .ok (.i2b, 1)) (r : Steps p.tables e below (T.setTop (mkF m (pc + 1) L (.int (v.toInt8.toInt32) :: S))) tg)  : Steps p.tables e below (T.setTop (mkF m pc L (.int v :: S))) tg := XS.i2b X.here hx rfl (hb hby d) rfl r
theorem o_i2c (X : Stand p l e R s m args below meth c T locs cells slots) (hx : p.tables.exec = Jvm.exec) (hby : c.code = code) {v : Int32} (d : decode code pc = .ok (.i2c, 1)) (r : Steps p.tables e below (T.setTop (mkF m (pc + 1) L (.int (v.toUInt32.toUInt16.toUInt32.toInt32) :: S))) tg)  : Steps p.tables e below (T.setTop (mkF m pc L (.int v :: S))) tg := XS.i2c X.here hx rfl (hb hby d) rfl r
theorem jI (X : Stand p l e R s m args below meth c T locs cells slots) (hx : p.tables.exec = Jvm.exec) (hby : c.code = code) {x y : Int32} (d : decode code pc = .ok (.iadd, 1)) (r : Steps p.tables e below (T.setTop (mkF m (pc + 1) L (.int (x + y) :: S))) tg)  : Steps p.tables e below (T.setTop (mkF m pc L (.int y :: .int x :: S))) tg := XS.iadd X.here hx rfl (hb hby d) rfl r
theorem o_iand (X : Stand p l e R s m args below meth c T locs cells slots) (hx : p.tables.exec = Jvm.exec) (hby : c.code = code) {x y : Int32} (d : decode code pc = .ok (.iand, 1)) (r : Steps p.tables e below (T.setTop (mkF m (pc + 1) L (.int (x &&& y) :: S))) tg)  : Steps p.tables e below (T.setTop (mkF m pc L (.int y :: .int x :: S))) tg := XS.iand X.here hx rfl (hb hby d) rfl r
theorem ji (X : Stand p l e R s m args below meth c T locs cells slots) (hx : p.tables.exec = Jvm.exec) (hby : c.code = code) {cd : ClassFile.Cond} {o : Int} {x y : Int32} (d : decode code pc = .ok (.if_icmp cd o, 3)) (hc : if_icmp.holds cd x y = false) (r : Steps p.tables e below (T.setTop (mkF m (pc + 3) L (S))) tg)  : Steps p.tables e below (T.setTop (mkF m pc L (.int y :: .int x :: S))) tg := XS.icmpNo X.here hx rfl (hb hby d) rfl hc r
theorem jh (X : Stand p l e R s m args below meth c T locs cells slots) (hx : p.tables.exec = Jvm.exec) (hby : c.code = code) {cd : ClassFile.Cond} {x y : Int32} {o : Int} {pc' : Nat} (d : decode code pc = .ok (.if_icmp cd o, 3)) (hc : if_icmp.holds cd x y = true) (r : Steps p.tables e below (T.setTop (mkF m (pc') L (S))) tg) (ho : decide (0 ≤ (pc : Int) + o) = true := by rfl) (hp : ((pc : Int) + o).toNat = pc' := by rfl) : Steps p.tables e below (T.setTop (mkF m pc L (.int y :: .int x :: S))) tg := XS.icmpYes X.here hx rfl rfl (hb hby d) rfl hc (of_decide_eq_true ho) hp r
theorem je (X : Stand p l e R s m args below meth c T locs cells slots) (hx : p.tables.exec = Jvm.exec) (hby : c.code = code) {v : Int32} {i : Int} (d : decode code pc = .ok (.iconst i, 1)) (r : Steps p.tables e below (T.setTop (mkF m (pc + 1) L (.int v :: S))) tg) (hv : Int32.ofInt i = v := by rfl) : Steps p.tables e below (T.setTop (mkF m pc L S)) tg := by subst hv; exact XS.iconst X.here hx rfl (hb hby d) r
theorem jn (X : Stand p l e R s m args below meth c T locs cells slots) (hx : p.tables.exec = Jvm.exec) (hby : c.code = code) {cd : ClassFile.Cond} {o : Int} {x : Int32} (d : decode code pc = .ok (.ifCond cd o, 3)) (hc : ifCond.holds cd x = false) (r : Steps p.tables e below (T.setTop (mkF m (pc + 3) L (S))) tg)  : Steps p.tables e below (T.setTop (mkF m pc L (.int x :: S))) tg := XS.ifNo X.here hx rfl (hb hby d) rfl hc r
theorem jt (X : Stand p l e R s m args below meth c T locs cells slots) (hx : p.tables.exec = Jvm.exec) (hby : c.code = code) {cd : ClassFile.Cond} {x : Int32} {o : Int} {pc' : Nat} (d : decode code pc = .ok (.ifCond cd o, 3)) (hc : ifCond.holds cd x = true) (r : Steps p.tables e below (T.setTop (mkF m (pc') L (S))) tg) (ho : decide (0 ≤ (pc : Int) + o) = true := by rfl) (hp : ((pc : Int) + o).toNat = pc' := by rfl) : Steps p.tables e below (T.setTop (mkF m pc L (.int x :: S))) tg := XS.ifYes X.here hx rfl rfl (hb hby d) rfl hc (of_decide_eq_true ho) hp r
theorem o_ifnonnullYes (X : Stand p l e R s m args below meth c T locs cells slots) (hx : p.tables.exec = Jvm.exec) (hby : c.code = code) {b : Addr} {o : Int} {pc' : Nat} (d : decode code pc = .ok (.ifnonnull o, 3)) (r : Steps p.tables e below (T.setTop (mkF m (pc') L (S))) tg) (ho : decide (0 ≤ (pc : Int) + o) = true := by rfl) (hp : ((pc : Int) + o).toNat = pc' := by rfl) : Steps p.tables e below (T.setTop (mkF m pc L (.ref b :: S))) tg := XS.ifnonnullYes X.here hx rfl rfl (hb hby d) rfl (of_decide_eq_true ho) hp r
theorem jm (X : Stand p l e R s m args below meth c T locs cells slots) (hx : p.tables.exec = Jvm.exec) (hby : c.code = code) {k : Nat} {cst : Int} {x : Int32} {l' : Array Slot} (d : decode code pc = .ok (.iinc k cst, 3)) (hl : L[k]? = some (.val (.int x))) (hl' : storeLocals L k (.int (x + Int32.ofInt cst)) = some l') (r : Steps p.tables e below (T.setTop (mkF m (pc + 3) l' (S))) tg)  : Steps p.tables e below (T.setTop (mkF m pc L (S))) tg := XS.iinc X.here hx rfl (hb hby d) hl hl' r
theorem jd (X : Stand p l e R s m args below meth c T locs cells slots) (hx : p.tables.exec = Jvm.exec) (hby : c.code = code) {k : Nat} {v : Int32} (d : decode code pc = .ok (.iload k, 2)) (hl : L[k]? = some (.val (.int v))) (r : Steps p.tables e below (T.setTop (mkF m (pc + 2) L (.int v :: S))) tg)  : Steps p.tables e below (T.setTop (mkF m pc L (S))) tg := XS.iload X.here hx rfl (hb hby d) hl r
theorem jb (X : Stand p l e R s m args below meth c T locs cells slots) (hx : p.tables.exec = Jvm.exec) (hby : c.code = code) {k : Fin 4} {v : Int32} (d : decode code pc = .ok (.iload_n k, 1)) (hl : L[k.val]? = some (.val (.int v))) (r : Steps p.tables e below (T.setTop (mkF m (pc + 1) L (.int v :: S))) tg)  : Steps p.tables e below (T.setTop (mkF m pc L (S))) tg := XS.iloadN X.here hx rfl (hb hby d) hl r
theorem o_ior (X : Stand p l e R s m args below meth c T locs cells slots) (hx : p.tables.exec = Jvm.exec) (hby : c.code = code) {x : Int32} {y : Int32} (d : decode code pc = .ok (.ior, 1)) (r : Steps p.tables e below (T.setTop (mkF m (pc + 1) L (.int (x ||| y) :: S))) tg)  : Steps p.tables e below (T.setTop (mkF m pc L (.int y :: .int x :: S))) tg := XS.ior X.here hx rfl (hb hby d) rfl r
theorem o_ishl (X : Stand p l e R s m args below meth c T locs cells slots) (hx : p.tables.exec = Jvm.exec) (hby : c.code = code) {x : Int32} {y : Int32} (d : decode code pc = .ok (.ishl, 1)) (r : Steps p.tables e below (T.setTop (mkF m (pc + 1) L (.int (x <<< (y &&& 31)) :: S))) tg)  : Steps p.tables e below (T.setTop (mkF m pc L (.int y :: .int x :: S))) tg := XS.ishl X.here hx rfl (hb hby d) rfl r
theorem o_ishr (X : Stand p l e R s m args below meth c T locs cells slots) (hx : p.tables.exec = Jvm.exec) (hby : c.code = code) {x : Int32} {y : Int32} (d : decode code pc = .ok (.ishr, 1)) (r : Steps p.tables e below (T.setTop (mkF m (pc + 1) L (.int (x >>> (y &&& 31)) :: S))) tg)  : Steps p.tables e below (T.setTop (mkF m pc L (.int y :: .int x :: S))) tg := XS.ishr X.here hx rfl (hb hby d) rfl r
theorem jj (X : Stand p l e R s m args below meth c T locs cells slots) (hx : p.tables.exec = Jvm.exec) (hby : c.code = code) {k : Nat} {x : Int32} {l' : Array Slot} (d : decode code pc = .ok (.istore k, 2)) (hl : storeLocals L k (.int x) = some l') (r : Steps p.tables e below (T.setTop (mkF m (pc + 2) l' (S))) tg)  : Steps p.tables e below (T.setTop (mkF m pc L (.int x :: S))) tg := XS.istore X.here hx rfl (hb hby d) rfl hl r
theorem jF (X : Stand p l e R s m args below meth c T locs cells slots) (hx : p.tables.exec = Jvm.exec) (hby : c.code = code) {k : Fin 4} {x : Int32} {l' : Array Slot} (d : decode code pc = .ok (.istore_n k, 1)) (hl : storeLocals L k.val (.int x) = some l') (r : Steps p.tables e below (T.setTop (mkF m (pc + 1) l' (S))) tg)  : Steps p.tables e below (T.setTop (mkF m pc L (.int x :: S))) tg := XS.istoreN X.here hx rfl (hb hby d) rfl hl r
theorem jO (X : Stand p l e R s m args below meth c T locs cells slots) (hx : p.tables.exec = Jvm.exec) (hby : c.code = code) {x y : Int32} (d : decode code pc = .ok (.isub, 1)) (r : Steps p.tables e below (T.setTop (mkF m (pc + 1) L (.int (x - y) :: S))) tg)  : Steps p.tables e below (T.setTop (mkF m pc L (.int y :: .int x :: S))) tg := XS.isub X.here hx rfl (hb hby d) rfl r
theorem o_iushr (X : Stand p l e R s m args below meth c T locs cells slots) (hx : p.tables.exec = Jvm.exec) (hby : c.code = code) {x : Int32} {y : Int32} (d : decode code pc = .ok (.iushr, 1)) (r : Steps p.tables e below (T.setTop (mkF m (pc + 1) L (.int ((x.toUInt32 >>> (y &&& 31).toUInt32).toInt32) :: S))) tg)  : Steps p.tables e below (T.setTop (mkF m pc L (.int y :: .int x :: S))) tg := XS.iushr X.here hx rfl (hb hby d) rfl r
theorem jR (X : Stand p l e R s m args below meth c T locs cells slots) (hx : p.tables.exec = Jvm.exec) (hby : c.code = code) {x : Value} (d : decode code pc = .ok (.pop, 1)) (hc : x.category = 1) (r : Steps p.tables e below (T.setTop (mkF m (pc + 1) L (S))) tg)  : Steps p.tables e below (T.setTop (mkF m pc L (x :: S))) tg := XS.pop X.here hx rfl (hb hby d) rfl hc r
end Ow
section Oc
variable {p : Program} {l : Launch} {e : Env} {R : Room} {s u Z : State} {m : MethodId} {args a0 : Array Value} {below : List Frame} {meth : Method} {c : Code} {T : State} {locs : List Loc} {cells slots : Nat} {code : ByteArray} {pc : Nat} {L : Array Slot} {S : List Value} {EL : List (String × Nat)} {QQ : Option Value → Heap → List Loc → Prop} {kk nn : Nat} {own : String} {index : Nat} {y : MethodName} {bytes : ByteArray} {maxL : Nat} {ret : Option FieldType} {rm : Room} {as' : Array Value} {h : Heap} {Q' : Option Value → Heap → List Loc → Prop} {vm0 : Vm} {k0 : Nat}
theorem nfs {C : String} (hZ : Z.Warmed39 u.vm) (w : (Cond.selects C y y).before a0 Z = true) : NotFace u y := notFace_of_selects (args := #[]) (mvT hZ w)
theorem cSS (X : Stand p l e R (s.setVm vm0) m args below meth c T locs cells slots) (hx : p.tables.exec = Jvm.exec) (hS : s.Since vm0 k0) (hk : k0 ≤ h.size) (hZ : Z.Warmed39 (s.setVm vm0).vm) (hown : (s.setVm vm0).vm.findClass own = some m.cls) (w1 : (Cond.methodLink own index y).before a0 Z = true) (w2 : (Cond.static y).before a0 Z = true) (wz : (Cond.initialized y.cls).before a0 Z = true) (wc : (Cond.code y bytes maxL ret).before a0 Z = true) (hM : CtrW l Z EL y bytes maxL ret [] rm as' h Q') (hEL : EW Z a0 EL) (H : CHv Z EL vm0 h) (hby : c.code = code) (d : decode code pc = .ok (.invokestatic index, 3)) (eT : T.heap = h) {ps : List FieldType} {r : Option FieldType} (pd : parseMethodDescriptor y.desc = some ⟨ps, r⟩) {argsL rest : List Value} (W : Nat) (hsz : L.size = c.maxLocals) (q1 : as' = argsL.toArray) (q2 : argsL.length = ps.length) (q3 : S = argsL.reverse ++ rest) (q4 : (rest.map fun v => v.category).sum = W) (q5 : (y.cls ≠ "java/lang/invoke/MethodHandle" ∧ y.cls ≠ "java/lang/invoke/VarHandle") ∧ rm.frames + 1 ≤ R.frames ∧ W + (maxL + 11) + rm.locals ≤ R.locals ∧ cells + rm.cells ≤ R.cells) (q6 : slots + rm.slots ≤ R.slots)
    (K : ∀ v T' Lc, Stand p l e R (s.setVm T'.vm) m args below meth c T' (locs ++ Lc) (cells + rm.cells) (slots + rm.slots) → s.Since T'.vm T'.heap.size → Z.Warmed39 (s.setVm T'.vm).vm → (s.setVm T'.vm).vm.findClass own = some m.cls → Q' v T'.heap Lc → CHr Z EL vm0 h T'.vm T'.heap → OwnGoW p e below s Z EL QQ kk nn (T'.setTop (mkF m (pc + 3) L (v.toList ++ rest)))) : OwnGoW p e below s Z EL QQ kk nn (T.setTop (mkF m pc L S)) := by
  obtain ⟨v, _, ⟨T', L', k', n'⟩, -, Xq, hSq, gq, ⟨Lc, hQ, l', y', z', rq⟩, st⟩ := callSS X hx (y := y) hown (mvT hZ w1) (mvT hZ w2) (mvT hZ wz) (mvT hZ wc) q5.1 (backCW (W := W) hM hZ wc wz q5.2.1 q5.2.2.1 hEL H) (g := mkF m pc L S) rfl hsz (argsL := argsL) (rest := rest) (lenOf pd q2) q3 (by show 2 * 0 + _ ≤ _; rw [q4]; omega) (hb hby d) (fun _ _ => ⟨q1.symm, eT, q5.2.2.2, q6⟩)
  dsimp only [Pt.U, Pt.locs, Pt.cells, Pt.slots] at Xq hSq gq rq l' y' z' st hQ
  subst l' y' z'
  obtain ⟨X', hS', hZ', hown'⟩ := rebS hS (Nat.le_trans hk (Nat.le_of_eq (congrArg Array.size eT.symm))) Xq hSq gq hZ hown
  exact gsW (fun _ k => st.trans k) (K _ _ _ X' hS' hZ' hown' hQ rq)
theorem cIS (X : Stand p l e R (s.setVm vm0) m args below meth c T locs cells slots) (hx : p.tables.exec = Jvm.exec) (hS : s.Since vm0 k0) (hk : k0 ≤ h.size) (hZ : Z.Warmed39 (s.setVm vm0).vm) (hown : (s.setVm vm0).vm.findClass own = some m.cls) (hy1 : y.name = "<init>") (w1 : (Cond.methodLink own index y).before a0 Z = true) (w2 : (Cond.instanceMethod y).before a0 Z = true) (wz : (Cond.initialized y.cls).before a0 Z = true) (wc : (Cond.code y bytes maxL none).before a0 Z = true) (hM : CtrW l Z EL y bytes maxL none [] rm as' h Q') (hEL : EW Z a0 EL) (H : CHv Z EL vm0 h) (hby : c.code = code) (d : decode code pc = .ok (.invokespecial index, 3)) (eT : T.heap = h) {ps : List FieldType} {r : Option FieldType} (pd : parseMethodDescriptor y.desc = some ⟨ps, r⟩) {argsL rest : List Value} (W : Nat) (hsz : L.size = c.maxLocals) {a : Addr} (q1 : as' = (.ref a :: argsL).toArray) (q2 : argsL.length = ps.length) (q3 : S = argsL.reverse ++ .ref a :: rest) (q4 : (rest.map fun v => v.category).sum = W) (q5 : (y.cls ≠ "java/lang/invoke/MethodHandle" ∧ y.cls ≠ "java/lang/invoke/VarHandle") ∧ rm.frames + 1 ≤ R.frames ∧ W + (maxL + 11) + rm.locals ≤ R.locals ∧ cells + rm.cells ≤ R.cells) (q6 : slots + rm.slots ≤ R.slots)
    (K : ∀ v T' Lc, Stand p l e R (s.setVm T'.vm) m args below meth c T' (locs ++ Lc) (cells + rm.cells) (slots + rm.slots) → s.Since T'.vm T'.heap.size → Z.Warmed39 (s.setVm T'.vm).vm → (s.setVm T'.vm).vm.findClass own = some m.cls → Q' v T'.heap Lc → CHr Z EL vm0 h T'.vm T'.heap → OwnGoW p e below s Z EL QQ kk nn (T'.setTop (mkF m (pc + 3) L (v.toList ++ rest)))) : OwnGoW p e below s Z EL QQ kk nn (T.setTop (mkF m pc L S)) := by
  obtain ⟨v, _, ⟨T', L', k', n'⟩, -, Xq, hSq, gq, ⟨Lc, hQ, l', y', z', rq⟩, st⟩ := X.specialBackS hx (y := y) hy1 hown (mvT hZ w1) (mvT hZ w2) (mvT hZ wc) q5.1 (backCW (W := W) hM hZ wc wz q5.2.1 q5.2.2.1 hEL H) (g := mkF m pc L S) rfl hsz (Steps.refl _) (a := a) (argsL := argsL) (rest := rest) (lenOf pd q2) q3 (by show 2 * 0 + _ ≤ _; rw [q4]; omega) (hb hby d) (fun _ _ => ⟨q1.symm, eT, q5.2.2.2, q6⟩)
  dsimp only [Pt.U, Pt.locs, Pt.cells, Pt.slots] at Xq hSq gq rq l' y' z' st hQ
  subst l' y' z'
  obtain ⟨X', hS', hZ', hown'⟩ := rebS hS (Nat.le_trans hk (Nat.le_of_eq (congrArg Array.size eT.symm))) Xq hSq gq hZ hown
  exact gsW (fun _ k => st.trans k) (K _ _ _ X' hS' hZ' hown' hQ rq)
theorem cS (X : Stand p l e R u m args below meth c T locs cells slots) (hx : p.tables.exec = Jvm.exec) (hZ : Z.Warmed39 u.vm) (hown : u.vm.findClass own = some m.cls) (w1 : (Cond.methodLink own index y).before a0 Z = true) (w2 : (Cond.static y).before a0 Z = true) (wz : (Cond.initialized y.cls).before a0 Z = true) (wc : (Cond.code y bytes maxL ret).before a0 Z = true) (hM : Ctr l Z y bytes maxL ret [] rm as' h Q') (hby : c.code = code) (d : decode code pc = .ok (.invokestatic index, 3)) (eT : T.heap = h) {ps : List FieldType} {r : Option FieldType} (pd : parseMethodDescriptor y.desc = some ⟨ps, r⟩) {argsL rest : List Value} (W : Nat) (hsz : L.size = c.maxLocals) (q1 : as' = argsL.toArray) (q2 : argsL.length = ps.length) (q3 : S = argsL.reverse ++ rest) (q4 : (rest.map fun v => v.category).sum = W) (q5 : (y.cls ≠ "java/lang/invoke/MethodHandle" ∧ y.cls ≠ "java/lang/invoke/VarHandle") ∧ rm.frames + 1 ≤ R.frames ∧ W + (maxL + 11) + rm.locals ≤ R.locals ∧ cells + rm.cells ≤ R.cells) (q6 : slots + rm.slots ≤ R.slots)
    (K : ∀ v T' Lc, Stand p l e R u m args below meth c T' (locs ++ Lc) (cells + rm.cells) (slots + rm.slots) → Q' v T'.heap Lc → OwnGo p e below s QQ kk nn (T'.setTop (mkF m (pc + 3) L (v.toList ++ rest)))) : OwnGo p e below s QQ kk nn (T.setTop (mkF m pc L S)) := by
  obtain ⟨v, _, ⟨T', L', k', n'⟩, -, X', ⟨Lc, hQ, l', y', z'⟩, st⟩ := Jvm.LawKit.callS X hx (y := y) hown (mvT hZ w1) (mvT hZ w2) (mvT hZ wz) (mvT hZ wc) q5.1 (backC (W := W) hM hZ wc wz q5.2.1 q5.2.2.1) (g := mkF m pc L S) rfl hsz (argsL := argsL) (rest := rest) (lenOf pd q2) q3 (by show 2 * 0 + _ ≤ _; rw [q4]; omega) (hb hby d) (fun _ _ => ⟨q1.symm, eT, q5.2.2.2, q6⟩)
  dsimp only [Pt.U, Pt.locs, Pt.cells, Pt.slots] at X' l' y' z' st hQ
  subst l' y' z'
  exact gs st (K _ _ _ X' hQ)
theorem cI (X : Stand p l e R u m args below meth c T locs cells slots) (hx : p.tables.exec = Jvm.exec) (hZ : Z.Warmed39 u.vm) (hown : u.vm.findClass own = some m.cls) (hy1 : y.name = "<init>") (w1 : (Cond.methodLink own index y).before a0 Z = true) (w2 : (Cond.instanceMethod y).before a0 Z = true) (wz : (Cond.initialized y.cls).before a0 Z = true) (wc : (Cond.code y bytes maxL none).before a0 Z = true) (hM : Ctr l Z y bytes maxL none [] rm as' h Q') (hby : c.code = code) (d : decode code pc = .ok (.invokespecial index, 3)) (eT : T.heap = h) {ps : List FieldType} {r : Option FieldType} (pd : parseMethodDescriptor y.desc = some ⟨ps, r⟩) {argsL rest : List Value} (W : Nat) (hsz : L.size = c.maxLocals) {a : Addr} (q1 : as' = (.ref a :: argsL).toArray) (q2 : argsL.length = ps.length) (q3 : S = argsL.reverse ++ .ref a :: rest) (q4 : (rest.map fun v => v.category).sum = W) (q5 : (y.cls ≠ "java/lang/invoke/MethodHandle" ∧ y.cls ≠ "java/lang/invoke/VarHandle") ∧ rm.frames + 1 ≤ R.frames ∧ W + (maxL + 11) + rm.locals ≤ R.locals ∧ cells + rm.cells ≤ R.cells) (q6 : slots + rm.slots ≤ R.slots)
    (K : ∀ v T' Lc, Stand p l e R u m args below meth c T' (locs ++ Lc) (cells + rm.cells) (slots + rm.slots) → Q' v T'.heap Lc → OwnGo p e below s QQ kk nn (T'.setTop (mkF m (pc + 3) L (v.toList ++ rest)))) : OwnGo p e below s QQ kk nn (T.setTop (mkF m pc L S)) := by
  obtain ⟨v, _, ⟨T', L', k', n'⟩, -, X', ⟨Lc, hQ, l', y', z'⟩, st⟩ := X.specialBack hx (y := y) hy1 hown (mvT hZ w1) (mvT hZ w2) (mvT hZ wc) q5.1 (backC (W := W) hM hZ wc wz q5.2.1 q5.2.2.1) (g := mkF m pc L S) rfl hsz (Steps.refl _) (a := a) (argsL := argsL) (rest := rest) (lenOf pd q2) q3 (by show 2 * 0 + _ ≤ _; rw [q4]; omega) (hb hby d) (fun _ _ => ⟨q1.symm, eT, q5.2.2.2, q6⟩)
  dsimp only [Pt.U, Pt.locs, Pt.cells, Pt.slots] at X' l' y' z' st hQ
  subst l' y' z'
  exact gs (fun _ k => st.trans k) (K _ _ _ X' hQ)
theorem cV (X : Stand p l e R u m args below meth c T locs cells slots) (hx : p.tables.exec = Jvm.exec) (hZ : Z.Warmed39 u.vm) (hown : u.vm.findClass own = some m.cls) {y' : MethodName} {C : String} (w1 : (Cond.methodLink own index y').before a0 Z = true) (w2 : (Cond.declares y').before a0 Z = true) (hnf : NotFace u y') (ws : (Cond.selects C y' y).before a0 Z = true) (wi : (Cond.instanceMethod y).before a0 Z = true) (wz : (Cond.initialized y.cls).before a0 Z = true) (wc : (Cond.code y bytes maxL ret).before a0 Z = true) (hM : Ctr l Z y bytes maxL ret [] rm as' h Q') (hby : c.code = code) (d : decode code pc = .ok (.invokevirtual index, 3)) (eT : T.heap = h) {ps : List FieldType} {r : Option FieldType} (pd : parseMethodDescriptor y'.desc = some ⟨ps, r⟩) {argsL rest : List Value} (W : Nat) (hsz : L.size = c.maxLocals) {a : Addr} (E : Exa Z h a C) (q1 : as' = (.ref a :: argsL).toArray) (q2 : argsL.length = ps.length) (q3 : S = argsL.reverse ++ .ref a :: rest) (q4 : (rest.map fun v => v.category).sum = W) (q5 : (y'.cls ≠ "java/lang/invoke/MethodHandle" ∧ y'.cls ≠ "java/lang/invoke/VarHandle") ∧ rm.frames + 1 ≤ R.frames ∧ W + (maxL + 11) + rm.locals ≤ R.locals ∧ cells + rm.cells ≤ R.cells) (q6 : slots + rm.slots ≤ R.slots)
    (K : ∀ v T' Lc, Stand p l e R u m args below meth c T' (locs ++ Lc) (cells + rm.cells) (slots + rm.slots) → Q' v T'.heap Lc → OwnGo p e below s QQ kk nn (T'.setTop (mkF m (pc + 3) L (v.toList ++ rest)))) : OwnGo p e below s QQ kk nn (T.setTop (mkF m pc L S)) := by
  obtain ⟨cq, kq, qa, qb, qc⟩ := isOf hZ eT E
  obtain ⟨v, _, ⟨T', L', k', n'⟩, -, X', ⟨Lc, hQ, l', y', z'⟩, st⟩ := X.virtualBack hx (y := y') (z := y) hown (mvT hZ w1) (mvT hZ w2) hnf (mvT hZ ws) (mvT hZ wi) q5.1 (backC (W := W) hM hZ wc wz q5.2.1 q5.2.2.1) qa qc (g := mkF m pc L S) rfl hsz (Steps.refl _) (argsL := argsL) (rest := rest) (lenOf pd q2) q3 (by show 2 * 0 + _ ≤ _; rw [q4]; omega) (hb hby d) (fun _ _ => ⟨q1.symm, eT, q5.2.2.2, q6⟩)
  dsimp only [Pt.U, Pt.locs, Pt.cells, Pt.slots] at X' l' y' z' st hQ
  subst l' y' z'
  exact gs (fun _ k => st.trans k) (K _ _ _ X' hQ)
theorem gF (X : Stand p l e R u m args below meth c T locs cells slots) (hx : p.tables.exec = Jvm.exec) (hZ : Z.Warmed39 u.vm) (hown : u.vm.findClass own = some m.cls) {R0 O n d' host : String} (w : (Cond.fieldLink own index R0 n d').before a0 Z = true ∨ (Cond.fieldLinkNest own index R0 n d' host).before a0 Z = true) (via : Via Z R0 O n d') (eT : T.heap = h) {a : Addr} {v : Value} (F : Fld Z h a O n d' v) (hby : c.code = code) (d : decode code pc = .ok (.getfield index, 3)) (K : ∀ T', Stand p l e R u m args below meth c T' locs cells slots → T'.heap = h → OwnGo p e below s QQ kk nn (T'.setTop (mkF m (pc + 3) L (v :: S)))) : OwnGo p e below s QQ kk nn (T.setTop (mkF m pc L (.ref a :: S))) := by
  obtain ⟨T', X', e', st⟩ := getF X hx hZ hown w via eT F (g := mkF m pc L (.ref a :: S)) rfl rfl (hb hby d)
  exact gs st (K _ X' e')
theorem gS (X : Stand p l e R u m args below meth c T locs cells slots) (hx : p.tables.exec = Jvm.exec) (hZ : Z.Warmed39 u.vm) (hown : u.vm.findClass own = some m.cls) {R0 O n d' host : String} (w : (Cond.fieldLink own index R0 n d').before a0 Z = true ∨ (Cond.fieldLinkNest own index R0 n d' host).before a0 Z = true) (via : Via Z R0 O n d') (eT : T.heap = h) {v : Value} (F : Sta Z h O n d' v) (hby : c.code = code) (d : decode code pc = .ok (.getstatic index, 3)) (K : ∀ T', Stand p l e R u m args below meth c T' locs cells slots → T'.heap = h → OwnGo p e below s QQ kk nn (T'.setTop (mkF m (pc + 3) L (v :: S)))) : OwnGo p e below s QQ kk nn (T.setTop (mkF m pc L S)) := by
  obtain ⟨T', X', e', st⟩ := getS2 X hx hZ hown w via eT F (g := mkF m pc L S) rfl (hb hby d)
  exact gs st (K _ X' e')
theorem cP (X : Stand p l e R u m args below meth c T locs cells slots) (hx : p.tables.exec = Jvm.exec) (hZ : Z.Warmed39 u.vm) (hown : u.vm.findClass own = some m.cls) (w1 : (Cond.methodLink own index y).before a0 Z = true) (w2 : (Cond.sameMethod y.cls y.cls y.name y.desc).before a0 Z = true) (w3 : (Cond.instanceMethod y).before a0 Z = true) (w4 : (Cond.superclass own y.cls).before a0 Z = true) (wz : (Cond.initialized y.cls).before a0 Z = true) (wc : (Cond.code y bytes maxL ret).before a0 Z = true) (hM : Ctr l Z y bytes maxL ret [] rm as' h Q') (hby : c.code = code) (d : decode code pc = .ok (.invokespecial index, 3)) (eT : T.heap = h) {ps : List FieldType} {r : Option FieldType} (pd : parseMethodDescriptor y.desc = some ⟨ps, r⟩) {argsL rest : List Value} (W : Nat) (hsz : L.size = c.maxLocals) {a : Addr} {C : String} (E : Exa Z h a C) (q1 : as' = (.ref a :: argsL).toArray) (q2 : argsL.length = ps.length) (q3 : S = argsL.reverse ++ .ref a :: rest) (q4 : (rest.map fun v => v.category).sum = W) (q5 : y.name ≠ "<init>" ∧ rm.frames + 1 ≤ R.frames ∧ W + (maxL + 11) + rm.locals ≤ R.locals ∧ cells + rm.cells ≤ R.cells) (q6 : slots + rm.slots ≤ R.slots)
    (K : ∀ v T' Lc, Stand p l e R u m args below meth c T' (locs ++ Lc) (cells + rm.cells) (slots + rm.slots) → Q' v T'.heap Lc → OwnGo p e below s QQ kk nn (T'.setTop (mkF m (pc + 3) L (v.toList ++ rest)))) : OwnGo p e below s QQ kk nn (T.setTop (mkF m pc L S)) := by
  obtain ⟨v, _, ⟨T', L', k', n'⟩, -, X', ⟨Lc, hQ, l', y', z'⟩, st⟩ := superBack X hx hZ (y := y) hown w1 w2 w3 w4 q5.1 (backC (W := W) hM hZ wc wz q5.2.1 q5.2.2.1) eT (Ins.self E) (g := mkF m pc L S) rfl hsz wc (argsL := argsL) (rest := rest) (lenOf pd q2) q3 (by show 2 * 0 + _ ≤ _; rw [q4]; omega) (hb hby d) (fun _ _ => ⟨q1.symm, eT, q5.2.2.2, q6⟩)
  dsimp only [Pt.U, Pt.locs, Pt.cells, Pt.slots] at X' l' y' z' st hQ
  subst l' y' z'
  exact gs (fun _ k => st.trans k) (K _ _ _ X' hQ)
theorem cSW (X : Stand p l e R u m args below meth c T locs cells slots) (hx : p.tables.exec = Jvm.exec) (hZ : Z.Warmed39 u.vm) (hown : u.vm.findClass own = some m.cls) (w1 : (Cond.methodLink own index y).before a0 Z = true) (w2 : (Cond.static y).before a0 Z = true) (wz : (Cond.initialized y.cls).before a0 Z = true) (wc : (Cond.code y bytes maxL ret).before a0 Z = true) (hM : Ctr l Z y bytes maxL ret [] rm as' h Q') (hby : c.code = code) (d : decode code pc = .ok (.invokestatic index, 3)) (eT : T.heap = h) {ps : List FieldType} {r : Option FieldType} (pd : parseMethodDescriptor y.desc = some ⟨ps, r⟩) {argsL rest : List Value} (W : Nat) (hsz : L.size = c.maxLocals) (q1 : as' = argsL.toArray) (q2 : argsL.length = ps.length) (q3 : S = argsL.reverse ++ rest) (q4 : (rest.map fun v => v.category).sum = W) (q5 : (y.cls ≠ "java/lang/invoke/MethodHandle" ∧ y.cls ≠ "java/lang/invoke/VarHandle") ∧ rm.frames + 1 ≤ R.frames ∧ W + (maxL + 11) + rm.locals ≤ R.locals ∧ cells + rm.cells ≤ R.cells) (q6 : slots + rm.slots ≤ R.slots)
    (K : ∀ v T' Lc, Stand p l e R u m args below meth c T' (locs ++ Lc) (cells + rm.cells) (slots + rm.slots) → Q' v T'.heap Lc → OwnGoW p e below s Z EL QQ kk nn (T'.setTop (mkF m (pc + 3) L (v.toList ++ rest)))) : OwnGoW p e below s Z EL QQ kk nn (T.setTop (mkF m pc L S)) := by
  obtain ⟨v, _, ⟨T', L', k', n'⟩, -, X', ⟨Lc, hQ, l', y', z'⟩, st⟩ := Jvm.LawKit.callS X hx (y := y) hown (mvT hZ w1) (mvT hZ w2) (mvT hZ wz) (mvT hZ wc) q5.1 (backC (W := W) hM hZ wc wz q5.2.1 q5.2.2.1) (g := mkF m pc L S) rfl hsz (argsL := argsL) (rest := rest) (lenOf pd q2) q3 (by show 2 * 0 + _ ≤ _; rw [q4]; omega) (hb hby d) (fun _ _ => ⟨q1.symm, eT, q5.2.2.2, q6⟩)
  dsimp only [Pt.U, Pt.locs, Pt.cells, Pt.slots] at X' l' y' z' st hQ
  subst l' y' z'
  exact gsW st (K _ _ _ X' hQ)
theorem cIW (X : Stand p l e R u m args below meth c T locs cells slots) (hx : p.tables.exec = Jvm.exec) (hZ : Z.Warmed39 u.vm) (hown : u.vm.findClass own = some m.cls) (hy1 : y.name = "<init>") (w1 : (Cond.methodLink own index y).before a0 Z = true) (w2 : (Cond.instanceMethod y).before a0 Z = true) (wz : (Cond.initialized y.cls).before a0 Z = true) (wc : (Cond.code y bytes maxL none).before a0 Z = true) (hM : Ctr l Z y bytes maxL none [] rm as' h Q') (hby : c.code = code) (d : decode code pc = .ok (.invokespecial index, 3)) (eT : T.heap = h) {ps : List FieldType} {r : Option FieldType} (pd : parseMethodDescriptor y.desc = some ⟨ps, r⟩) {argsL rest : List Value} (W : Nat) (hsz : L.size = c.maxLocals) {a : Addr} (q1 : as' = (.ref a :: argsL).toArray) (q2 : argsL.length = ps.length) (q3 : S = argsL.reverse ++ .ref a :: rest) (q4 : (rest.map fun v => v.category).sum = W) (q5 : (y.cls ≠ "java/lang/invoke/MethodHandle" ∧ y.cls ≠ "java/lang/invoke/VarHandle") ∧ rm.frames + 1 ≤ R.frames ∧ W + (maxL + 11) + rm.locals ≤ R.locals ∧ cells + rm.cells ≤ R.cells) (q6 : slots + rm.slots ≤ R.slots)
    (K : ∀ v T' Lc, Stand p l e R u m args below meth c T' (locs ++ Lc) (cells + rm.cells) (slots + rm.slots) → Q' v T'.heap Lc → OwnGoW p e below s Z EL QQ kk nn (T'.setTop (mkF m (pc + 3) L (v.toList ++ rest)))) : OwnGoW p e below s Z EL QQ kk nn (T.setTop (mkF m pc L S)) := by
  obtain ⟨v, _, ⟨T', L', k', n'⟩, -, X', ⟨Lc, hQ, l', y', z'⟩, st⟩ := X.specialBack hx (y := y) hy1 hown (mvT hZ w1) (mvT hZ w2) (mvT hZ wc) q5.1 (backC (W := W) hM hZ wc wz q5.2.1 q5.2.2.1) (g := mkF m pc L S) rfl hsz (Steps.refl _) (a := a) (argsL := argsL) (rest := rest) (lenOf pd q2) q3 (by show 2 * 0 + _ ≤ _; rw [q4]; omega) (hb hby d) (fun _ _ => ⟨q1.symm, eT, q5.2.2.2, q6⟩)
  dsimp only [Pt.U, Pt.locs, Pt.cells, Pt.slots] at X' l' y' z' st hQ
  subst l' y' z'
  exact gsW (fun _ k => st.trans k) (K _ _ _ X' hQ)
theorem cVW (X : Stand p l e R u m args below meth c T locs cells slots) (hx : p.tables.exec = Jvm.exec) (hZ : Z.Warmed39 u.vm) (hown : u.vm.findClass own = some m.cls) {y' : MethodName} {C : String} (w1 : (Cond.methodLink own index y').before a0 Z = true) (w2 : (Cond.declares y').before a0 Z = true) (hnf : NotFace u y') (ws : (Cond.selects C y' y).before a0 Z = true) (wi : (Cond.instanceMethod y).before a0 Z = true) (wz : (Cond.initialized y.cls).before a0 Z = true) (wc : (Cond.code y bytes maxL ret).before a0 Z = true) (hM : Ctr l Z y bytes maxL ret [] rm as' h Q') (hby : c.code = code) (d : decode code pc = .ok (.invokevirtual index, 3)) (eT : T.heap = h) {ps : List FieldType} {r : Option FieldType} (pd : parseMethodDescriptor y'.desc = some ⟨ps, r⟩) {argsL rest : List Value} (W : Nat) (hsz : L.size = c.maxLocals) {a : Addr} (E : Exa Z h a C) (q1 : as' = (.ref a :: argsL).toArray) (q2 : argsL.length = ps.length) (q3 : S = argsL.reverse ++ .ref a :: rest) (q4 : (rest.map fun v => v.category).sum = W) (q5 : (y'.cls ≠ "java/lang/invoke/MethodHandle" ∧ y'.cls ≠ "java/lang/invoke/VarHandle") ∧ rm.frames + 1 ≤ R.frames ∧ W + (maxL + 11) + rm.locals ≤ R.locals ∧ cells + rm.cells ≤ R.cells) (q6 : slots + rm.slots ≤ R.slots)
    (K : ∀ v T' Lc, Stand p l e R u m args below meth c T' (locs ++ Lc) (cells + rm.cells) (slots + rm.slots) → Q' v T'.heap Lc → OwnGoW p e below s Z EL QQ kk nn (T'.setTop (mkF m (pc + 3) L (v.toList ++ rest)))) : OwnGoW p e below s Z EL QQ kk nn (T.setTop (mkF m pc L S)) := by
  obtain ⟨cq, kq, qa, qb, qc⟩ := isOf hZ eT E
  obtain ⟨v, _, ⟨T', L', k', n'⟩, -, X', ⟨Lc, hQ, l', y', z'⟩, st⟩ := X.virtualBack hx (y := y') (z := y) hown (mvT hZ w1) (mvT hZ w2) hnf (mvT hZ ws) (mvT hZ wi) q5.1 (backC (W := W) hM hZ wc wz q5.2.1 q5.2.2.1) qa qc (g := mkF m pc L S) rfl hsz (Steps.refl _) (argsL := argsL) (rest := rest) (lenOf pd q2) q3 (by show 2 * 0 + _ ≤ _; rw [q4]; omega) (hb hby d) (fun _ _ => ⟨q1.symm, eT, q5.2.2.2, q6⟩)
  dsimp only [Pt.U, Pt.locs, Pt.cells, Pt.slots] at X' l' y' z' st hQ
  subst l' y' z'
  exact gsW (fun _ k => st.trans k) (K _ _ _ X' hQ)
theorem gFW (X : Stand p l e R u m args below meth c T locs cells slots) (hx : p.tables.exec = Jvm.exec) (hZ : Z.Warmed39 u.vm) (hown : u.vm.findClass own = some m.cls) {R0 O n d' host : String} (w : (Cond.fieldLink own index R0 n d').before a0 Z = true ∨ (Cond.fieldLinkNest own index R0 n d' host).before a0 Z = true) (via : Via Z R0 O n d') (eT : T.heap = h) {a : Addr} {v : Value} (F : Fld Z h a O n d' v) (hby : c.code = code) (d : decode code pc = .ok (.getfield index, 3)) (K : ∀ T', Stand p l e R u m args below meth c T' locs cells slots → T'.heap = h → OwnGoW p e below s Z EL QQ kk nn (T'.setTop (mkF m (pc + 3) L (v :: S)))) : OwnGoW p e below s Z EL QQ kk nn (T.setTop (mkF m pc L (.ref a :: S))) := by
  obtain ⟨T', X', e', st⟩ := getF X hx hZ hown w via eT F (g := mkF m pc L (.ref a :: S)) rfl rfl (hb hby d)
  exact gsW st (K _ X' e')
end Oc
abbrev my0 : MethodName := ⟨"java/lang/String", "<init>", "([CIILjava/lang/Void;)V"⟩
abbrev my1 : MethodName := ⟨"java/lang/StringUTF16", "compress", "([CI[BII)I"⟩
abbrev my2 : MethodName := ⟨"java/lang/StringUTF16", "compress", "([CII)[B"⟩
abbrev my3 : MethodName := ⟨"java/lang/StringUTF16", "coderFromArrayLen", "([BI)B"⟩
abbrev my4 : MethodName := ⟨"java/lang/String", "<init>", "([C)V"⟩
abbrev my5 : MethodName := ⟨"java/lang/Math", "min", "(II)I"⟩
abbrev my6 : MethodName := ⟨"java/lang/StringUTF16", "toBytes", "([CII)[B"⟩
abbrev my7 : MethodName := ⟨"java/lang/Math", "max", "(II)I"⟩
abbrev my8 : MethodName := ⟨"java/lang/AbstractStringBuilder", "ensureCapacityInternal", "(I)V"⟩
abbrev my9 : MethodName := ⟨"java/lang/AbstractStringBuilder", "isLatin1", "()Z"⟩
abbrev my10 : MethodName := ⟨"java/lang/StringLatin1", "canEncode", "(C)Z"⟩
abbrev my11 : MethodName := ⟨"java/lang/AbstractStringBuilder", "inflate", "()V"⟩
abbrev my12 : MethodName := ⟨"java/lang/String", "coder", "()B"⟩
abbrev my13 : MethodName := ⟨"java/lang/String", "isLatin1", "()Z"⟩
abbrev my14 : MethodName := ⟨"java/lang/AbstractStringBuilder", "inflateIfNeededFor", "(Ljava/lang/String;)V"⟩
abbrev my15 : MethodName := ⟨"java/lang/String", "getBytes", "([BIB)V"⟩
abbrev my16 : MethodName := ⟨"java/lang/String", "<init>", "([BB)V"⟩
abbrev HW (Z : State) (a0 : Array Value) : Prop := ∀ d ∈ tables_1, d.before a0 Z = true
abbrev PS0 (Z : State) (q : Value) : Prop := Sta Z Z.heap "java/lang/StringUTF16" "$assertionsDisabled" "Z" q
abbrev PS1 (Z : State) (q : Value) : Prop := Sta Z Z.heap "java/lang/StringUTF16" "HI_BYTE_SHIFT" "I" q
abbrev PS2 (Z : State) (q : Value) : Prop := Sta Z Z.heap "java/lang/StringUTF16" "LO_BYTE_SHIFT" "I" q
abbrev PS3 (Z : State) (q : Value) : Prop := Sta Z Z.heap "java/lang/String" "COMPACT_STRINGS" "Z" q
abbrev PS4 (Z : State) (q : Value) : Prop := Sta Z Z.heap "jdk/internal/util/Preconditions" "SIOOBE_FORMATTER" "Ljava/util/function/BiFunction;" q
theorem jK {a b : Nat} (h : a = b) : a ≤ b := Nat.le_of_eq h
abbrev uu : Slot := .unset
theorem nt {a b c : Nat} (h : a ≤ b) (k : b ≤ c) : a ≤ c := Nat.le_trans h k
theorem nu {a b c : Nat} (h : a < b) (k : b ≤ c) : a < c := Nat.lt_of_lt_of_le h k
theorem nw {a b : Nat} (h : a < b) : a ≠ b := Nat.ne_of_lt h
theorem nb {a b : Nat} (h : Nat.ble a b = true) : a ≤ b := Nat.le_of_ble_eq_true h
theorem ow {Z : State} {a0 : Array Value} (hw : HW Z a0) (i : Nat) {d : Jvm.Cond} (q : tables_1[i]? = some d) : d.before a0 Z = true := hw d (List.mem_of_getElem? q)
def jg : List (String × Nat) := [("com/example/lushan/lushan/console/Page", 60), ("com/example/lushan/lushan/console/Page", 66), ("com/example/lushan/lushan/console/Page", 68), ("com/example/lushan/lushan/console/Page", 70), ("com/example/lushan/lushan/console/Page", 72), ("com/example/lushan/lushan/console/PageEscapePinLaw", 22), ("com/example/lushan/lushan/console/PageEscapePinLaw", 38), ("com/example/lushan/lushan/console/PageEscapePinLaw", 40), ("com/example/lushan/lushan/console/PageEscapePinLaw", 42), ("com/example/lushan/lushan/console/PageEscapePinLaw", 44), ("com/example/lushan/lushan/console/PageEscapePinLaw", 46), ("java/lang/String", 7)]
theorem jp {Z : State} {a0 : Array Value} (hw : HW Z a0) : EW Z a0 jg := (EW.cons (ow hw 95 rfl) (by decide) (EW.cons (ow hw 243 rfl) (by decide) (EW.cons (ow hw 303 rfl) (by decide) (EW.cons (ow hw 210 rfl) (by decide) (EW.cons (ow hw 209 rfl) (by decide) (EW.cons (ow hw 40 rfl) (by decide) (EW.cons (ow hw 37 rfl) (by decide) (EW.cons (ow hw 242 rfl) (by decide) (EW.cons (ow hw 302 rfl) (by decide) (EW.cons (ow hw 208 rfl) (by decide) (EW.cons (ow hw 207 rfl) (by decide) (EW.cons (ow hw 241 rfl) (by decide) EW.nil))))))))))))
theorem jD {Z : State} {a0 : Array Value} (hw : HW Z a0) : ∀ a ∈ Bundle.stringAtoms, a.before a0 Z = true := fun d hd => hw d ((by decide +kernel : ∀ d ∈ Bundle.stringAtoms, d ∈ tables_1) d hd)
theorem own_narb (x : Int32) : nar .byte (x.toInt8.toInt32) = x.toInt8.toInt32 := by
  show (x.toInt8.toInt32).toInt8.toInt32 = _
  simp
/-- a String at a spells cs (each 0 to 255) -/
def Str (Z : State) (h : Heap) (a : Addr) (cs : List Int32) : Prop := ∃ (t : Addr) (kb : ClassId), Exa Z h a "java/lang/String" ∧ Fld Z h a "java/lang/String" "coder" "B" (.int 0) ∧ Fld Z h a "java/lang/String" "value" "[B" (.ref t) ∧ Arv Z h t kb .byte (oI cs.length) ((cs.map (fun c => c.toInt8.toInt32)).map Value.int) (.int 0)
theorem Str.exa {Z : State} {h : Heap} {a : Addr} {cs : List Int32} (F : Str Z h a cs) : Exa Z h a "java/lang/String" := by obtain ⟨t, kb, E, -⟩ := F; exact E
theorem Str.lt {Z : State} {h : Heap} {a : Addr} {cs : List Int32} (F : Str Z h a cs) : a < h.size := F.exa.lt
theorem Str.ext {Z : State} {h h' : Heap} {a : Addr} {cs : List Int32} (F : Str Z h a cs) (E : Ext h h') : Str Z h' a cs := by obtain ⟨t, kb, x, c, v, k⟩ := F; exact ⟨t, kb, x.ext E, c.ext E, v.ext E, k.ext E⟩
theorem Str.keep0 {Z : State} {h h' : Heap} {a : Addr} {cs : List Int32} (F : Str Z h a cs) (K : Keep h h' []) : Str Z h' a cs := by obtain ⟨t, kb, x, c, v, k⟩ := F; exact ⟨t, kb, x.keep K, c.keep K nin0, v.keep K nin0, k.keep K nin0⟩
abbrev jC (cs : List Int32) : List Value := (cs.map (fun c => c.toInt8.toInt32)).map Value.int
theorem own_bvl (cs : List Int32) : (jC cs).length = cs.length := by simp [jC]
theorem own_bva (ds cs : List Int32) : jC (ds ++ cs) = jC ds ++ jC cs := by simp [jC]
theorem jQ {k : Nat} (h : k < 2 ^ 31) : (oI k).toNatClampNeg = k := Int32.toNatClampNeg_ofNat_of_lt h
theorem js {k : Nat} (h : k < 2 ^ 31) : ¬ oI k < 0 := fun q => Int32.ofNat_not_neg h q
theorem jH {a0 : Array Value} {Z : State} {y : MethodName} {bytes : ByteArray} {maxL : Nat} {ret : Option FieldType} (h : (Cond.instanceMethod y).before a0 Z = true) (hc : (Cond.code y bytes maxL ret).before a0 Z = true) : (Cond.declares y).before a0 Z = true := by
  obtain ⟨mk, methM, hnamed, hmethM, hst, -⟩ := Cond.instanceMethod_spec h
  obtain ⟨m', cM, hm', -, -, -, -, -, -, hsig⟩ := Cond.code_spec hnamed hc
  cases hmethM.symm.trans hm'
  simp [Cond.before, Cond.holds, Cond.value, hnamed, hmethM, hst, hsig]
theorem own_same {a0 : Array Value} {Z : State} {C : String} {y0 y : MethodName} (hs : (Cond.selects C y0 y0).before a0 Z = true) (hi : (Cond.instanceMethod y).before a0 Z = true) (hy : y.cls ≠ "java/lang/invoke/MethodHandle" ∧ y.cls ≠ "java/lang/invoke/VarHandle") (e : y0.cls = y.cls) : (Cond.sameMethod y.cls y.cls y.name y.desc).before a0 Z = true := by
  obtain ⟨mk, methM, hnamed, -, -, -⟩ := Cond.instanceMethod_spec hi
  obtain ⟨c2, r2, m2, -, -, q3, -, kP, hkP, hkPi⟩ := Cond.selects_spec hs
  have f1 := findClass_of_methodNamed hnamed
  have f2 := findClass_of_methodNamed q3
  rw [e, f1] at f2
  have e2 : mk.cls = m2.cls := Option.some.inj f2
  have hf := State.methodFound?_of_named hnamed hy
  have hn' : Z.methodNamed? ⟨y.cls, y.name, y.desc⟩ = some mk := hnamed
  rw [← e2] at hkP
  simp [Cond.before, Cond.holds, Cond.value, f1, hf, hn', hkP, hkPi]
theorem own_nf {a0 : Array Value} {s : State} {C : String} {y0 y : MethodName} (hs : (Cond.selects C y0 y0).before a0 s = true) (e : y0.cls = y.cls) : NotFace s y := fun r0 h0 => by
  obtain ⟨c2, r2, m2, -, -, q3, -, kP, hkP, hkPi⟩ := Cond.selects_spec hs
  have f1 := findClass_of_methodNamed h0
  have f2 := findClass_of_methodNamed q3
  rw [e, f1] at f2
  have e2 : r0.cls = m2.cls := Option.some.inj f2
  rw [← e2] at hkP
  exact ⟨kP, hkP, hkPi⟩
theorem own_shr0 (x : Int32) : (x >>> ((0 : Int32) &&& 31)) = x := by
  have s0 := c_ishr x 0 0 (by decide)
  rw [← Int32.toInt_inj]; omega
theorem own_shl0 (x : Int32) : (x <<< ((0 : Int32) &&& 31)) = x := by
  have l0 := c_ishl x 0 0 (by decide)
  have r0 := rng32 x
  have r1 := rng32 (x <<< ((0 : Int32) &&& 31))
  rw [← Int32.toInt_inj]; omega
theorem own_add32 (a b : Nat) : (oI a + oI b : Int32) = oI (a + b) := by rw [Int32.ofNat_add]
theorem own_pf1 : plainFor my7 = true := by decide +kernel
theorem own_pf2 : plainFor my5 = true := by decide +kernel
theorem own_sub0 (x : Int32) : x - (0 : Int32) = x := by rw [← Int32.toInt_inj]; simp
theorem own_lenapp (cs ds : List Int32) : oI cs.length + oI ds.length = oI (cs ++ ds).length := by rw [List.length_append, Int32.ofNat_add]
def jz (N K : Nat) : Nat := N + max (K - N) (N + 2)
theorem ju {k : Nat} (h : k ≤ 100000000) : (oI k).toInt = k := Int32.toInt_ofNat_small (by omega)
theorem own_e1 (N : Nat) : (oI N + (1 : Int32)) = oI (N + 1) := own_add32 N 1
theorem own_cl {p : Program} {l : Launch} {e : Env} {R : Room} {s : State} {m : MethodId} {args : Array Value} {below : List Frame} {meth : Method} {c : Code} {T : State} {locs : List Loc} {cells slots : Nat} {Z : State} {h : Heap}
    (X : Stand p l e R s m args below meth c T locs cells slots) (hx : p.tables.exec = Jvm.exec) (hZ : Z.Warmed39 s.vm) {a0 : Array Value} {own ad : String} {index : Nat} (hown : s.vm.findClass own = some m.cls)
    (w1 : (Cond.methodLink own index ⟨ad, "clone", "()Ljava/lang/Object;"⟩).before a0 Z = true) (w2 : (Cond.sameMethod ad "java/lang/Object" "clone" "()Ljava/lang/Object;").before a0 Z = true) (w3 : (Cond.native ⟨"java/lang/Object", "clone", "()Ljava/lang/Object;"⟩).before a0 Z = true)
    (w4 : (Cond.instanceMethod ⟨"java/lang/Object", "clone", "()Ljava/lang/Object;"⟩).before a0 Z = true) (w5 : (Cond.selects ad ⟨ad, "clone", "()Ljava/lang/Object;"⟩ ⟨"java/lang/Object", "clone", "()Ljava/lang/Object;"⟩).before a0 Z = true) (w6 : (Cond.castable ad "java/lang/Cloneable").before a0 Z = true)
    (eT : T.heap = h) {a : Addr} {k : ClassId} {ty : FieldType} {z : Int32} {vs : List Value} {dv : Value} (F : Arv Z h a k ty z vs dv) (E : Exa Z h a ad) {g : JFrame} (hg : g.method = m) (hsize : g.locals.size = c.maxLocals) {rest : List Value} (hst : g.stack = .ref a :: rest) (hd : decode c.code g.pc = .ok (.invokevirtual index, 3))
    (hf : 1 ≤ R.frames) {W cap : Nat} (hW : 2 * g.monitorRoom + (rest.map fun v => v.category).sum ≤ W) (hl : W + 14 ≤ R.locals) (hcap : z.toNatClampNeg ≤ cap) (hc : cells + 1 ≤ R.cells) (hsl : slots + cap ≤ R.slots) :
    ∃ T' h', Stand p l e R s m args below meth c T' locs (cells + 1) (slots + cap) ∧ T'.heap = h' ∧ Ext h h' ∧ Arv Z h' h.size k ty z vs dv ∧ Exa Z h' h.size ad ∧
      ∀ target, Steps p.tables e below (T'.setTop { g with pc := g.pc + 3, stack := .ref h.size :: rest }) target → Steps p.tables e below (T.setTop g) target := by
  obtain ⟨cl, A, q1, S, q3, H, G⟩ := F
  have FC : FitC Z cl := fitC_of A fun i hi v hv => by rw [H i hi] at hv; cases hv; exact G i hi
  obtain ⟨T', h', X', e', ex, A', E', st⟩ := cloneA X hx hZ hown w1 w2 w3 w4 w5 w6 eT A E FC hg hsize hst hd hf hW hl (by rw [S]; exact hcap) hc hsl
  exact ⟨T', h', X', e', ex, ⟨cloneOf cl, A', q1, S, q3, H, G⟩, E', st⟩
theorem own_pad1 (cs : List Int32) : ∀ i, (jC cs ++ [Value.int 0]).getD i (.int 0) = (jC cs).getD i (.int 0) := pad_rep (jC cs) (.int 0) 1
theorem own_setlast (cs : List Int32) (cc : Int32) : (jC cs ++ [Value.int 0]).set cs.length (.int (cc.toInt8.toInt32)) = jC (cs ++ [cc]) := by
  rw [List.set_append_right _ _ (by rw [own_bvl]; exact Nat.le_refl _), own_bvl, Nat.sub_self, own_bva]; rfl
theorem jM {a b : Nat} (hb : b ≤ 100000000) (h : a < b) : oI a < oI b := by
  have x := ju (k := a) (by omega)
  have y := ju (k := b) hb
  rw [Int32.lt_iff_toInt_lt]; omega
theorem own_nlt32 {a b : Nat} (ha : a ≤ 100000000) (h : b ≤ a) : ¬ oI a < oI b := by
  have x := ju (k := a) (by omega)
  have y := ju (k := b) (by omega)
  rw [Int32.lt_iff_toInt_lt]; omega
theorem own_ne32 {a b : Nat} (ha : a ≤ 100000000) (hb : b ≤ 100000000) (h : ¬ a = b) : ¬ oI a = oI b := by
  have x := ju (k := a) ha
  have y := ju (k := b) hb
  rw [← Int32.toInt_inj]; omega
theorem own_nc {a cap : Nat} (h : a ≤ cap) (ha : a ≤ 100000000) : (oI a).toNatClampNeg ≤ cap := by rw [jQ (by omega)]; exact h
theorem own_len1 (cs : List Int32) (cc : Int32) : oI cs.length + (1 : Int32) = oI (cs ++ [cc]).length := by rw [own_e1, List.length_append]; rfl
abbrev own_b0 (c : Int32) : Int32 := nar .byte ((c >>> ((0 : Int32) &&& 31)).toInt8.toInt32)
abbrev own_b1 (c : Int32) : Int32 := nar .byte ((c >>> ((8 : Int32) &&& 31)).toInt8.toInt32)
theorem own_gc {c : Int32} (h : ¬ c < 0 ∧ ¬ (65535 : Int32) < c) : nar .char ((((own_b0 c &&& (255 : Int32)) <<< ((0 : Int32) &&& 31)) ||| ((own_b1 c &&& (255 : Int32)) <<< ((8 : Int32) &&& 31))).toUInt32.toUInt16.toUInt32.toInt32) = c := by
  have e1 : (65535 : Int32).toInt = 65535 := by decide
  have e0 : (0 : Int32).toInt = 0 := by decide
  simp only [Int32.lt_iff_toInt_lt, e1, e0] at h
  have s0 := c_ishr c 0 0 (by decide)
  have s8 := c_ishr c 8 8 (by decide)
  have b0 : (own_b0 c).toInt = (c >>> ((0 : Int32) &&& 31)).toInt8.toInt32.toInt := by show ((c >>> ((0 : Int32) &&& 31)).toInt8.toInt32).toInt8.toInt32.toInt = _; simp
  have b1 : (own_b1 c).toInt = (c >>> ((8 : Int32) &&& 31)).toInt8.toInt32.toInt := by show ((c >>> ((8 : Int32) &&& 31)).toInt8.toInt32).toInt8.toInt32.toInt = _; simp
  have i0 := c_i2b (c >>> ((0 : Int32) &&& 31))
  have i1 := c_i2b (c >>> ((8 : Int32) &&& 31))
  have m0 := c_mask (own_b0 c) 255 8 (by decide) (by decide)
  have m1 := c_mask (own_b1 c) 255 8 (by decide) (by decide)
  have l0 := c_ishl (own_b0 c &&& 255) 0 0 (by decide)
  have l1 := c_ishl (own_b1 c &&& 255) 8 8 (by decide)
  have r0 := rng32 ((own_b0 c &&& 255) <<< ((0 : Int32) &&& 31))
  have r1 := rng32 ((own_b1 c &&& 255) <<< ((8 : Int32) &&& 31))
  generalize hX : (own_b0 c &&& (255 : Int32)) <<< ((0 : Int32) &&& 31) = X at *
  generalize hY : (own_b1 c &&& (255 : Int32)) <<< ((8 : Int32) &&& 31) = Y at *
  have hXv : X.toInt = c.toInt % 256 := by omega
  have hYv : Y.toInt = (c.toInt / 256) * 256 := by omega
  have o := c_or' X Y 8 (by decide) 256 (by decide) (by omega) (by omega) (by omega)
  have ro := rng32 (X ||| Y)
  have n1 := c_i2c (X ||| Y)
  have n2 := c_i2c ((X ||| Y).toUInt32.toUInt16.toUInt32.toInt32)
  show ((X ||| Y).toUInt32.toUInt16.toUInt32.toInt32).toUInt32.toUInt16.toUInt32.toInt32 = c
  rw [← Int32.toInt_inj]
  omega
def jq (cs : List Int32) : List Value := cs.flatMap fun c => [Value.int (own_b0 c), Value.int (own_b1 c)]
theorem own_bsl (cs : List Int32) : (jq cs).length = 2 * cs.length := by
  induction cs with
  | nil => rfl
  | cons c cs ih => show (jq cs).length + 1 + 1 = 2 * (cs.length + 1); omega
theorem own_bsa (ds cs : List Int32) : jq (ds ++ cs) = jq ds ++ jq cs := by simp [jq]
theorem own_bs1 (cs : List Int32) (cc : Int32) : jq (cs ++ [cc]) = jq cs ++ [Value.int (own_b0 cc), Value.int (own_b1 cc)] := by rw [own_bsa]; rfl
theorem own_bspl (cs : List Int32) (x y : Value) : (jq cs ++ [x, y]).length = 2 * cs.length + 2 := by rw [List.length_append, own_bsl]; rfl
theorem own_set0 (cs : List Int32) (x y v : Value) : (jq cs ++ [x, y]).set (2 * cs.length) v = jq cs ++ [v, y] := by
  rw [List.set_append_right _ _ (by rw [own_bsl]; exact Nat.le_refl _), own_bsl, Nat.sub_self]; rfl
theorem own_set1 (cs : List Int32) (x y v : Value) : (jq cs ++ [x, y]).set (2 * cs.length + 1) v = jq cs ++ [x, v] := by
  rw [List.set_append_right _ _ (by rw [own_bsl]; omega), own_bsl, show 2 * cs.length + 1 - 2 * cs.length = 1 from by omega]; rfl
theorem own_bsg (cs : List Int32) : ∀ i, i < cs.length → (jq cs).getD (2 * i) (.int 0) = .int (own_b0 (cs.getD i 0)) ∧ (jq cs).getD (2 * i + 1) (.int 0) = .int (own_b1 (cs.getD i 0)) := by
  induction cs with
  | nil => intro i hi; exact absurd hi (Nat.not_lt_zero _)
  | cons c cs ih =>
    intro i hi
    have e : jq (c :: cs) = .int (own_b0 c) :: .int (own_b1 c) :: jq cs := rfl
    cases i with
    | zero => exact ⟨rfl, rfl⟩
    | succ i =>
      have q := ih i (Nat.lt_of_succ_lt_succ hi)
      rw [e, show 2 * (i + 1) = 2 * i + 1 + 1 from by omega]
      simp only [List.getD_cons_succ]
      exact q
theorem own_bvg (cs : List Int32) : ∀ i, i < cs.length → (jC cs).getD i (.int 0) = .int ((cs.getD i 0).toInt8.toInt32) := by
  induction cs with
  | nil => intro i hi; exact absurd hi (Nat.not_lt_zero _)
  | cons c cs ih =>
    intro i hi
    cases i with
    | zero => rfl
    | succ i => exact ih i (Nat.lt_of_succ_lt_succ hi)
theorem jG (cs : List Int32) {Q : Int32 → Prop} (h : ∀ c ∈ cs, Q c) {i : Nat} (hi : i < cs.length) : Q (cs.getD i 0) := by
  rw [List.getD_eq_getElem?_getD, List.getElem?_eq_getElem hi]; exact h _ (List.getElem_mem hi)
def jk (cd : Int32) (n : Nat) : Nat := if cd = 0 then n else 2 * n
theorem jy (n : Nat) : jk 0 n = n := by simp [jk]
theorem jA (n : Nat) : jk 1 n = 2 * n := by simp [jk]
theorem jL {cd : Int32} (n : Nat) : n ≤ jk cd n ∧ jk cd n ≤ 2 * n := by unfold jk; split <;> omega
theorem own_shl1 {n : Nat} (h : n ≤ 10000) : ((oI n) <<< ((1 : Int32) &&& 31)) = oI (2 * n) := by
  have l0 := c_ishl (oI n) 1 1 (by decide)
  have a := ju (k := n) (by omega)
  have b := ju (k := 2 * n) (by omega)
  have r1 := rng32 ((oI n) <<< ((1 : Int32) &&& 31))
  rw [← Int32.toInt_inj]; omega
theorem own_shr1 {n : Nat} (h : n ≤ 10000) : ((oI (2 * n)) >>> ((1 : Int32) &&& 31)) = oI n := by
  have s0 := c_ishr (oI (2 * n)) 1 1 (by decide)
  have a := ju (k := n) (by omega)
  have b := ju (k := 2 * n) (by omega)
  rw [← Int32.toInt_inj]; omega
theorem own_shlC {cd : Int32} (hcd : cd = 0 ∨ cd = 1) {n : Nat} (h : n ≤ 10000) : ((oI n) <<< (cd &&& 31)) = oI (jk cd n) := by
  rcases hcd with rfl | rfl
  · rw [jy]; exact own_shl0 _
  · rw [jA]; exact own_shl1 h
theorem own_shrC {cd : Int32} (hcd : cd = 0 ∨ cd = 1) {n : Nat} (h : n ≤ 10000) : ((oI (jk cd n)) >>> (cd &&& 31)) = oI n := by
  rcases hcd with rfl | rfl
  · rw [jy]; exact own_shr0 _
  · rw [jA]; exact own_shr1 h
theorem own_sub32 {a b : Nat} (hb : b ≤ a) (ha : a ≤ 10000) : (oI a - oI b) = oI (a - b) := by
  have x := ju (k := a) (by omega)
  have y := ju (k := b) (by omega)
  have d := ju (k := a - b) (by omega)
  have s := c_isub (oI a) (oI b)
  have r := rng32 (oI a - oI b)
  rw [← Int32.toInt_inj]
  omega
theorem own_c2 {N K : Nat} (hK : K ≤ 1000) (hN : N ≤ 1000) : ((0 : Int32) < ((oI K) - (oI N))) ↔ ¬ K ≤ N := by
  have a := ju (k := K) (by omega)
  have b := ju (k := N) (by omega)
  have s := c_isub (oI K) (oI N)
  have r := rng32 (oI K - oI N)
  have z : (0 : Int32).toInt = 0 := by decide
  simp only [Int32.lt_iff_toInt_lt]
  omega
theorem own_egC {cd : Int32} (hcd : cd = 0 ∨ cd = 1) {N K : Nat} (hK : K ≤ 1000) (h : ¬ K ≤ N) : (((oI K) <<< (cd &&& 31)) - (oI (jk cd N))) = oI (jk cd K - jk cd N) := by
  rw [own_shlC hcd (by omega)]
  refine own_sub32 ?_ ?_
  · rcases hcd with rfl | rfl
    · rw [jy, jy]; omega
    · rw [jA, jA]; omega
  · have q := jL (cd := cd) K; omega
theorem own_epC {cd : Int32} (hcd : cd = 0 ∨ cd = 1) (N : Nat) : ((oI (jk cd N)) + ((2 : Int32) <<< (cd &&& 31))) = oI (jk cd N + jk cd 2) := by
  have e : ((2 : Int32) <<< (cd &&& 31)) = oI (jk cd 2) := own_shlC (n := 2) hcd (by omega)
  rw [e]; exact own_add32 _ _
theorem own_grC {cd : Int32} (hcd : cd = 0 ∨ cd = 1) {N K : Nat} (h : ¬ K ≤ N) : jk cd (jz N K) = jk cd N + max (jk cd K - jk cd N) (jk cd N + jk cd 2) := by
  unfold jz
  rcases hcd with rfl | rfl
  · simp only [jy]
  · simp only [jA]; omega
theorem own_nlen3 {A B C r : Nat} (hA : A ≤ 1000) (hB : B ≤ 1000) (hC : C ≤ 1000) {o gr p : Int32} (eo : o = oI A) (eg : gr = oI B) (ep : p = oI C) (er : r = A + max B C) : (o + (if gr < p then p else gr)) = oI r := by
  have a := ju (k := B) (by omega)
  have b := ju (k := C) (by omega)
  rw [eo, eg, ep, er]
  have q : (if oI B < oI C then oI C else oI B) = oI (max B C) := by
    by_cases h : B < C
    · rw [if_pos (by rw [Int32.lt_iff_toInt_lt]; omega), Nat.max_eq_right (by omega)]
    · rw [if_neg (by rw [Int32.lt_iff_toInt_lt]; omega), Nat.max_eq_left (by omega)]
  rw [q, own_add32]
theorem own_small {r : Nat} (hr : r ≤ 100000) (h0 : 0 < r) : (0 : Int32) < oI r ∧ ¬ (2147483639 : Int32) < oI r ∧ ¬ oI r = (2147483647 : Int32) ∧ oI r < (1073741823 : Int32) := by
  have a := ju (k := r) (by omega)
  have z : (0 : Int32).toInt = 0 := by decide
  have e1 : (2147483639 : Int32).toInt = 2147483639 := by decide
  have e2 : (2147483647 : Int32).toInt = 2147483647 := by decide
  have e3 : (1073741823 : Int32).toInt = 1073741823 := by decide
  simp only [Int32.lt_iff_toInt_lt, ← Int32.toInt_inj]
  omega
theorem own_lt1G {r : Nat} (hr : r ≤ 100000) : oI r < (1073741823 : Int32) := by
  have a := ju (k := r) (by omega)
  have e3 : (1073741823 : Int32).toInt = 1073741823 := by decide
  simp only [Int32.lt_iff_toInt_lt]
  omega
theorem own_gr36 {N K : Nat} (hK : K ≤ 18) (h : ¬ K ≤ N) : jz N K ≤ 36 ∧ K ≤ jz N K ∧ N < jz N K := by unfold jz; omega
theorem own_scm {cd : Int32} {a b : Nat} (h : a < b) : jk cd a < jk cd b := by unfold jk; split <;> omega
theorem own_scle {cd : Int32} {a b : Nat} (h : a ≤ b) : jk cd a ≤ jk cd b := by unfold jk; split <;> omega
theorem own_or3 {a b c : Int32} (ha : ¬ a < 0) (hb : ¬ b < 0) (hc : ¬ c < 0) : ¬ ((a ||| b) ||| c) < 0 := by
  have key : ∀ x : Int32, x < 0 ↔ x.toBitVec.msb = true := fun x => by
    rw [Int32.lt_iff_toInt_lt, BitVec.msb_eq_toInt]; exact (decide_eq_true_iff).symm
  rw [key] at *
  rw [Int32.toBitVec_or, Int32.toBitVec_or, BitVec.msb_or, BitVec.msb_or]
  simp only [Bool.not_eq_true] at *
  rw [ha, hb, hc]; decide
theorem own_fits3 {o n k : Nat} (h : o + n ≤ k) (hk : k ≤ 10000) : ¬ (((oI k) ||| (oI o)) ||| (oI n)) < 0 ∧ ¬ ((oI k) - (oI o)) < (oI n) := by
  refine ⟨own_or3 (js (by omega)) (js (by omega)) (js (by omega)), ?_⟩
  rw [own_sub32 (by omega) (by omega)]
  exact own_nlt32 (by omega) (by omega)
theorem own_chl {x : Int32} (h : ¬ x < 0 ∧ ¬ (255 : Int32) < x) : (x.toInt8.toInt32 &&& (255 : Int32)) = x := by
  have i := c_i2b x
  have m0 := c_mask x.toInt8.toInt32 255 8 (by decide) (by decide)
  have e : (255 : Int32).toInt = 255 := by decide
  have z : (0 : Int32).toInt = 0 := by decide
  simp only [Int32.lt_iff_toInt_lt] at h
  rw [← Int32.toInt_inj]
  omega
theorem own_i2c {x : Int32} (h : ¬ x < 0 ∧ ¬ (65535 : Int32) < x) : x.toUInt32.toUInt16.toUInt32.toInt32 = x := by
  have a := c_i2c x
  have e : (65535 : Int32).toInt = 65535 := by decide
  have z : (0 : Int32).toInt = 0 := by decide
  simp only [Int32.lt_iff_toInt_lt] at h
  rw [← Int32.toInt_inj]
  omega
theorem jJ {x : Int32} (h : ¬ x < 0 ∧ ¬ (65535 : Int32) < x) : nar .char x = x := own_i2c h
theorem own_cb (x : Int32) : ¬ x.toUInt32.toUInt16.toUInt32.toInt32 < 0 ∧ ¬ (65535 : Int32) < x.toUInt32.toUInt16.toUInt32.toInt32 := by
  have h := c_i2c x
  have e : (65535 : Int32).toInt = 65535 := by decide
  have z : (0 : Int32).toInt = 0 := by decide
  simp only [Int32.lt_iff_toInt_lt]
  omega
theorem own_up1 {c : Int32} (h : ¬ c < 0 ∧ ¬ (255 : Int32) < c) : ¬ c < 0 ∧ ¬ (65535 : Int32) < c := by
  have e1 : (255 : Int32).toInt = 255 := by decide
  have e2 : (65535 : Int32).toInt = 65535 := by decide
  simp only [Int32.lt_iff_toInt_lt] at h ⊢
  omega
def jc (c : Int32) : List Int32 := if c = 38 then [38, 97, 109, 112, 59] else if c = 60 then [38, 108, 116, 59] else if c = 62 then [38, 103, 116, 59] else if c = 34 then [38, 113, 117, 111, 116, 59] else if c = 39 then [38, 35, 51, 57, 59] else [c]
theorem own_escn {c : Int32} (h1 : ¬ c = 38) (h2 : ¬ c = 60) (h3 : ¬ c = 62) (h4 : ¬ c = 34) (h5 : ¬ c = 39) : jc c = [c] := by
  unfold jc; rw [if_neg h1, if_neg h2, if_neg h3, if_neg h4, if_neg h5]
theorem jB (c : Int32) : (jc c).length ≤ 6 ∧ 0 < (jc c).length := by
  unfold jc; split; decide; split; decide; split; decide; split; decide; split; decide; exact ⟨by show 1 ≤ 6; decide, Nat.one_pos⟩
theorem jE (cs : List Int32) : ∀ i, ((cs.take i).flatMap jc).length ≤ 6 * i := by
  induction cs with
  | nil => intro i; simp
  | cons c cs ih =>
    intro i
    cases i with
    | zero => simp
    | succ i =>
      have q := ih i
      have r := (jB c).1
      rw [List.take_succ_cons, List.flatMap_cons, List.length_append]; omega
theorem jv (cs : List Int32) : ∀ i, i < cs.length → (cs.take (i + 1)).flatMap jc = (cs.take i).flatMap jc ++ jc (cs.getD i 0) := by
  induction cs with
  | nil => intro i hi; exact absurd hi (Nat.not_lt_zero _)
  | cons c cs ih =>
    intro i hi
    cases i with
    | zero => simp
    | succ i =>
      have q := ih i (Nat.lt_of_succ_lt_succ hi)
      rw [List.take_succ_cons, List.take_succ_cons, List.flatMap_cons, List.flatMap_cons, q, List.append_assoc]; rfl
theorem own_miss {k : Int32} (h1 : ¬ k = 34) (h2 : ¬ k = 38) (h3 : ¬ k = 39) (h4 : ¬ k = 60) (h5 : ¬ k = 62) (a b c d f : Int) : (#[((34 : Int), a), (38, b), (39, c), (60, d), (62, f)] : Array (Int × Int)).find? (·.1 == k.toInt) = none := by
  have e1 : (34 : Int32).toInt = 34 := by decide
  have e2 : (38 : Int32).toInt = 38 := by decide
  have e3 : (39 : Int32).toInt = 39 := by decide
  have e4 : (60 : Int32).toInt = 60 := by decide
  have e5 : (62 : Int32).toInt = 62 := by decide
  simp only [← Int32.toInt_inj, e1, e2, e3, e4, e5] at h1 h2 h3 h4 h5
  rw [Array.find?_eq_none]
  intro x hx
  simp only [List.mem_toArray, List.mem_cons, List.not_mem_nil, or_false] at hx
  rcases hx with rfl | rfl | rfl | rfl | rfl <;> simp only [beq_iff_eq] <;> omega
theorem own_cpv {p : Program} {l : Launch} {e : Env} {R : Room} {s : State} {m : MethodId} {args : Array Value} {below : List Frame} {meth : Method} {c : Code} {T : State} {locs : List Loc} {cells slots : Nat} {Z : State} {h : Heap}
    (X : Stand p l e R s m args below meth c T locs cells slots) (hx : p.tables.exec = Jvm.exec) (hZ : Z.Warmed39 s.vm) {a0 : Array Value} {own : String} {index : Nat} (hown : s.vm.findClass own = some m.cls)
    (w1 : (Cond.methodLink own index Jvm.Stand.acN).before a0 Z = true) (w2 : (Cond.native Jvm.Stand.acN).before a0 Z = true) (w3 : (Cond.static Jvm.Stand.acN).before a0 Z = true) (w4 : (Cond.initialized "java/lang/System").before a0 Z = true) (eT : T.heap = h)
    {a b : Addr} {k k' : ClassId} {vs us : List Value} {zN zM nn dp : Int32} (A : Arv Z h a k .byte zN vs (.int 0)) (B : Arv Z h b k' .byte zM us (.int 0)) (N M K : Nat) (eN : zN = oI N) (eM : zM = oI M) (en : nn = oI K) (ed : dp = oI us.length)
    (hN : N < 2 ^ 31) (hM : M < 2 ^ 31) (h1 : vs.length ≤ K) (h2 : K ≤ N) (h3 : us.length + K ≤ M) {n0 : Nat} (N0 : Fr n0 locs) (ge : n0 ≤ b)
    {g : JFrame} (hg : g.method = m) (hsize : g.locals.size = c.maxLocals) {rest : List Value} (hs : g.stack = .int nn :: .int dp :: .ref b :: .int 0 :: .ref a :: rest) (hd : decode c.code g.pc = .ok (.invokestatic index, 3))
    (hf : 1 ≤ R.frames) {W : Nat} (hW : 2 * g.monitorRoom + (rest.map fun v => v.category).sum ≤ W) (hlo : W + (nativeFrameWords "java/lang/System" "arraycopy" 5 + 11) ≤ R.locals) :
    ∃ T' h' L, Stand p l e R s m args below meth c T' L cells slots ∧ T'.heap = h' ∧ Fr n0 L ∧ Keep h h' [b] ∧ Arv Z h' b k' .byte zM (us ++ vs) (.int 0) ∧
      ∀ target, Steps p.tables e below (T'.setTop { g with pc := g.pc + 3, stack := rest }) target → Steps p.tables e below (T.setTop g) target := by
  have kN : zN.toNatClampNeg = N := by rw [eN]; exact jQ hN
  have kM : zM.toNatClampNeg = M := by rw [eM]; exact jQ hM
  have kn : nn.toNatClampNeg = K := by rw [en]; exact jQ (by omega)
  have kd : dp.toNatClampNeg = us.length := by rw [ed]; exact jQ (by omega)
  have k0 : (0 : Int32).toNatClampNeg = 0 := by decide
  have B' := B.pad (vs' := us ++ List.replicate K (.int 0)) (pad_rep _ _ _)
  obtain ⟨T', h', L, X', e', N', K', A', st⟩ := cpA X hx hZ hown w1 w2 w3 w4 eT (us := (List.range nn.toNatClampNeg).map fun i => vs.getD ((0 : Int32).toNatClampNeg + i) (.int 0)) A B' (Or.inl ⟨rfl, rfl⟩) (sp := 0) (dp := dp) (nn := nn) (by decide) (by rw [ed]; exact js (by omega)) (by rw [en]; exact js (by omega))
    (by rw [kn, kN, k0]; omega) (by rw [kd, kn, kM]; omega) rfl (by rw [kd, kn]; simp) N0 ge hg hsize hs hd hf hW hlo
  refine ⟨T', h', L, X', e', N', K', A'.pad fun i => ?_, st⟩
  rw [kd, kn, k0]
  have t1 : (us ++ List.replicate K (Value.int 0)).take us.length = us := by simp
  have t2 : (us ++ List.replicate K (Value.int 0)).drop (us.length + K) = [] := by apply List.drop_eq_nil_of_le; simp
  rw [t1, t2, List.append_nil]
  simp only [List.getD_eq_getElem?_getD]
  by_cases c1 : i < us.length
  · rw [List.getElem?_append_left c1, List.getElem?_append_left c1]
  · rw [List.getElem?_append_right (by omega), List.getElem?_append_right (by omega)]
    by_cases c2 : i - us.length < K
    · simp [c2]
    · rw [List.getElem?_eq_none (by omega), List.getElem?_eq_none (by simp; omega)]
def Enc (cd : Int32) (vs : List Value) (cs : List Int32) : Prop := (cd = 0 ∧ vs = jC cs ∧ ∀ c ∈ cs, ¬ c < 0 ∧ ¬ (255 : Int32) < c) ∨ (cd = 1 ∧ vs = jq cs ∧ ∀ c ∈ cs, ¬ c < 0 ∧ ¬ (65535 : Int32) < c)
theorem Enc.cdq {cd : Int32} {vs : List Value} {cs : List Int32} (q : Enc cd vs cs) : cd = 0 ∨ cd = 1 := q.elim (fun x => Or.inl x.1) (fun x => Or.inr x.1)
theorem Enc.len {cd : Int32} {vs : List Value} {cs : List Int32} (q : Enc cd vs cs) : vs.length = jk cd cs.length := by
  rcases q with ⟨rfl, rfl, -⟩ | ⟨rfl, rfl, -⟩
  · rw [own_bvl, jy]
  · rw [own_bsl, jA]
theorem Enc.b16 {cd : Int32} {vs : List Value} {cs : List Int32} (q : Enc cd vs cs) : ∀ c ∈ cs, ¬ c < 0 ∧ ¬ (65535 : Int32) < c := by
  rcases q with ⟨-, -, h⟩ | ⟨-, -, h⟩
  · exact fun c hc => own_up1 (h c hc)
  · exact h
/-- a String at a spells cs, in either coding -/
def SG (Z : State) (h : Heap) (a : Addr) (cs : List Int32) : Prop := ∃ (t : Addr) (kb : ClassId) (cd : Int32) (vs : List Value), Exa Z h a "java/lang/String" ∧ Fld Z h a "java/lang/String" "coder" "B" (.int cd) ∧ Fld Z h a "java/lang/String" "value" "[B" (.ref t) ∧ Arv Z h t kb .byte (oI (jk cd cs.length)) vs (.int 0) ∧ Enc cd vs cs
theorem SG.exa {Z : State} {h : Heap} {a : Addr} {cs : List Int32} (F : SG Z h a cs) : Exa Z h a "java/lang/String" := by obtain ⟨t, kb, cd, vs, E, -⟩ := F; exact E
theorem SG.lt {Z : State} {h : Heap} {a : Addr} {cs : List Int32} (F : SG Z h a cs) : a < h.size := F.exa.lt
theorem SG.b16 {Z : State} {h : Heap} {a : Addr} {cs : List Int32} (F : SG Z h a cs) : ∀ c ∈ cs, ¬ c < 0 ∧ ¬ (65535 : Int32) < c := by obtain ⟨t, kb, cd, vs, -, -, -, -, q⟩ := F; exact q.b16
theorem SG.ext {Z : State} {h h' : Heap} {a : Addr} {cs : List Int32} (F : SG Z h a cs) (E : Ext h h') : SG Z h' a cs := by obtain ⟨t, kb, cd, vs, x, c, v, k, q⟩ := F; exact ⟨t, kb, cd, vs, x.ext E, c.ext E, v.ext E, k.ext E, q⟩
theorem SG.keep0 {Z : State} {h h' : Heap} {a : Addr} {cs : List Int32} (F : SG Z h a cs) (K : Keep h h' []) : SG Z h' a cs := by obtain ⟨t, kb, cd, vs, x, c, v, k, q⟩ := F; exact ⟨t, kb, cd, vs, x.keep K, c.keep K nin0, v.keep K nin0, k.keep K nin0, q⟩
theorem Str.sg {Z : State} {h : Heap} {a : Addr} {cs : List Int32} (F : Str Z h a cs) (q : ∀ c ∈ cs, ¬ c < 0 ∧ ¬ (255 : Int32) < c) : SG Z h a cs := by
  obtain ⟨t, kb, x, c, v, k⟩ := F; exact ⟨t, kb, 0, _, x, c, v, by rw [jy]; exact k, Or.inl ⟨rfl, rfl, q⟩⟩
def Str16 (Z : State) (h : Heap) (a : Addr) (cs : List Int32) : Prop := ∃ (t : Addr) (kb : ClassId), Exa Z h a "java/lang/String" ∧ Fld Z h a "java/lang/String" "coder" "B" (.int 1) ∧ Fld Z h a "java/lang/String" "value" "[B" (.ref t) ∧ Arv Z h t kb .byte (oI (2 * cs.length)) (jq cs) (.int 0)
theorem Str16.sg {Z : State} {h : Heap} {a : Addr} {cs : List Int32} (F : Str16 Z h a cs) (q : ∀ c ∈ cs, ¬ c < 0 ∧ ¬ (65535 : Int32) < c) : SG Z h a cs := by
  obtain ⟨t, kb, x, c, v, k⟩ := F; exact ⟨t, kb, 1, _, x, c, v, by rw [jA]; exact k, Or.inr ⟨rfl, rfl, q⟩⟩
/-- a StringBuilder at b with the array t -/
def BB (Z : State) (h : Heap) (b t : Addr) (kb : ClassId) (cd nv ln : Int32) (vs : List Value) : Prop := Exa Z h b "java/lang/StringBuilder" ∧ Fld Z h b "java/lang/AbstractStringBuilder" "value" "[B" (.ref t) ∧ Fld Z h b "java/lang/AbstractStringBuilder" "coder" "B" (.int cd) ∧ Fld Z h b "java/lang/AbstractStringBuilder" "count" "I" (.int nv) ∧ Fld Z h b "java/lang/AbstractStringBuilder" "maybeLatin1" "Z" (.int (0 : Int32)) ∧ Exa Z h t "[B" ∧ Arv Z h t kb .byte ln vs (.int 0)
/-- .. that holds cs, in either coding -/
def BG (Z : State) (h : Heap) (b t : Addr) (cs : List Int32) : Prop := ∃ (kb : ClassId) (N : Nat) (cd : Int32) (vs : List Value), N ≤ 36 ∧ cs.length ≤ N ∧ BB Z h b t kb cd (oI cs.length) (oI (jk cd N)) vs ∧ Enc cd vs cs
theorem BG.exa {Z : State} {h : Heap} {b t : Addr} {cs : List Int32} (F : BG Z h b t cs) : Exa Z h b "java/lang/StringBuilder" := by obtain ⟨_, _, _, _, _, _, ⟨E, -⟩, -⟩ := F; exact E
theorem BG.exat {Z : State} {h : Heap} {b t : Addr} {cs : List Int32} (F : BG Z h b t cs) : Exa Z h t "[B" := by obtain ⟨_, _, _, _, _, _, ⟨-, -, -, -, -, E, -⟩, -⟩ := F; exact E
theorem BG.lt {Z : State} {h : Heap} {b t : Addr} {cs : List Int32} (F : BG Z h b t cs) : b < h.size := F.exa.lt
theorem BG.ext {Z : State} {h h' : Heap} {b t : Addr} {cs : List Int32} (F : BG Z h b t cs) (E : Ext h h') : BG Z h' b t cs := by
  obtain ⟨kb, N, cd, vs, h1, h2, ⟨x, v, c, n, q, y, k⟩, hE⟩ := F
  exact ⟨kb, N, cd, vs, h1, h2, ⟨x.ext E, v.ext E, c.ext E, n.ext E, q.ext E, y.ext E, k.ext E⟩, hE⟩
theorem BG.keep0 {Z : State} {h h' : Heap} {b t : Addr} {cs : List Int32} (F : BG Z h b t cs) (K : Keep h h' []) : BG Z h' b t cs := by
  obtain ⟨kb, N, cd, vs, h1, h2, ⟨x, v, c, n, q, y, k⟩, hE⟩ := F
  exact ⟨kb, N, cd, vs, h1, h2, ⟨x.keep K, v.keep K nin0, c.keep K nin0, n.keep K nin0, q.keep K nin0, y.keep K, k.keep K nin0⟩, hE⟩
theorem own_snoc {cs : List Int32} {cc : Int32} {Q : Int32 → Prop} (h : ∀ c ∈ cs, Q c) (q : Q cc) : ∀ c ∈ cs ++ [cc], Q c := fun c hc => by
  rcases List.mem_append.mp hc with h1 | h1
  · exact h c h1
  · rw [List.mem_singleton.mp h1]; exact q
theorem own_two {cs ds : List Int32} {Q : Int32 → Prop} (h : ∀ c ∈ cs, Q c) (q : ∀ c ∈ ds, Q c) : ∀ c ∈ cs ++ ds, Q c := fun c hc => (List.mem_append.mp hc).elim (h c) (q c)
theorem own_tk (ds xs : List Int32) {i : Nat} (hi : i < xs.length) : ds ++ xs.take (i + 1) = (ds ++ xs.take i) ++ [xs.getD i 0] := by
  rw [List.append_assoc]; congr 1
  rw [List.take_succ, List.getD_eq_getElem?_getD, List.getElem?_eq_getElem hi]; rfl
theorem jS {a b : Nat} (ha : a ≤ 10000) (hb : b ≤ 10000) : oI a < oI b ↔ a < b := by
  have x := ju (k := a) (by omega)
  have y := ju (k := b) (by omega)
  rw [Int32.lt_iff_toInt_lt]; omega
theorem own_escA : jc 38 = [38, 97, 109, 112, 59] := by decide
theorem own_escB : jc 60 = [38, 108, 116, 59] := by decide
theorem own_escC : jc 62 = [38, 103, 116, 59] := by decide
theorem own_escD : jc 34 = [38, 113, 117, 111, 116, 59] := by decide
theorem own_escE : jc 39 = [38, 35, 51, 57, 59] := by decide
theorem own_gl {la lb lc : List Int32} {i : Nat} (h : i < la.length) : la.getD i 0 = ((la ++ lb) ++ lc).getD i 0 := by
  simp only [List.getD_eq_getElem?_getD]; rw [List.append_assoc, List.getElem?_append_left h]
theorem own_gm {la lb lc : List Int32} {i : Nat} (h : la.length ≤ i) (h2 : i - la.length < lb.length) : lb.getD (i - la.length) 0 = ((la ++ lb) ++ lc).getD i 0 := by
  simp only [List.getD_eq_getElem?_getD]; rw [List.append_assoc, List.getElem?_append_right h, List.getElem?_append_left h2]
theorem own_gh {la lb lc : List Int32} {i : Nat} (h : la.length ≤ i) (h2 : lb.length ≤ i - la.length) : lc.getD (i - la.length - lb.length) 0 = ((la ++ lb) ++ lc).getD i 0 := by
  simp only [List.getD_eq_getElem?_getD]; rw [List.append_assoc, List.getElem?_append_right h, List.getElem?_append_right h2]
theorem own_tot (la lb lc : List Int32) : (oI ((la ++ lb) ++ lc).length) = (((oI la.length) + (oI lb.length)) + (oI lc.length)) := by
  rw [List.length_append, List.length_append, own_add32, own_add32]
theorem own_n4 (x : Int32) : (x &&& (3 : Int32)) = 0 ∨ (x &&& (3 : Int32)) = 1 ∨ (x &&& (3 : Int32)) = 2 ∨ (x &&& (3 : Int32)) = 3 := by
  have q := c_and x 3 (by decide)
  have e0 : (0 : Int32).toInt = 0 := by decide
  have e1 : (1 : Int32).toInt = 1 := by decide
  have e2 : (2 : Int32).toInt = 2 := by decide
  have e3 : (3 : Int32).toInt = 3 := by decide
  simp only [← Int32.toInt_inj, e0, e1, e2, e3]; omega
theorem own_safe_new {Z : State} {EL : List (String × Nat)} {vm : Vm} {h : Heap} {x : Addr} (hal : Z.vm.Alike vm) (E : Exa Z h x "java/lang/String") (F : Fld Z h x "java/lang/String" "value" "[B" .null) : Safe Z EL vm h x := fun B => by
  obtain ⟨p, hp, u, a, hb, q, hqa, S, hy⟩ := B
  obtain ⟨cS, ⟨⟨s1, s2, s3, ⟨cv, kv, iv, s4, s4'⟩, ⟨cc, kc, ic, s5, s5'⟩, s6, s7, s8, s9, s10, s11, s12, s13, s14, s15, s16⟩, hfS, hcS⟩, ⟨kS, k1, k2, k3⟩, hB, hbyt⟩ := S
  rcases hy with hy | hy
  · obtain ⟨cell, cf, k, i, f, h1, h2, h3, h4, h5, h6, h7⟩ := F
    obtain ⟨kv', z4⟩ := ff_back (U := Wst Z vm h) hal s4
    subst hy
    have s1' : h[q.sa]? = some q.sC := s1
    cases h1.symm.trans s1'
    cases h2.symm.trans z4
    cases h7.symm.trans s8
  · obtain ⟨cell, k, h1, h2, -⟩ := E
    subst hy
    have s10' : h[q.sd]? = some q.SA := s10
    cases h1.symm.trans s10'
    have hB' : vm.findClass "[B" = some q.SA.cls := hB
    rw [hal.findClass] at hB'
    exact ids_ne h2 hB' (by decide) rfl
theorem ef_0 (m : MethodId) (x0 : Addr) (x1 : Addr) (x2 : Int32) (x3 : Int32) : entryFrame m #[(.ref x0), (.ref x1), (.int x2), (.int x3), .null] 6 = mkF m 0 #[.val (.ref x0), .val (.ref x1), .val (.int x2), .val (.int x3), .val .null, .unset] [] := by first | (simp [entryFrame, mkF, argsToLocals, Value.category]; done) | rfl
abbrev oc0 := jdk_42_method_149_code
theorem d0_0 : decode oc0 0 = .ok (.aload_n 0, 1) := by decide +kernel
theorem d0_1 : decode oc0 1 = .ok (.invokespecial 1, 3) := by decide +kernel
theorem d0_4 : decode oc0 4 = .ok (.iload_n 3, 1) := by decide +kernel
theorem d0_5 : decode oc0 5 = .ok (.ifCond .ne 22, 3) := by decide +kernel
theorem d0_8 : decode oc0 8 = .ok (.aload_n 0, 1) := by decide +kernel
theorem d0_9 : decode oc0 9 = .ok (.ldc 7, 2) := by decide +kernel
theorem d0_11 : decode oc0 11 = .ok (.getfield 9, 3) := by decide +kernel
theorem d0_14 : decode oc0 14 = .ok (.putfield 9, 3) := by decide +kernel
theorem d0_17 : decode oc0 17 = .ok (.aload_n 0, 1) := by decide +kernel
theorem d0_18 : decode oc0 18 = .ok (.ldc 7, 2) := by decide +kernel
theorem d0_20 : decode oc0 20 = .ok (.getfield 15, 3) := by decide +kernel
theorem d0_23 : decode oc0 23 = .ok (.putfield 15, 3) := by decide +kernel
theorem d0_26 : decode oc0 26 = .ok (.return_, 1) := by decide +kernel
theorem pn_15 : plainName "java/lang/String" = true := by first | (simp [plainName, overriddenIn]; done) | decide +kernel
theorem rm_sv0 (l : Launch) (Z : State) (a0 : Array Value) (hw : HW Z a0) (ws : List Jvm.Cond) (a : Addr) (b : Addr) (h0 : Heap) (n0 : Nat) (Z0 : n0 ≤ h0.size) (O0 : Old Z n0 h0) (E_a : Exa Z h0 a "java/lang/String") (F_v : Fld Z h0 a "java/lang/String" "value" "[B" .null) (F_c : Fld Z h0 a "java/lang/String" "coder" "B" (.int (0 : Int32))) (g_a : n0 ≤ a) :
    CtrW l Z jg my0 jdk_42_method_149_code 6 ((Option.none : Option Jvm.ClassFile.FieldType)) ws (⟨1, 4, 8, 12⟩ : Room) #[(.ref a), (.ref b), (.int (0 : Int32)), (.int (0 : Int32)), .null] h0 (fun v h L => v = none ∧ Fr n0 L ∧ Keep h0 h [a] ∧ Str Z h a []) := by
  refine CtrW.of (MetFree.of_bodySF (plainFor_of_name pn_15) hisR ?_)
  intro p e s m args below meth c s₁ Bd hml0 hP hK
  obtain ⟨rfl, hZ0, hh, hC⟩ := hP
  have hx := Bd.exec
  have hby := Bd.bytes
  have hml : c.maxLocals = 6 := hml0
  have hZ : Z.Warmed39 (s.setVm s.vm).vm := hZ0
  have hown : (s.setVm s.vm).vm.findClass "java/lang/String" = some m.cls := findClass_of_methodNamed Bd.named
  have hnm := (name_of_methodNamed Bd.named Bd.method).1
  have X0 : Stand p l e (⟨1, 4, 8, 12⟩ : Room) (s.setVm s.vm) m #[(.ref a), (.ref b), (.int (0 : Int32)), (.int (0 : Int32)), .null] below meth c s₁ [] 0 0 := Stand.of_body Bd
  have e0 : s₁.heap = h0 := by rw [← hh, Bd.state]; rfl
  have N0 := Fr.nil n0
  have K0 : Keep h0 h0 [a] := Keep.refl h0 [a]
  have hS : s.Since s.vm 0 := (State.WarmedH.refl s).since 0
  have hk : 0 ≤ h0.size := Nat.zero_le _
  have R0 : CHr Z jg s.vm h0 s.vm h0 := CHr.refl hC
  show OwnGoW p e below s Z jg (fun v h L => v = none ∧ Fr n0 L ∧ Keep h0 h [a] ∧ Str Z h a []) (⟨1, 4, 8, 12⟩ : Room).cells (⟨1, 4, 8, 12⟩ : Room).slots _
  refine gsW (S' := s₁.setTop (mkF m 0 #[rv a, rv b, iv (0 : Int32), iv (0 : Int32), .val .null, uu] [])) (fun tg kg => castTop (ef_0 m a b (0 : Int32) (0 : Int32)) kg) ?_
  have sfa0 : Safe Z jg s.vm h0 a := own_safe_new hZ0.alike E_a F_v
  refine gsW (fun _ k => ja X0 hx hby d0_0 rfl rfl k) ?_
  obtain ⟨T1, X1, e1, st1⟩ := initO X0 hx hZ hown (ow hw 15 rfl) (ow hw 16 rfl) (ow hw 17 rfl) e0 (g := (mkF m 1 #[rv a, rv b, iv (0 : Int32), iv (0 : Int32), .val .null, uu] [(.ref a)])) rfl (by rw [hml]; rfl) rfl (hb hby d0_1) (by decide) (W := 0) (jK rfl) (by decide)
  refine gsW (S' := T1.setTop (mkF m 4 #[rv a, rv b, iv (0 : Int32), iv (0 : Int32), .val .null, uu] [])) st1 ?_
  refine gsW (fun _ k => jb X1 hx hby d0_4 rfl (jn X1 hx hby d0_5 ((if0 _ _).trans (teq (by decide : (0 : Int32) = (0 : Int32))).2) (ja X1 hx hby d0_8 rfl rfl k))) ?_
  obtain ⟨a2, T2, h2, k2, t2, kb2, X2, e2, E2, hS, hk2, hZ, hown, g2e, g2c, g2v, g2a, -, -, r2x, -, ne2, st2⟩ := ldcCH X1 hx hZ hown (ow hw 241 rfl) (jD hw) e1 hS hk (jp hw) (List.mem_of_getElem? (i := 11) rfl) R0.1 (vs := ((([] : List Int32).map (fun c => c.toInt8.toInt32)).map Value.int)) (z := (0 : Int32)) ⟨by decide, by rfl⟩ (by decide) rfl (g := (mkF m 9 #[rv a, rv b, iv (0 : Int32), iv (0 : Int32), .val .null, uu] [(.ref a)])) rfl (hb hby d0_9) (n := 0) (by decide) (by decide) (by decide) (by decide)
  have r3 : CHr Z jg s.vm h0 T2.vm h2 := r2x
  have R3 := R0.trans r3
  have Z3 := nt Z0 E2.1
  have O3 := O0.ext E2
  have K3 := K0.ext E2
  have T2q : Str Z h2 a2 ([] : List Int32) := ⟨_, _, g2e, g2c, g2v, g2a⟩
  have f4 := (r3.safe (nu E_a.lt (Nat.le_refl _)) sfa0)
  refine gsW (S' := T2.setTop (mkF m 11 #[rv a, rv b, iv (0 : Int32), iv (0 : Int32), .val .null, uu] [(.ref a2), (.ref a)])) st2 ?_
  refine gFW X2 hx hZ hown (host := "") (Or.inl (ow hw 32 rfl)) Via.refl e2 g2v hby d0_11 fun T5 X5 e5 => ?_
  have f6 := (F_v.ext E2)
  have f7 := (E_a.ext E2)
  obtain ⟨T8, h8, X8, e8, W8, st8⟩ := putF X5 hx hZ hown (host := "") (Or.inl (ow hw 32 rfl)) Via.refl e5 f6 f7 (Or.inr ⟨(ow hw 33 rfl), rfl, hnm⟩) (ow hw 5 rfl) (ty := (.array .byte)) (by decide) rfl rfl (g := (mkF m 14 #[rv a, rv b, iv (0 : Int32), iv (0 : Int32), .val .null, uu] [(.ref t2), (.ref a)])) rfl rfl (hb hby d0_14)
  have N8 := Fr.snoc X8 N0 g_a
  have Fw8 := f6.same W8
  have r9 : CHr Z jg T2.vm h2 T2.vm h8 := CHr.wr W8 f4 R3.1
  have R9 := R3.trans r9
  have Z9 := nt Z3 (Keep.of_wr W8).1
  have O9 := O3.wr W8 g_a
  have K9 := K3.wr W8 (Or.inl (List.mem_of_getElem? (i := 0) rfl))
  refine gsW (S' := T8.setTop (mkF m 17 #[rv a, rv b, iv (0 : Int32), iv (0 : Int32), .val .null, uu] [])) st8 ?_
  refine gsW (fun _ k => ja X8 hx hby d0_17 rfl rfl k) ?_
  obtain ⟨a10, T10, h10, k10, t10, kb10, X10, e10, E10, hS, hk10, hZ, hown, g10e, g10c, g10v, g10a, -, -, r10x, -, ne10, st10⟩ := ldcCH X8 hx hZ hown (ow hw 241 rfl) (jD hw) e8 hS (nt hk2 (Keep.of_wr W8).1) (jp hw) (List.mem_of_getElem? (i := 11) rfl) R9.1 (vs := ((([] : List Int32).map (fun c => c.toInt8.toInt32)).map Value.int)) (z := (0 : Int32)) ⟨by decide, by rfl⟩ (by decide) rfl (g := (mkF m 18 #[rv a, rv b, iv (0 : Int32), iv (0 : Int32), .val .null, uu] [(.ref a)])) rfl (hb hby d0_18) (n := 0) (by decide) (by decide) (by decide) (by decide)
  have r11 : CHr Z jg T2.vm h8 T10.vm h10 := r10x
  have R11 := R9.trans r11
  have Z11 := nt Z9 E10.1
  have O11 := O9.ext E10
  have K11 := K9.ext E10
  have T10q : Str Z h10 a10 ([] : List Int32) := ⟨_, _, g10e, g10c, g10v, g10a⟩
  have zs12 := nt E2.1 (Keep.of_wr W8).1
  have f13 := (r11.safe (nu E_a.lt zs12) (r9.safe (nu E_a.lt E2.1) f4))
  refine gsW (S' := T10.setTop (mkF m 20 #[rv a, rv b, iv (0 : Int32), iv (0 : Int32), .val .null, uu] [(.ref a10), (.ref a)])) st10 ?_
  refine gFW X10 hx hZ hown (host := "") (Or.inl (ow hw 30 rfl)) Via.refl e10 g10c hby d0_20 fun T14 X14 e14 => ?_
  have f15 := (((F_c.ext E2).other W8 (Or.inr (slot_ne (Or.inr (ow hw 31 rfl)) (Or.inr (ow hw 33 rfl)) (by decide) (t := .byte) (t' := (.array .byte)) (by decide) (by decide)))).ext E10)
  have f16 := ((f7.wr W8).ext E10)
  obtain ⟨T17, h17, X17, e17, W17, st17⟩ := putFN X14 hx hZ hown (ow hw 30 rfl) Via.refl e14 f15 f16 (Or.inr ⟨(ow hw 31 rfl), rfl, hnm⟩) (ow hw 5 rfl) (ty := .byte) (v' := (.int (0 : Int32))) (by decide) rfl rfl (g := (mkF m 23 #[rv a, rv b, iv (0 : Int32), iv (0 : Int32), .val .null, uu] [(.int (0 : Int32)), (.ref a)])) rfl rfl (hb hby d0_23)
  have N17 := Fr.snoc X17 N8 g_a
  have Fw17 := f15.same W17
  have r18 : CHr Z jg T10.vm h10 T10.vm h17 := CHr.wr W17 f13 R11.1
  have R18 := R11.trans r18
  have Z18 := nt Z11 (Keep.of_wr W17).1
  have O18 := O11.wr W17 g_a
  have K18 := K11.wr W17 (Or.inl (List.mem_of_getElem? (i := 0) rfl))
  refine gsW (S' := T17.setTop (mkF m 26 #[rv a, rv b, iv (0 : Int32), iv (0 : Int32), .val .null, uu] [])) st17 ?_
  have f19 := (f16.wr W17)
  have f20 := ((Fw8.ext E10).other W17 (Or.inr (slot_ne (Or.inr (ow hw 33 rfl)) (Or.inr (ow hw 31 rfl)) (by decide) (t := (.array .byte)) (t' := .byte) (by decide) (by decide))))
  have f21 := (((g2a.other W8 (Ne.symm (ne2 _ f4).2)).ext E10).other W17 (Ne.symm (ne2 _ f4).2))
  refine goutW (v := none) X17 hS (nt hk10 (Keep.of_wr W17).1) hZ (jp hw) hh e17 R18 Bd.notSynchronized (fun _ => rfl) (by decide) (by decide) ?_ (fun fs hr => X17.returnOut hx Bd.returns (hb hby d0_26) hr)
  exact ⟨rfl, N17, K18, _, _, f19, Fw17, f20, f21⟩
theorem ef_16 (m : MethodId) (x0 : Addr) (x1 : Addr) : entryFrame m #[(.ref x0), (.ref x1)] 2 = mkF m 0 #[.val (.ref x0), .val (.ref x1)] [] := by first | (simp [entryFrame, mkF, argsToLocals, Value.category]; done) | rfl
abbrev oc1 := jdk_42_method_3_code
theorem d1_0 : decode oc1 0 = .ok (.aload_n 0, 1) := by decide +kernel
theorem d1_1 : decode oc1 1 = .ok (.aload_n 1, 1) := by decide +kernel
theorem d1_2 : decode oc1 2 = .ok (.iconst 0, 1) := by decide +kernel
theorem d1_3 : decode oc1 3 = .ok (.aload_n 1, 1) := by decide +kernel
theorem d1_4 : decode oc1 4 = .ok (.arraylength, 1) := by decide +kernel
theorem d1_5 : decode oc1 5 = .ok (.aconst_null, 1) := by decide +kernel
theorem d1_6 : decode oc1 6 = .ok (.invokespecial 27, 3) := by decide +kernel
theorem pd_25 : parseMethodDescriptor "([CIILjava/lang/Void;)V" = some ⟨[(.array .char), .int, .int, (.object "java/lang/Void")], none⟩ := by decide +kernel
theorem d1_9 : decode oc1 9 = .ok (.return_, 1) := by decide +kernel
theorem rm_s0 (l : Launch) (Z : State) (a0 : Array Value) (hw : HW Z a0) (ws : List Jvm.Cond) (a : Addr) (b : Addr) (kb : ClassId) (h0 : Heap) (n0 : Nat) (Z0 : n0 ≤ h0.size) (O0 : Old Z n0 h0) (E_a : Exa Z h0 a "java/lang/String") (F_v : Fld Z h0 a "java/lang/String" "value" "[B" .null) (F_c : Fld Z h0 a "java/lang/String" "coder" "B" (.int (0 : Int32))) (g_a : n0 ≤ a) (V_b : Arv Z h0 b kb .char (0 : Int32) [] (.int (0 : Int32))) :
    CtrW l Z jg my4 jdk_42_method_3_code 2 ((Option.none : Option Jvm.ClassFile.FieldType)) ws (⟨2, 4, 8, 30⟩ : Room) #[(.ref a), (.ref b)] h0 (fun v h L => v = none ∧ Fr n0 L ∧ Keep h0 h [a] ∧ Str Z h a []) := by
  refine CtrW.of (MetFree.of_bodySF (plainFor_of_name pn_15) hisR ?_)
  intro p e s m args below meth c s₁ Bd hml0 hP hK
  obtain ⟨rfl, hZ0, hh, hC⟩ := hP
  have hx := Bd.exec
  have hby := Bd.bytes
  have hml : c.maxLocals = 2 := hml0
  have hZ : Z.Warmed39 (s.setVm s.vm).vm := hZ0
  have hown : (s.setVm s.vm).vm.findClass "java/lang/String" = some m.cls := findClass_of_methodNamed Bd.named
  have hnm := (name_of_methodNamed Bd.named Bd.method).1
  have X0 : Stand p l e (⟨2, 4, 8, 30⟩ : Room) (s.setVm s.vm) m #[(.ref a), (.ref b)] below meth c s₁ [] 0 0 := Stand.of_body Bd
  have e0 : s₁.heap = h0 := by rw [← hh, Bd.state]; rfl
  have N0 := Fr.nil n0
  have K0 : Keep h0 h0 [a] := Keep.refl h0 [a]
  have hS : s.Since s.vm 0 := (State.WarmedH.refl s).since 0
  have hk : 0 ≤ h0.size := Nat.zero_le _
  have R0 : CHr Z jg s.vm h0 s.vm h0 := CHr.refl hC
  show OwnGoW p e below s Z jg (fun v h L => v = none ∧ Fr n0 L ∧ Keep h0 h [a] ∧ Str Z h a []) (⟨2, 4, 8, 30⟩ : Room).cells (⟨2, 4, 8, 30⟩ : Room).slots _
  refine gsW (S' := s₁.setTop (mkF m 0 #[rv a, rv b] [])) (fun tg kg => castTop (ef_16 m a b) kg) ?_
  refine gsW (fun _ k => ja X0 hx hby d1_0 rfl rfl (ja X0 hx hby d1_1 rfl rfl (je (v := (0 : Int32)) X0 hx hby d1_2 (ja X0 hx hby d1_3 rfl rfl k)))) ?_
  obtain ⟨cl1, A1, a1q, a1S, a1N, a1H, a1G⟩ := id V_b
  refine gsW (S' := s₁.setTop (mkF m 5 #[rv a, rv b] [(.int (0 : Int32)), (.int (0 : Int32)), (.ref b), (.ref a)])) (fun _ k => by refine X0.arraylength hx (by rw [e0]; exact A1.1) (State.isArrayOf_alike hZ.alike A1.2.1) (g := (mkF m 4 #[rv a, rv b] [(.ref b), (.int (0 : Int32)), (.ref b), (.ref a)])) rfl rfl (hb hby d1_4) _ ?_; rw [len_of a1S a1N]; exact k) ?_
  refine gsW (fun _ k => o_aconstNull X0 hx hby d1_5 k) ?_
  refine cIS (rest := []) X0 hx hS hk hZ hown rfl (ow hw 11 rfl) (ow hw 12 rfl) (ow hw 6 rfl) (ow hw 14 rfl) (rm_sv0 l Z a0 hw [] a b h0 n0 Z0 O0 E_a F_v F_c g_a) (jp hw) R0.1 hby d1_6 e0 pd_25 0 (by rw [hml]; rfl) rfl rfl rfl rfl (by decide) (by decide) fun _ T2 Lc2 X2 hS hZ hown hQ2 rq2 => ?_
  obtain ⟨rfl, N2q, K2q, T2q⟩ := hQ2
  have N2 := Fr.app N0 N2q
  have r3 : CHr Z jg s.vm h0 T2.vm T2.heap := rq2
  have R3 := R0.trans r3
  have Z3 := nt Z0 K2q.1
  have O3 := O0.keep K2q (allS g_a all0)
  have K3 := K0.trans K2q (allS (Or.inl (List.mem_of_getElem? (i := 0) rfl)) all0)
  refine goutW (v := none) X2 hS (Nat.le_refl T2.heap.size) hZ (jp hw) hh rfl R3 Bd.notSynchronized (fun _ => rfl) (by decide) (by decide) ?_ (fun fs hr => X2.returnOut hx Bd.returns (hb hby d1_9) hr)
  exact ⟨rfl, N2, K3, T2q⟩
theorem ef_27 (m : MethodId) (x0 : Int32) (x1 : Int32) : entryFrame m #[(.int x0), (.int x1)] 2 = mkF m 0 #[.val (.int x0), .val (.int x1)] [] := by first | (simp [entryFrame, mkF, argsToLocals, Value.category]; done) | rfl
abbrev oc2 := jdk_29_method_65_code
theorem d2_0 : decode oc2 0 = .ok (.iload_n 0, 1) := by decide +kernel
theorem d2_1 : decode oc2 1 = .ok (.iload_n 1, 1) := by decide +kernel
theorem d2_2 : decode oc2 2 = .ok (.if_icmp .lt 7, 3) := by decide +kernel
theorem d2_9 : decode oc2 9 = .ok (.iload_n 1, 1) := by decide +kernel
theorem d2_10 : decode oc2 10 = .ok (.ireturn, 1) := by decide +kernel
theorem d2_5 : decode oc2 5 = .ok (.iload_n 0, 1) := by decide +kernel
theorem d2_6 : decode oc2 6 = .ok (.goto 4, 3) := by decide +kernel
theorem rm_mx (l : Launch) (Z : State) (a0 : Array Value) (hw : HW Z a0) (ws : List Jvm.Cond) (p1 : Int32) (p2 : Int32) (h0 : Heap) (n0 : Nat) (Z0 : n0 ≤ h0.size) (O0 : Old Z n0 h0)  :
    Ctr l Z my7 jdk_29_method_65_code 2 ((Option.some Jvm.ClassFile.FieldType.int)) ws (⟨0, 0, 0, 0⟩ : Room) #[(.int p1), (.int p2)] h0 (fun v h L => v = some (.int (if p1 < p2 then p2 else p1)) ∧ Fr n0 L ∧ h = h0) := by
  refine Ctr.go own_pf1 fun p e s m below meth c s₁ Bd hx hby hml hZ hown hnm X0 e0 => ?_
  have N0 := Fr.nil n0
  have K0 := Keep.refl h0 []
  refine gs (S' := s₁.setTop (mkF m 0 #[iv p1, iv p2] [])) (fun tg kg => castTop (ef_27 m p1 p2) kg) ?_
  refine gs (fun _ k => jb X0 hx hby d2_0 rfl (jb X0 hx hby d2_1 rfl k)) ?_
  by_cases hc1 : p1 < p2
  · refine gs (fun _ k => jh (pc' := 9) X0 hx hby d2_2 (tlt hc1).1 (jb X0 hx hby d2_9 rfl k)) ?_
    refine gout (v := some (.int p2)) X0 Bd.notSynchronized (fun h => by rw [Bd.returns] at h; cases h) (by decide) (by decide) ?_ (fun fs hr => retI X0 hx Bd.returns (hb hby d2_10) hr)
    rw [e0]
    exact ⟨by rw [if_pos hc1], N0, rfl⟩
  · refine gs (fun _ k => ji X0 hx hby d2_2 (flt hc1).1 (jb X0 hx hby d2_5 rfl (jl (pc' := 10) X0 hx hby d2_6 k))) ?_
    refine gout (v := some (.int p1)) X0 Bd.notSynchronized (fun h => by rw [Bd.returns] at h; cases h) (by decide) (by decide) ?_ (fun fs hr => retI X0 hx Bd.returns (hb hby d2_10) hr)
    rw [e0]
    exact ⟨by rw [if_neg hc1], N0, rfl⟩
abbrev oc3 := jdk_29_method_69_code
theorem d3_0 : decode oc3 0 = .ok (.iload_n 0, 1) := by decide +kernel
theorem d3_1 : decode oc3 1 = .ok (.iload_n 1, 1) := by decide +kernel
theorem d3_2 : decode oc3 2 = .ok (.if_icmp .gt 7, 3) := by decide +kernel
theorem d3_5 : decode oc3 5 = .ok (.iload_n 0, 1) := by decide +kernel
theorem d3_6 : decode oc3 6 = .ok (.goto 4, 3) := by decide +kernel
theorem d3_10 : decode oc3 10 = .ok (.ireturn, 1) := by decide +kernel
theorem rm_mn (l : Launch) (Z : State) (a0 : Array Value) (hw : HW Z a0) (ws : List Jvm.Cond) (p1 : Int32) (p2 : Int32) (h0 : Heap) (n0 : Nat) (Z0 : n0 ≤ h0.size) (O0 : Old Z n0 h0) (hp : ¬ p2 < p1) :
    Ctr l Z my5 jdk_29_method_69_code 2 ((Option.some Jvm.ClassFile.FieldType.int)) ws (⟨0, 0, 0, 0⟩ : Room) #[(.int p1), (.int p2)] h0 (fun v h L => v = some (.int p1) ∧ Fr n0 L ∧ h = h0) := by
  refine Ctr.go own_pf2 fun p e s m below meth c s₁ Bd hx hby hml hZ hown hnm X0 e0 => ?_
  have N0 := Fr.nil n0
  have K0 := Keep.refl h0 []
  refine gs (S' := s₁.setTop (mkF m 0 #[iv p1, iv p2] [])) (fun tg kg => castTop (ef_27 m p1 p2) kg) ?_
  refine gs (fun _ k => jb X0 hx hby d3_0 rfl (jb X0 hx hby d3_1 rfl (ji X0 hx hby d3_2 (flt hp).2.2.1 (jb X0 hx hby d3_5 rfl (jl (pc' := 10) X0 hx hby d3_6 k))))) ?_
  refine gout (v := some (.int p1)) X0 Bd.notSynchronized (fun h => by rw [Bd.returns] at h; cases h) (by decide) (by decide) ?_ (fun fs hr => retI X0 hx Bd.returns (hb hby d3_10) hr)
  rw [e0]
  exact ⟨rfl, N0, rfl⟩
theorem d3_9 : decode oc3 9 = .ok (.iload_n 1, 1) := by decide +kernel
theorem rm_m2 (l : Launch) (Z : State) (a0 : Array Value) (hw : HW Z a0) (ws : List Jvm.Cond) (p1 : Int32) (p2 : Int32) (h0 : Heap) (n0 : Nat) (Z0 : n0 ≤ h0.size) (O0 : Old Z n0 h0) (hp : p2 < p1) :
    Ctr l Z my5 jdk_29_method_69_code 2 ((Option.some Jvm.ClassFile.FieldType.int)) ws (⟨0, 0, 0, 0⟩ : Room) #[(.int p1), (.int p2)] h0 (fun v h L => v = some (.int p2) ∧ Fr n0 L ∧ h = h0) := by
  refine Ctr.go own_pf2 fun p e s m below meth c s₁ Bd hx hby hml hZ hown hnm X0 e0 => ?_
  have N0 := Fr.nil n0
  have K0 := Keep.refl h0 []
  refine gs (S' := s₁.setTop (mkF m 0 #[iv p1, iv p2] [])) (fun tg kg => castTop (ef_27 m p1 p2) kg) ?_
  refine gs (fun _ k => jb X0 hx hby d3_0 rfl (jb X0 hx hby d3_1 rfl (jh (pc' := 9) X0 hx hby d3_2 (tlt hp).2.2.1 (jb X0 hx hby d3_9 rfl k)))) ?_
  refine gout (v := some (.int p2)) X0 Bd.notSynchronized (fun h => by rw [Bd.returns] at h; cases h) (by decide) (by decide) ?_ (fun fs hr => retI X0 hx Bd.returns (hb hby d3_10) hr)
  rw [e0]
  exact ⟨rfl, N0, rfl⟩
theorem ef_46 (m : MethodId) (x0 : Int32) (x1 : Int32) (x2 : Int32) : entryFrame m #[(.int x0), (.int x1), (.int x2)] 4 = mkF m 0 #[.val (.int x0), .val (.int x1), .val (.int x2), .unset] [] := by first | (simp [entryFrame, mkF, argsToLocals, Value.category]; done) | rfl
abbrev oc4 := jdk_48_method_27_code
theorem d4_0 : decode oc4 0 = .ok (.iload_n 0, 1) := by decide +kernel
theorem d4_1 : decode oc4 1 = .ok (.iload_n 1, 1) := by decide +kernel
theorem d4_2 : decode oc4 2 = .ok (.iload_n 2, 1) := by decide +kernel
theorem d4_3 : decode oc4 3 = .ok (.invokestatic 194, 3) := by decide +kernel
theorem pd_52 : parseMethodDescriptor "(II)I" = some ⟨[.int, .int], some .int⟩ := by decide +kernel
theorem d4_6 : decode oc4 6 = .ok (.iadd, 1) := by decide +kernel
theorem d4_7 : decode oc4 7 = .ok (.istore_n 3, 1) := by decide +kernel
theorem d4_8 : decode oc4 8 = .ok (.iconst 0, 1) := by decide +kernel
theorem d4_9 : decode oc4 9 = .ok (.iload_n 3, 1) := by decide +kernel
theorem d4_10 : decode oc4 10 = .ok (.if_icmp .ge 11, 3) := by decide +kernel
theorem d4_13 : decode oc4 13 = .ok (.iload_n 3, 1) := by decide +kernel
theorem d4_14 : decode oc4 14 = .ok (.ldc 200, 2) := by decide +kernel
theorem d4_16 : decode oc4 16 = .ok (.if_icmp .gt 5, 3) := by decide +kernel
theorem d4_19 : decode oc4 19 = .ok (.iload_n 3, 1) := by decide +kernel
theorem d4_20 : decode oc4 20 = .ok (.ireturn, 1) := by decide +kernel
theorem pn_63 : plainName "jdk/internal/util/ArraysSupport" = true := by first | (simp [plainName, overriddenIn]; done) | decide +kernel
theorem rm_nl (l : Launch) (Z : State) (a0 : Array Value) (hw : HW Z a0) (ws : List Jvm.Cond) (o : Int32) (gr : Int32) (pr : Int32) (A : Nat) (B : Nat) (C : Nat) (rs : Nat) (h0 : Heap) (n0 : Nat) (Z0 : n0 ≤ h0.size) (O0 : Old Z n0 h0) (hA : A ≤ 1000) (hB : B ≤ 1000) (hC : C ≤ 1000) (eo : o = oI A) (eg : gr = oI B) (ep : pr = oI C) (er : rs = A + max B C) (hr0 : 0 < rs) :
    Ctr l Z (⟨"jdk/internal/util/ArraysSupport", "newLength", "(III)I"⟩ : MethodName) jdk_48_method_27_code 4 ((Option.some Jvm.ClassFile.FieldType.int)) ws (⟨1, 0, 0, 14⟩ : Room) #[(.int o), (.int gr), (.int pr)] h0 (fun v h L => v = some (.int (oI rs)) ∧ Fr n0 L ∧ h = h0) := by
  refine Ctr.go (plainFor_of_name pn_63) fun p e s m below meth c s₁ Bd hx hby hml hZ hown hnm X0 e0 => ?_
  have N0 := Fr.nil n0
  have K0 := Keep.refl h0 []
  refine gs (S' := s₁.setTop (mkF m 0 #[iv o, iv gr, iv pr, uu] [])) (fun tg kg => castTop (ef_46 m o gr pr) kg) ?_
  refine gs (fun _ k => jb X0 hx hby d4_0 rfl (jb X0 hx hby d4_1 rfl (jb X0 hx hby d4_2 rfl k))) ?_
  refine cS (rest := [(.int o)]) X0 hx hZ hown (ow hw 123 rfl) (ow hw 124 rfl) (ow hw 125 rfl) (ow hw 126 rfl) (rm_mx l Z a0 hw [] gr pr h0 n0 Z0 O0 ) hby d4_3 e0 pd_52 1 (by rw [hml]; rfl) rfl rfl rfl rfl (by decide) (by decide) fun _ T1 Lc1 X1 hQ1 => ?_
  obtain ⟨rfl, N1q, e1q⟩ := hQ1
  have N1 := Fr.app N0 N1q
  refine gs (fun _ k => jI X1 hx hby d4_6 (jF X1 hx hby d4_7 rfl (je (v := (0 : Int32)) X1 hx hby d4_8 (jb X1 hx hby d4_9 rfl (ji X1 hx hby d4_10 (tlt (by rw [own_nlen3 hA hB hC eo eg ep er]; exact (own_small (by omega) hr0).1)).2.1 (jb X1 hx hby d4_13 rfl (X1.ldcInt hx hown (mvT hZ (ow hw 127 rfl)) (g := (mkF m 14 #[iv o, iv gr, iv pr, iv ((o + (if gr < pr then pr else gr)))] [(.int (o + (if gr < pr then pr else gr)))])) rfl (hb hby d4_14) _ (ji X1 hx hby d4_16 (flt (by rw [own_nlen3 hA hB hC eo eg ep er]; exact (own_small (by omega) hr0).2.1)).2.2.1 (jb X1 hx hby d4_19 rfl k))))))))) ?_
  refine gout (v := some (.int (o + (if gr < pr then pr else gr)))) X1 Bd.notSynchronized (fun h => by rw [Bd.returns] at h; cases h) (by decide) (by decide) ?_ (fun fs hr => retI X1 hx Bd.returns (hb hby d4_20) hr)
  rw [e1q]
  exact ⟨congrArg (fun q => some (Value.int q)) (own_nlen3 hA hB hC eo eg ep er), N1, rfl⟩
theorem ef_64 (m : MethodId) (x0 : Addr) (x1 : Int32) : entryFrame m #[(.ref x0), (.int x1)] 6 = mkF m 0 #[.val (.ref x0), .val (.int x1), .unset, .unset, .unset, .unset] [] := by first | (simp [entryFrame, mkF, argsToLocals, Value.category]; done) | rfl
abbrev oc5 := jdk_68_method_10_code
theorem d5_0 : decode oc5 0 = .ok (.aload_n 0, 1) := by decide +kernel
theorem d5_1 : decode oc5 1 = .ok (.getfield 15, 3) := by decide +kernel
theorem d5_4 : decode oc5 4 = .ok (.arraylength, 1) := by decide +kernel
theorem d5_5 : decode oc5 5 = .ok (.istore_n 2, 1) := by decide +kernel
theorem d5_6 : decode oc5 6 = .ok (.iload_n 1, 1) := by decide +kernel
theorem d5_7 : decode oc5 7 = .ok (.aload_n 0, 1) := by decide +kernel
theorem d5_8 : decode oc5 8 = .ok (.getfield 22, 3) := by decide +kernel
theorem d5_11 : decode oc5 11 = .ok (.ishl, 1) := by decide +kernel
theorem d5_12 : decode oc5 12 = .ok (.istore_n 3, 1) := by decide +kernel
theorem d5_13 : decode oc5 13 = .ok (.iload_n 3, 1) := by decide +kernel
theorem d5_14 : decode oc5 14 = .ok (.iload_n 2, 1) := by decide +kernel
theorem d5_15 : decode oc5 15 = .ok (.isub, 1) := by decide +kernel
theorem d5_16 : decode oc5 16 = .ok (.istore 4, 2) := by decide +kernel
theorem d5_18 : decode oc5 18 = .ok (.iload_n 2, 1) := by decide +kernel
theorem d5_19 : decode oc5 19 = .ok (.iload 4, 2) := by decide +kernel
theorem d5_21 : decode oc5 21 = .ok (.iload_n 2, 1) := by decide +kernel
theorem d5_22 : decode oc5 22 = .ok (.iconst 2, 1) := by decide +kernel
theorem d5_23 : decode oc5 23 = .ok (.aload_n 0, 1) := by decide +kernel
theorem d5_24 : decode oc5 24 = .ok (.getfield 22, 3) := by decide +kernel
theorem d5_27 : decode oc5 27 = .ok (.ishl, 1) := by decide +kernel
theorem d5_28 : decode oc5 28 = .ok (.iadd, 1) := by decide +kernel
theorem d5_29 : decode oc5 29 = .ok (.invokestatic 114, 3) := by decide +kernel
theorem pd_88 : parseMethodDescriptor "(III)I" = some ⟨[.int, .int, .int], some .int⟩ := by decide +kernel
theorem d5_32 : decode oc5 32 = .ok (.istore 5, 2) := by decide +kernel
theorem d5_34 : decode oc5 34 = .ok (.iload 5, 2) := by decide +kernel
theorem d5_36 : decode oc5 36 = .ok (.ldc 39, 2) := by decide +kernel
theorem d5_38 : decode oc5 38 = .ok (.if_icmp .ne 13, 3) := by decide +kernel
theorem d5_51 : decode oc5 51 = .ok (.iload 5, 2) := by decide +kernel
theorem d5_53 : decode oc5 53 = .ok (.aload_n 0, 1) := by decide +kernel
theorem d5_54 : decode oc5 54 = .ok (.getfield 22, 3) := by decide +kernel
theorem d5_57 : decode oc5 57 = .ok (.ishr, 1) := by decide +kernel
theorem d5_58 : decode oc5 58 = .ok (.ireturn, 1) := by decide +kernel
theorem pn_98 : plainName "java/lang/AbstractStringBuilder" = true := by first | (simp [plainName, overriddenIn]; done) | decide +kernel
theorem rm_nc (l : Launch) (Z : State) (a0 : Array Value) (hw : HW Z a0) (ws : List Jvm.Cond) (b : Addr) (t : Addr) (kb : ClassId) (vs : List Value) (cd : Int32) (nv : Int32) (N : Nat) (K : Nat) (h0 : Heap) (n0 : Nat) (Z0 : n0 ≤ h0.size) (O0 : Old Z n0 h0) (B0 : BB Z h0 b t kb cd nv (oI (jk cd N)) vs) (hcd : cd = 0 ∨ cd = 1) (hN : N ≤ 36) (hKk : K ≤ 18) (hKN : ¬ K ≤ N) :
    Ctr l Z (⟨"java/lang/AbstractStringBuilder", "newCapacity", "(I)I"⟩ : MethodName) jdk_68_method_10_code 6 ((Option.some Jvm.ClassFile.FieldType.int)) ws (⟨2, 0, 0, 29⟩ : Room) #[(.ref b), (.int (oI K))] h0 (fun v h L => v = some (.int (oI (jz N K))) ∧ Fr n0 L ∧ h = h0) := by
  refine Ctr.go (plainFor_of_name pn_98) fun p e s m below meth c s₁ Bd hx hby hml hZ hown hnm X0 e0 => ?_
  have N0 := Fr.nil n0
  have K0 := Keep.refl h0 []
  refine gs (S' := s₁.setTop (mkF m 0 #[rv b, iv (oI K), uu, uu, uu, uu] [])) (fun tg kg => castTop (ef_64 m b (oI K)) kg) ?_
  obtain ⟨E_b, F_v, F_c, F_n, F_m, E_t, V_t⟩ := id B0
  have gb := own_gr36 hKk hKN
  have gq := jL (cd := cd) (jz N K)
  refine gs (fun _ k => ja X0 hx hby d5_0 rfl rfl k) ?_
  refine gF X0 hx hZ hown (host := "") (Or.inl (ow hw 69 rfl)) Via.refl e0 F_v hby d5_1 fun T1 X1 e1 => ?_
  obtain ⟨cl2, A2, a2q, a2S, a2N, a2H, a2G⟩ := id V_t
  refine gs (S' := T1.setTop (mkF m 5 #[rv b, iv (oI K), uu, uu, uu, uu] [(.int (oI (jk cd N)))])) (fun _ k => by refine X1.arraylength hx (by rw [e1]; exact A2.1) (State.isArrayOf_alike hZ.alike A2.2.1) (g := (mkF m 4 #[rv b, iv (oI K), uu, uu, uu, uu] [(.ref t)])) rfl rfl (hb hby d5_4) _ ?_; rw [len_of a2S a2N]; exact k) ?_
  refine gs (fun _ k => jF X1 hx hby d5_5 rfl (jb X1 hx hby d5_6 rfl (ja X1 hx hby d5_7 rfl rfl k))) ?_
  refine gF X1 hx hZ hown (host := "") (Or.inl (ow hw 71 rfl)) Via.refl e1 F_c hby d5_8 fun T3 X3 e3 => ?_
  refine gs (fun _ k => o_ishl X3 hx hby d5_11 (jF X3 hx hby d5_12 rfl (jb X3 hx hby d5_13 rfl (jb X3 hx hby d5_14 rfl (jO X3 hx hby d5_15 (jj X3 hx hby d5_16 rfl (jb X3 hx hby d5_18 rfl (jd X3 hx hby d5_19 rfl (jb X3 hx hby d5_21 rfl (je (v := (2 : Int32)) X3 hx hby d5_22 (ja X3 hx hby d5_23 rfl rfl k))))))))))) ?_
  refine gF X3 hx hZ hown (host := "") (Or.inl (ow hw 71 rfl)) Via.refl e3 F_c hby d5_24 fun T4 X4 e4 => ?_
  refine gs (fun _ k => o_ishl X4 hx hby d5_27 (jI X4 hx hby d5_28 k)) ?_
  refine cS (rest := []) X4 hx hZ hown (ow hw 119 rfl) (ow hw 120 rfl) (ow hw 121 rfl) (ow hw 122 rfl) (rm_nl l Z a0 hw [] (oI (jk cd N)) (((oI K) <<< (cd &&& 31)) - (oI (jk cd N))) ((oI (jk cd N)) + ((2 : Int32) <<< (cd &&& 31))) (jk cd N) (jk cd K - jk cd N) (jk cd N + jk cd 2) (jk cd (jz N K)) h0 n0 Z0 O0 (by have q := jL (cd := cd) N; have q2 := jL (cd := cd) K; have q3 := jL (cd := cd) 2; omega) (by have q := jL (cd := cd) N; have q2 := jL (cd := cd) K; have q3 := jL (cd := cd) 2; omega) (by have q := jL (cd := cd) N; have q2 := jL (cd := cd) K; have q3 := jL (cd := cd) 2; omega) rfl (own_egC hcd (by omega) hKN) (own_epC hcd N) (own_grC hcd hKN) (by omega)) hby d5_29 e4 pd_88 0 (by rw [hml]; rfl) rfl rfl rfl rfl (by decide) (by decide) fun _ T5 Lc5 X5 hQ5 => ?_
  obtain ⟨rfl, N5q, e5q⟩ := hQ5
  have N5 := Fr.app N0 N5q
  refine gs (fun _ k => jj X5 hx hby d5_32 rfl (jd X5 hx hby d5_34 rfl (X5.ldcInt hx hown (mvT hZ (ow hw 128 rfl)) (g := (mkF m 36 #[rv b, iv (oI K), iv ((oI (jk cd N))), iv (((oI K) <<< (cd &&& 31))), iv ((((oI K) <<< (cd &&& 31)) - (oI (jk cd N)))), iv ((oI (jk cd (jz N K))))] [(.int (oI (jk cd (jz N K))))])) rfl (hb hby d5_36) _ (jh (pc' := 51) X5 hx hby d5_38 (feq (own_small (by omega) (by omega)).2.2.1).2 (jd X5 hx hby d5_51 rfl (ja X5 hx hby d5_53 rfl rfl k)))))) ?_
  refine gF X5 hx hZ hown (host := "") (Or.inl (ow hw 71 rfl)) Via.refl e5q F_c hby d5_54 fun T6 X6 e6 => ?_
  refine gs (fun _ k => o_ishr X6 hx hby d5_57 k) ?_
  refine gout (v := some (.int ((oI (jk cd (jz N K))) >>> (cd &&& 31)))) X6 Bd.notSynchronized (fun h => by rw [Bd.returns] at h; cases h) (by decide) (by decide) ?_ (fun fs hr => retI X6 hx Bd.returns (hb hby d5_58) hr)
  rw [e6]
  exact ⟨congrArg (fun q => some (Value.int q)) (own_shrC hcd (n := jz N K) (by omega)), N5, rfl⟩
theorem ef_99 (m : MethodId) (x0 : Addr) (x1 : Int32) : entryFrame m #[(.ref x0), (.int x1)] 3 = mkF m 0 #[.val (.ref x0), .val (.int x1), .unset] [] := by first | (simp [entryFrame, mkF, argsToLocals, Value.category]; done) | rfl
abbrev oc6 := jdk_65_method_121_code
theorem d6_0 : decode oc6 0 = .ok (.iload_n 1, 1) := by decide +kernel
theorem d6_1 : decode oc6 1 = .ok (.aload_n 0, 1) := by decide +kernel
theorem d6_2 : decode oc6 2 = .ok (.arraylength, 1) := by decide +kernel
theorem d6_3 : decode oc6 3 = .ok (.if_icmp .ne 11, 3) := by decide +kernel
theorem d6_14 : decode oc6 14 = .ok (.iload_n 1, 1) := by decide +kernel
theorem d6_15 : decode oc6 15 = .ok (.newarray .byte, 2) := by decide +kernel
theorem d6_17 : decode oc6 17 = .ok (.astore_n 2, 1) := by decide +kernel
theorem d6_18 : decode oc6 18 = .ok (.aload_n 0, 1) := by decide +kernel
theorem d6_19 : decode oc6 19 = .ok (.iconst 0, 1) := by decide +kernel
theorem d6_20 : decode oc6 20 = .ok (.aload_n 2, 1) := by decide +kernel
theorem d6_21 : decode oc6 21 = .ok (.iconst 0, 1) := by decide +kernel
theorem d6_22 : decode oc6 22 = .ok (.aload_n 0, 1) := by decide +kernel
theorem d6_23 : decode oc6 23 = .ok (.arraylength, 1) := by decide +kernel
theorem d6_24 : decode oc6 24 = .ok (.iload_n 1, 1) := by decide +kernel
theorem d6_25 : decode oc6 25 = .ok (.invokestatic 304, 3) := by decide +kernel
theorem d6_28 : decode oc6 28 = .ok (.invokestatic 150, 3) := by decide +kernel
theorem d6_31 : decode oc6 31 = .ok (.aload_n 2, 1) := by decide +kernel
theorem d6_32 : decode oc6 32 = .ok (.areturn, 1) := by decide +kernel
theorem pn_119 : plainName "java/util/Arrays" = true := by first | (simp [plainName, overriddenIn]; done) | decide +kernel
theorem rm_co (l : Launch) (Z : State) (a0 : Array Value) (hw : HW Z a0) (ws : List Jvm.Cond) (t : Addr) (kb : ClassId) (vs : List Value) (M : Nat) (G : Nat) (h0 : Heap) (n0 : Nat) (Z0 : n0 ≤ h0.size) (O0 : Old Z n0 h0) (V_t : Arv Z h0 t kb .byte (oI M) vs (.int (0 : Int32))) (hvl : vs.length ≤ M) (hMG : M < G) (hG : G ≤ 200) :
    Ctr l Z (⟨"java/util/Arrays", "copyOf", "([BI)[B"⟩ : MethodName) jdk_65_method_121_code 3 ((Option.some (Jvm.ClassFile.FieldType.array Jvm.ClassFile.FieldType.byte))) ws (⟨1, 1, 200, 18⟩ : Room) #[(.ref t), (.int (oI G))] h0 (fun v h L => ∃ (t1 : Addr) (k1 : ClassId), v = some (.ref t1) ∧ Fr n0 L ∧ Keep h0 h [] ∧ h0.size ≤ t1 ∧ Exa Z h t1 "[B" ∧ Arv Z h t1 k1 .byte (oI G) vs (.int (0 : Int32))) := by
  refine Ctr.go (plainFor_of_name pn_119) fun p e s m below meth c s₁ Bd hx hby hml hZ hown hnm X0 e0 => ?_
  have N0 := Fr.nil n0
  have K0 := Keep.refl h0 []
  refine gs (S' := s₁.setTop (mkF m 0 #[rv t, iv (oI G), uu] [])) (fun tg kg => castTop (ef_99 m t (oI G)) kg) ?_
  refine gs (fun _ k => jb X0 hx hby d6_0 rfl (ja X0 hx hby d6_1 rfl rfl k)) ?_
  obtain ⟨cl1, A1, a1q, a1S, a1N, a1H, a1G⟩ := id V_t
  refine gs (S' := s₁.setTop (mkF m 3 #[rv t, iv (oI G), uu] [(.int (oI M)), (.int (oI G))])) (fun _ k => by refine X0.arraylength hx (by rw [e0]; exact A1.1) (State.isArrayOf_alike hZ.alike A1.2.1) (g := (mkF m 2 #[rv t, iv (oI G), uu] [(.ref t), (.int (oI G))])) rfl rfl (hb hby d6_2) _ ?_; rw [len_of a1S a1N]; exact k) ?_
  refine gs (fun _ k => jh (pc' := 14) X0 hx hby d6_3 (feq (own_ne32 (by omega) (by omega) (by omega))).2 (jb X0 hx hby d6_14 rfl k)) ?_
  obtain ⟨T2, h2, k2, X2, e2, E2, A2, Ex2, st2⟩ := newPE X0 hx hZ (ow hw 23 rfl) e0 (g := (mkF m 15 #[rv t, iv (oI G), uu] [(.int (oI G))])) rfl (hb hby d6_15) rfl (js (by omega)) (cap := 200) (own_nc hG (by omega)) (by decide) (by decide) (by decide) (ad := "[B") rfl
  obtain ⟨b2, q2⟩ : ∃ z, z = h0.size := ⟨_, rfl⟩
  rw [← q2] at A2 st2 Ex2
  have g_b2 : n0 ≤ b2 := nt Z0 (Nat.le_of_eq q2.symm)
  have sz_b2 : h0.size ≤ b2 := nt K0.1 (Nat.le_of_eq q2.symm)
  have Z3 := nt Z0 E2.1
  have O3 := O0.ext E2
  have K3 := K0.ext E2
  have V2 : Arv Z h2 b2 k2 .byte (oI G) [] (.int (0 : Int32)) := Arv.new A2 (js (by omega))
  refine gs (S' := T2.setTop (mkF m 17 #[rv t, iv (oI G), uu] [(.ref b2)])) st2 ?_
  refine gs (fun _ k => jw X2 hx hby d6_17 rfl rfl (ja X2 hx hby d6_18 rfl rfl (je (v := (0 : Int32)) X2 hx hby d6_19 (ja X2 hx hby d6_20 rfl rfl (je (v := (0 : Int32)) X2 hx hby d6_21 (ja X2 hx hby d6_22 rfl rfl k)))))) ?_
  have f4 := (V_t.ext E2)
  obtain ⟨cl5, A5, a5q, a5S, a5N, a5H, a5G⟩ := id f4
  refine gs (S' := T2.setTop (mkF m 24 #[rv t, iv (oI G), rv b2] [(.int (oI M)), (.int (0 : Int32)), (.ref b2), (.int (0 : Int32)), (.ref t)])) (fun _ k => by refine X2.arraylength hx (by rw [e2]; exact A5.1) (State.isArrayOf_alike hZ.alike A5.2.1) (g := (mkF m 23 #[rv t, iv (oI G), rv b2] [(.ref t), (.int (0 : Int32)), (.ref b2), (.int (0 : Int32)), (.ref t)])) rfl rfl (hb hby d6_23) _ ?_; rw [len_of a5S a5N]; exact k) ?_
  refine gs (fun _ k => jb X2 hx hby d6_24 rfl k) ?_
  refine cS (rest := [(.int (0 : Int32)), (.ref b2), (.int (0 : Int32)), (.ref t)]) X2 hx hZ hown (ow hw 133 rfl) (ow hw 134 rfl) (ow hw 125 rfl) (ow hw 135 rfl) (rm_mn l Z a0 hw [] (oI M) (oI G) h2 n0 Z3 O3 (own_nlt32 (by omega) (by omega))) hby d6_25 e2 pd_52 4 (by rw [hml]; rfl) rfl rfl rfl rfl (by decide) (by decide) fun _ T6 Lc6 X6 hQ6 => ?_
  obtain ⟨rfl, N6q, e6q⟩ := hQ6
  have N6 := Fr.app N0 N6q
  obtain ⟨T7, h7, L7, X7, e7, N7, K7q, V7, st7⟩ := own_cpv X6 hx hZ hown (ow hw 136 rfl) (ow hw 139 rfl) (ow hw 137 rfl) (ow hw 138 rfl) e6q f4 V2 M G M rfl rfl rfl rfl (by omega) (by omega) hvl (Nat.le_refl _) (by show 0 + M ≤ G; omega) N6 g_b2 (g := (mkF m 28 #[rv t, iv (oI G), rv b2] [(.int (oI M)), (.int (0 : Int32)), (.ref b2), (.int (0 : Int32)), (.ref t)])) rfl (by rw [hml]; rfl) rfl (hb hby d6_28) (by decide) (W := 0) (jK rfl) (by decide)
  have Z8 := nt Z3 K7q.1
  have O8 := O3.keep K7q (allS g_b2 all0)
  have K8 := K3.trans K7q (allS (Or.inr sz_b2) all0)
  refine gs (S' := T7.setTop (mkF m 31 #[rv t, iv (oI G), rv b2] [])) st7 ?_
  refine gs (fun _ k => ja X7 hx hby d6_31 rfl rfl k) ?_
  have f9 := (Ex2.keep K7q)
  refine gout (v := some (.ref b2)) X7 Bd.notSynchronized (fun h => by rw [Bd.returns] at h; cases h) (by decide) (by decide) ?_ (fun fs hr => retOut X7 hx Bd.returns rfl (Or.inr (Or.inr (Or.inr (Or.inr ⟨rfl, rfl, rfl⟩)))) (hb hby d6_32) hr)
  rw [e7]
  exact ⟨_, _, rfl, N7, K8, sz_b2, f9, V7⟩
abbrev oc7 := jdk_68_method_9_code
theorem d7_0 : decode oc7 0 = .ok (.aload_n 0, 1) := by decide +kernel
theorem d7_1 : decode oc7 1 = .ok (.getfield 15, 3) := by decide +kernel
theorem d7_4 : decode oc7 4 = .ok (.arraylength, 1) := by decide +kernel
theorem d7_5 : decode oc7 5 = .ok (.aload_n 0, 1) := by decide +kernel
theorem d7_6 : decode oc7 6 = .ok (.getfield 22, 3) := by decide +kernel
theorem d7_9 : decode oc7 9 = .ok (.ishr, 1) := by decide +kernel
theorem d7_10 : decode oc7 10 = .ok (.istore_n 2, 1) := by decide +kernel
theorem d7_11 : decode oc7 11 = .ok (.iload_n 1, 1) := by decide +kernel
theorem d7_12 : decode oc7 12 = .ok (.iload_n 2, 1) := by decide +kernel
theorem d7_13 : decode oc7 13 = .ok (.isub, 1) := by decide +kernel
theorem d7_14 : decode oc7 14 = .ok (.ifCond .le 24, 3) := by decide +kernel
theorem d7_38 : decode oc7 38 = .ok (.return_, 1) := by decide +kernel
theorem rm_enR (l : Launch) (Z : State) (a0 : Array Value) (hw : HW Z a0) (ws : List Jvm.Cond) (b : Addr) (t : Addr) (kb : ClassId) (vs : List Value) (cd : Int32) (nv : Int32) (N : Nat) (K : Nat) (h0 : Heap) (n0 : Nat) (Z0 : n0 ≤ h0.size) (O0 : Old Z n0 h0) (B0 : BB Z h0 b t kb cd nv (oI (jk cd N)) vs) (hcd : cd = 0 ∨ cd = 1) (hN : N ≤ 36) (hKk : K ≤ 18) (hKN : K ≤ N) :
    Ctr l Z my8 jdk_68_method_9_code 3 ((Option.none : Option Jvm.ClassFile.FieldType)) ws (⟨0, 0, 0, 0⟩ : Room) #[(.ref b), (.int (oI K))] h0 (fun v h L => v = none ∧ Fr n0 L ∧ h = h0) := by
  refine Ctr.go (plainFor_of_name pn_98) fun p e s m below meth c s₁ Bd hx hby hml hZ hown hnm X0 e0 => ?_
  have N0 := Fr.nil n0
  have K0 := Keep.refl h0 []
  refine gs (S' := s₁.setTop (mkF m 0 #[rv b, iv (oI K), uu] [])) (fun tg kg => castTop (ef_99 m b (oI K)) kg) ?_
  obtain ⟨E_b, F_v, F_c, F_n, F_m, E_t, V_t⟩ := id B0
  refine gs (fun _ k => ja X0 hx hby d7_0 rfl rfl k) ?_
  refine gF X0 hx hZ hown (host := "") (Or.inl (ow hw 69 rfl)) Via.refl e0 F_v hby d7_1 fun T1 X1 e1 => ?_
  obtain ⟨cl2, A2, a2q, a2S, a2N, a2H, a2G⟩ := id V_t
  refine gs (S' := T1.setTop (mkF m 5 #[rv b, iv (oI K), uu] [(.int (oI (jk cd N)))])) (fun _ k => by refine X1.arraylength hx (by rw [e1]; exact A2.1) (State.isArrayOf_alike hZ.alike A2.2.1) (g := (mkF m 4 #[rv b, iv (oI K), uu] [(.ref t)])) rfl rfl (hb hby d7_4) _ ?_; rw [len_of a2S a2N]; exact k) ?_
  refine gs (fun _ k => ja X1 hx hby d7_5 rfl rfl k) ?_
  refine gF X1 hx hZ hown (host := "") (Or.inl (ow hw 71 rfl)) Via.refl e1 F_c hby d7_6 fun T3 X3 e3 => ?_
  refine gs (fun _ k => o_ishr X3 hx hby d7_9 k) ?_
  show OwnGo p e below s _ _ _ (T3.setTop (mkF m 10 #[rv b, iv (oI K), uu] [(.int ((oI (jk cd N)) >>> (cd &&& 31)))]))
  rw [own_shrC hcd (n := N) (by omega)]
  refine gs (fun _ k => jF X3 hx hby d7_10 rfl (jb X3 hx hby d7_11 rfl (jb X3 hx hby d7_12 rfl (jO X3 hx hby d7_13 (jt (pc' := 38) X3 hx hby d7_14 ((if0 _ _).trans (flt (fun q => (own_c2 (by omega) (by omega)).mp q hKN)).2.2.2) k))))) ?_
  refine gout (v := none) X3 Bd.notSynchronized (fun _ => rfl) (by decide) (by decide) ?_ (fun fs hr => X3.returnOut hx Bd.returns (hb hby d7_38) hr)
  rw [e3]
  exact ⟨rfl, N0, rfl⟩
theorem d7_17 : decode oc7 17 = .ok (.aload_n 0, 1) := by decide +kernel
theorem d7_18 : decode oc7 18 = .ok (.aload_n 0, 1) := by decide +kernel
theorem d7_19 : decode oc7 19 = .ok (.getfield 15, 3) := by decide +kernel
theorem d7_22 : decode oc7 22 = .ok (.aload_n 0, 1) := by decide +kernel
theorem d7_23 : decode oc7 23 = .ok (.iload_n 1, 1) := by decide +kernel
theorem d7_24 : decode oc7 24 = .ok (.invokevirtual 104, 3) := by decide +kernel
theorem pd_141 : parseMethodDescriptor "(I)I" = some ⟨[.int], some .int⟩ := by decide +kernel
theorem d7_27 : decode oc7 27 = .ok (.aload_n 0, 1) := by decide +kernel
theorem d7_28 : decode oc7 28 = .ok (.getfield 22, 3) := by decide +kernel
theorem d7_31 : decode oc7 31 = .ok (.ishl, 1) := by decide +kernel
theorem d7_32 : decode oc7 32 = .ok (.invokestatic 108, 3) := by decide +kernel
theorem pd_146 : parseMethodDescriptor "([BI)[B" = some ⟨[(.array .byte), .int], some (.array .byte)⟩ := by decide +kernel
theorem d7_35 : decode oc7 35 = .ok (.putfield 15, 3) := by decide +kernel
theorem rm_enG (l : Launch) (Z : State) (a0 : Array Value) (hw : HW Z a0) (ws : List Jvm.Cond) (b : Addr) (t : Addr) (kb : ClassId) (vs : List Value) (cd : Int32) (nv : Int32) (N : Nat) (K : Nat) (h0 : Heap) (n0 : Nat) (Z0 : n0 ≤ h0.size) (O0 : Old Z n0 h0) (B0 : BB Z h0 b t kb cd nv (oI (jk cd N)) vs) (hcd : cd = 0 ∨ cd = 1) (hN : N ≤ 36) (hKk : K ≤ 18) (hKN : ¬ K ≤ N) (g_b : n0 ≤ b) (hvl : vs.length ≤ jk cd N) :
    Ctr l Z my8 jdk_68_method_9_code 3 ((Option.none : Option Jvm.ClassFile.FieldType)) ws (⟨3, 1, 200, 48⟩ : Room) #[(.ref b), (.int (oI K))] h0 (fun v h L => ∃ (t1 : Addr) (k1 : ClassId), v = none ∧ Fr n0 L ∧ Keep h0 h [b] ∧ h0.size ≤ t1 ∧ BB Z h b t1 k1 cd nv (oI (jk cd (jz N K))) vs) := by
  refine Ctr.go (plainFor_of_name pn_98) fun p e s m below meth c s₁ Bd hx hby hml hZ hown hnm X0 e0 => ?_
  have N0 := Fr.nil n0
  have K0 := Keep.refl h0 [b]
  refine gs (S' := s₁.setTop (mkF m 0 #[rv b, iv (oI K), uu] [])) (fun tg kg => castTop (ef_99 m b (oI K)) kg) ?_
  obtain ⟨E_b, F_v, F_c, F_n, F_m, E_t, V_t⟩ := id B0
  have gb := own_gr36 hKk hKN
  have gq := jL (cd := cd) (jz N K)
  have gm := own_scm (cd := cd) gb.2.2
  refine gs (fun _ k => ja X0 hx hby d7_0 rfl rfl k) ?_
  refine gF X0 hx hZ hown (host := "") (Or.inl (ow hw 69 rfl)) Via.refl e0 F_v hby d7_1 fun T1 X1 e1 => ?_
  obtain ⟨cl2, A2, a2q, a2S, a2N, a2H, a2G⟩ := id V_t
  refine gs (S' := T1.setTop (mkF m 5 #[rv b, iv (oI K), uu] [(.int (oI (jk cd N)))])) (fun _ k => by refine X1.arraylength hx (by rw [e1]; exact A2.1) (State.isArrayOf_alike hZ.alike A2.2.1) (g := (mkF m 4 #[rv b, iv (oI K), uu] [(.ref t)])) rfl rfl (hb hby d7_4) _ ?_; rw [len_of a2S a2N]; exact k) ?_
  refine gs (fun _ k => ja X1 hx hby d7_5 rfl rfl k) ?_
  refine gF X1 hx hZ hown (host := "") (Or.inl (ow hw 71 rfl)) Via.refl e1 F_c hby d7_6 fun T3 X3 e3 => ?_
  refine gs (fun _ k => o_ishr X3 hx hby d7_9 k) ?_
  show OwnGo p e below s _ _ _ (T3.setTop (mkF m 10 #[rv b, iv (oI K), uu] [(.int ((oI (jk cd N)) >>> (cd &&& 31)))]))
  rw [own_shrC hcd (n := N) (by omega)]
  refine gs (fun _ k => jF X3 hx hby d7_10 rfl (jb X3 hx hby d7_11 rfl (jb X3 hx hby d7_12 rfl (jO X3 hx hby d7_13 (jn X3 hx hby d7_14 ((if0 _ _).trans (tlt ((own_c2 (by omega) (by omega)).mpr hKN)).2.2.2) (ja X3 hx hby d7_17 rfl rfl (ja X3 hx hby d7_18 rfl rfl k))))))) ?_
  refine gF X3 hx hZ hown (host := "") (Or.inl (ow hw 69 rfl)) Via.refl e3 F_v hby d7_19 fun T4 X4 e4 => ?_
  refine gs (fun _ k => ja X4 hx hby d7_22 rfl rfl (jb X4 hx hby d7_23 rfl k)) ?_
  refine cV (rest := [(.ref t), (.ref b)]) X4 hx hZ hown (ow hw 114 rfl) (jH (ow hw 115 rfl) (ow hw 118 rfl)) (nfs hZ (ow hw 117 rfl)) (ow hw 117 rfl) (ow hw 115 rfl) (ow hw 65 rfl) (ow hw 118 rfl) (rm_nc l Z a0 hw [] b t kb vs cd nv N K h0 n0 Z0 O0 B0 hcd hN hKk hKN) hby d7_24 e4 pd_141 2 (by rw [hml]; rfl) E_b rfl rfl rfl rfl (by decide) (by decide) fun _ T5 Lc5 X5 hQ5 => ?_
  obtain ⟨rfl, N5q, e5q⟩ := hQ5
  have N5 := Fr.app N0 N5q
  refine gs (fun _ k => ja X5 hx hby d7_27 rfl rfl k) ?_
  refine gF X5 hx hZ hown (host := "") (Or.inl (ow hw 71 rfl)) Via.refl e5q F_c hby d7_28 fun T6 X6 e6 => ?_
  refine gs (fun _ k => o_ishl X6 hx hby d7_31 k) ?_
  show OwnGo p e below s _ _ _ (T6.setTop (mkF m 32 #[rv b, iv (oI K), iv (oI N)] [(.int ((oI (jz N K)) <<< (cd &&& 31))), (.ref t), (.ref b)]))
  rw [own_shlC hcd (n := jz N K) (by omega)]
  refine cS (rest := [(.ref b)]) X6 hx hZ hown (ow hw 129 rfl) (ow hw 130 rfl) (ow hw 131 rfl) (ow hw 132 rfl) (rm_co l Z a0 hw [] t kb vs (jk cd N) (jk cd (jz N K)) h0 n0 Z0 O0 V_t hvl gm (by omega)) hby d7_32 e6 pd_146 1 (by rw [hml]; rfl) rfl rfl rfl rfl (by decide) (by decide) fun _ T7 Lc7 X7 hQ7 => ?_
  obtain ⟨t7, kb7, rfl, N7q, K7q, g7t, E7t, V7q⟩ := hQ7
  have N7 := Fr.app N5 N7q
  have g_t7 : n0 ≤ t7 := nt Z0 g7t
  have sz_t7 : h0.size ≤ t7 := nt K0.1 g7t
  have Z8 := nt Z0 K7q.1
  have O8 := O0.keep K7q all0
  have K8 := K0.trans K7q all0
  have f9 := (F_v.keep K7q nin0)
  have f10 := (E_b.keep K7q)
  obtain ⟨T11, h11, X11, e11, W11, st11⟩ := putF X7 hx hZ hown (host := "") (Or.inl (ow hw 69 rfl)) Via.refl rfl f9 f10 (Or.inl (ow hw 70 rfl)) (ow hw 46 rfl) (ty := (.array .byte)) (by decide) rfl rfl (g := (mkF m 35 #[rv b, iv (oI K), iv (oI N)] [(.ref t7), (.ref b)])) rfl rfl (hb hby d7_35)
  have N11 := Fr.snoc X11 N7 g_b
  have Fw11 := f9.same W11
  have Z12 := nt Z8 (Keep.of_wr W11).1
  have O12 := O8.wr W11 g_b
  have K12 := K8.wr W11 (Or.inl (List.mem_of_getElem? (i := 0) rfl))
  refine gs (S' := T11.setTop (mkF m 38 #[rv b, iv (oI K), iv (oI N)] [])) st11 ?_
  have f13 := (f10.wr W11)
  have f14 := ((F_c.keep K7q nin0).other W11 (Or.inr (slot_ne (Or.inl (ow hw 72 rfl)) (Or.inl (ow hw 70 rfl)) (by decide) (t := .byte) (t' := (.array .byte)) (by decide) (by decide))))
  have f15 := ((F_n.keep K7q nin0).other W11 (Or.inr (slot_ne (Or.inl (ow hw 108 rfl)) (Or.inl (ow hw 70 rfl)) (by decide) (t := .int) (t' := (.array .byte)) (by decide) (by decide))))
  have f16 := ((F_m.keep K7q nin0).other W11 (Or.inr (slot_ne (Or.inl (ow hw 301 rfl)) (Or.inl (ow hw 70 rfl)) (by decide) (t := .boolean) (t' := (.array .byte)) (by decide) (by decide))))
  have f17 := (E7t.wr W11)
  have f18 := (V7q.other W11 (Ne.symm (nw (nu (nu E_b.lt (Nat.le_refl _)) g7t))))
  refine gout (v := none) X11 Bd.notSynchronized (fun _ => rfl) (by decide) (by decide) ?_ (fun fs hr => X11.returnOut hx Bd.returns (hb hby d7_38) hr)
  rw [e11]
  exact ⟨_, _, rfl, N11, K12, sz_t7, ⟨f13, Fw11, f14, f15, f16, f17, f18⟩⟩
theorem ef_148 (m : MethodId) (x0 : Addr) : entryFrame m #[(.ref x0)] 1 = mkF m 0 #[.val (.ref x0)] [] := by first | (simp [entryFrame, mkF, argsToLocals, Value.category]; done) | rfl
abbrev oc8 := jdk_68_method_68_code
theorem d8_0 : decode oc8 0 = .ok (.getstatic 18, 3) := by decide +kernel
theorem d8_3 : decode oc8 3 = .ok (.ifCond .eq 14, 3) := by decide +kernel
theorem d8_6 : decode oc8 6 = .ok (.aload_n 0, 1) := by decide +kernel
theorem d8_7 : decode oc8 7 = .ok (.getfield 22, 3) := by decide +kernel
theorem d8_10 : decode oc8 10 = .ok (.ifCond .ne 7, 3) := by decide +kernel
theorem d8_13 : decode oc8 13 = .ok (.iconst 1, 1) := by decide +kernel
theorem d8_14 : decode oc8 14 = .ok (.goto 4, 3) := by decide +kernel
theorem d8_18 : decode oc8 18 = .ok (.ireturn, 1) := by decide +kernel
theorem rm_il0 (l : Launch) (Z : State) (a0 : Array Value) (hw : HW Z a0) (ws : List Jvm.Cond) (b : Addr) (z : Int32) (h0 : Heap) (n0 : Nat) (Z0 : n0 ≤ h0.size) (O0 : Old Z n0 h0) (E_b : Exa Z h0 b "java/lang/StringBuilder") (F_c : Fld Z h0 b "java/lang/AbstractStringBuilder" "coder" "B" (.int (0 : Int32))) (S0 : PS3 Z (.int z)) (hz : ¬ z = 0) :
    Ctr l Z my9 jdk_68_method_68_code 1 ((Option.some Jvm.ClassFile.FieldType.boolean)) ws (⟨0, 0, 0, 0⟩ : Room) #[(.ref b)] h0 (fun v h L => v = some (.int (1 : Int32)) ∧ Fr n0 L ∧ h = h0) := by
  refine Ctr.go (plainFor_of_name pn_98) fun p e s m below meth c s₁ Bd hx hby hml hZ hown hnm X0 e0 => ?_
  have N0 := Fr.nil n0
  have K0 := Keep.refl h0 []
  refine gs (S' := s₁.setTop (mkF m 0 #[rv b] [])) (fun tg kg => castTop (ef_148 m b) kg) ?_
  refine gS X0 hx hZ hown (host := "") (Or.inl (ow hw 68 rfl)) Via.refl e0 (S0.ext O0.2) hby d8_0 fun T1 X1 e1 => ?_
  refine gs (fun _ k => jn X1 hx hby d8_3 ((if0 _ _).trans (feq hz).1) (ja X1 hx hby d8_6 rfl rfl k)) ?_
  refine gF X1 hx hZ hown (host := "") (Or.inl (ow hw 71 rfl)) Via.refl e1 F_c hby d8_7 fun T2 X2 e2 => ?_
  refine gs (fun _ k => jn X2 hx hby d8_10 ((if0 _ _).trans (teq (by decide : (0 : Int32) = (0 : Int32))).2) (je (v := (1 : Int32)) X2 hx hby d8_13 (jl (pc' := 18) X2 hx hby d8_14 k))) ?_
  refine gout (v := some (.int (1 : Int32))) X2 Bd.notSynchronized (fun h => by rw [Bd.returns] at h; cases h) (by decide) (by decide) ?_ (fun fs hr => retN X2 hx (t := .boolean) Bd.returns (by simp) (hb hby d8_18) hr)
  rw [e2]
  exact ⟨rfl, N0, rfl⟩
theorem d8_17 : decode oc8 17 = .ok (.iconst 0, 1) := by decide +kernel
theorem rm_il1 (l : Launch) (Z : State) (a0 : Array Value) (hw : HW Z a0) (ws : List Jvm.Cond) (b : Addr) (z : Int32) (h0 : Heap) (n0 : Nat) (Z0 : n0 ≤ h0.size) (O0 : Old Z n0 h0) (E_b : Exa Z h0 b "java/lang/StringBuilder") (F_c : Fld Z h0 b "java/lang/AbstractStringBuilder" "coder" "B" (.int (1 : Int32))) (S0 : PS3 Z (.int z)) (hz : ¬ z = 0) :
    Ctr l Z my9 jdk_68_method_68_code 1 ((Option.some Jvm.ClassFile.FieldType.boolean)) ws (⟨0, 0, 0, 0⟩ : Room) #[(.ref b)] h0 (fun v h L => v = some (.int (0 : Int32)) ∧ Fr n0 L ∧ h = h0) := by
  refine Ctr.go (plainFor_of_name pn_98) fun p e s m below meth c s₁ Bd hx hby hml hZ hown hnm X0 e0 => ?_
  have N0 := Fr.nil n0
  have K0 := Keep.refl h0 []
  refine gs (S' := s₁.setTop (mkF m 0 #[rv b] [])) (fun tg kg => castTop (ef_148 m b) kg) ?_
  refine gS X0 hx hZ hown (host := "") (Or.inl (ow hw 68 rfl)) Via.refl e0 (S0.ext O0.2) hby d8_0 fun T1 X1 e1 => ?_
  refine gs (fun _ k => jn X1 hx hby d8_3 ((if0 _ _).trans (feq hz).1) (ja X1 hx hby d8_6 rfl rfl k)) ?_
  refine gF X1 hx hZ hown (host := "") (Or.inl (ow hw 71 rfl)) Via.refl e1 F_c hby d8_7 fun T2 X2 e2 => ?_
  refine gs (fun _ k => jt (pc' := 17) X2 hx hby d8_10 ((if0 _ _).trans (feq (by decide : ¬ ((1 : Int32) = (0 : Int32)))).2) (je (v := (0 : Int32)) X2 hx hby d8_17 k)) ?_
  refine gout (v := some (.int (0 : Int32))) X2 Bd.notSynchronized (fun h => by rw [Bd.returns] at h; cases h) (by decide) (by decide) ?_ (fun fs hr => retN X2 hx (t := .boolean) Bd.returns (by simp) (hb hby d8_18) hr)
  rw [e2]
  exact ⟨rfl, N0, rfl⟩
theorem ef_160 (m : MethodId) (x0 : Int32) : entryFrame m #[(.int x0)] 1 = mkF m 0 #[.val (.int x0)] [] := by first | (simp [entryFrame, mkF, argsToLocals, Value.category]; done) | rfl
abbrev oc9 := jdk_43_method_3_code
theorem d9_0 : decode oc9 0 = .ok (.iload_n 0, 1) := by decide +kernel
theorem d9_1 : decode oc9 1 = .ok (.sipush 255, 3) := by decide +kernel
theorem d9_4 : decode oc9 4 = .ok (.if_icmp .gt 7, 3) := by decide +kernel
theorem d9_11 : decode oc9 11 = .ok (.iconst 0, 1) := by decide +kernel
theorem d9_12 : decode oc9 12 = .ok (.ireturn, 1) := by decide +kernel
theorem pn_167 : plainName "java/lang/StringLatin1" = true := by first | (simp [plainName, overriddenIn]; done) | decide +kernel
theorem rm_ce0 (l : Launch) (Z : State) (a0 : Array Value) (hw : HW Z a0) (ws : List Jvm.Cond) (p1 : Int32) (h0 : Heap) (n0 : Nat) (Z0 : n0 ≤ h0.size) (O0 : Old Z n0 h0) (hp : (255 : Int32) < p1) :
    Ctr l Z my10 jdk_43_method_3_code 1 ((Option.some Jvm.ClassFile.FieldType.boolean)) ws (⟨0, 0, 0, 0⟩ : Room) #[(.int p1)] h0 (fun v h L => v = some (.int (0 : Int32)) ∧ Fr n0 L ∧ h = h0) := by
  refine Ctr.go (plainFor_of_name pn_167) fun p e s m below meth c s₁ Bd hx hby hml hZ hown hnm X0 e0 => ?_
  have N0 := Fr.nil n0
  have K0 := Keep.refl h0 []
  refine gs (S' := s₁.setTop (mkF m 0 #[iv p1] [])) (fun tg kg => castTop (ef_160 m p1) kg) ?_
  refine gs (fun _ k => jb X0 hx hby d9_0 rfl (XS.sipush X0.here hx rfl (hb hby d9_1) (jh (pc' := 11) X0 hx hby d9_4 (tlt hp).2.2.1 (je (v := (0 : Int32)) X0 hx hby d9_11 k)))) ?_
  refine gout (v := some (.int (0 : Int32))) X0 Bd.notSynchronized (fun h => by rw [Bd.returns] at h; cases h) (by decide) (by decide) ?_ (fun fs hr => retN X0 hx (t := .boolean) Bd.returns (by simp) (hb hby d9_12) hr)
  rw [e0]
  exact ⟨rfl, N0, rfl⟩
theorem d9_7 : decode oc9 7 = .ok (.iconst 1, 1) := by decide +kernel
theorem d9_8 : decode oc9 8 = .ok (.goto 4, 3) := by decide +kernel
theorem rm_ce1 (l : Launch) (Z : State) (a0 : Array Value) (hw : HW Z a0) (ws : List Jvm.Cond) (p1 : Int32) (h0 : Heap) (n0 : Nat) (Z0 : n0 ≤ h0.size) (O0 : Old Z n0 h0) (hp : ¬ (255 : Int32) < p1) :
    Ctr l Z my10 jdk_43_method_3_code 1 ((Option.some Jvm.ClassFile.FieldType.boolean)) ws (⟨0, 0, 0, 0⟩ : Room) #[(.int p1)] h0 (fun v h L => v = some (.int (1 : Int32)) ∧ Fr n0 L ∧ h = h0) := by
  refine Ctr.go (plainFor_of_name pn_167) fun p e s m below meth c s₁ Bd hx hby hml hZ hown hnm X0 e0 => ?_
  have N0 := Fr.nil n0
  have K0 := Keep.refl h0 []
  refine gs (S' := s₁.setTop (mkF m 0 #[iv p1] [])) (fun tg kg => castTop (ef_160 m p1) kg) ?_
  refine gs (fun _ k => jb X0 hx hby d9_0 rfl (XS.sipush X0.here hx rfl (hb hby d9_1) (ji X0 hx hby d9_4 (flt hp).2.2.1 (je (v := (1 : Int32)) X0 hx hby d9_7 (jl (pc' := 12) X0 hx hby d9_8 k))))) ?_
  refine gout (v := some (.int (1 : Int32))) X0 Bd.notSynchronized (fun h => by rw [Bd.returns] at h; cases h) (by decide) (by decide) ?_ (fun fs hr => retN X0 hx (t := .boolean) Bd.returns (by simp) (hb hby d9_12) hr)
  rw [e0]
  exact ⟨rfl, N0, rfl⟩
theorem ef_171 (m : MethodId) (x0 : Addr) (x1 : Int32) (x2 : Int32) : entryFrame m #[(.ref x0), (.int x1), (.int x2)] 3 = mkF m 0 #[.val (.ref x0), .val (.int x1), .val (.int x2)] [] := by first | (simp [entryFrame, mkF, argsToLocals, Value.category]; done) | rfl
abbrev oc10 := jdk_52_method_4_code
theorem d10_0 : decode oc10 0 = .ok (.getstatic 44, 3) := by decide +kernel
theorem d10_3 : decode oc10 3 = .ok (.ifCond .ne 25, 3) := by decide +kernel
theorem d10_28 : decode oc10 28 = .ok (.iload_n 1, 1) := by decide +kernel
theorem d10_29 : decode oc10 29 = .ok (.iconst 1, 1) := by decide +kernel
theorem d10_30 : decode oc10 30 = .ok (.ishl, 1) := by decide +kernel
theorem d10_31 : decode oc10 31 = .ok (.istore_n 1, 1) := by decide +kernel
theorem d10_32 : decode oc10 32 = .ok (.aload_n 0, 1) := by decide +kernel
theorem d10_33 : decode oc10 33 = .ok (.iload_n 1, 1) := by decide +kernel
theorem d10_34 : decode oc10 34 = .ok (.iinc 1 1, 3) := by decide +kernel
theorem d10_37 : decode oc10 37 = .ok (.iload_n 2, 1) := by decide +kernel
theorem d10_38 : decode oc10 38 = .ok (.getstatic 59, 3) := by decide +kernel
theorem d10_41 : decode oc10 41 = .ok (.ishr, 1) := by decide +kernel
theorem d10_42 : decode oc10 42 = .ok (.i2b, 1) := by decide +kernel
theorem d10_43 : decode oc10 43 = .ok (.bastore, 1) := by decide +kernel
theorem d10_44 : decode oc10 44 = .ok (.aload_n 0, 1) := by decide +kernel
theorem d10_45 : decode oc10 45 = .ok (.iload_n 1, 1) := by decide +kernel
theorem d10_46 : decode oc10 46 = .ok (.iload_n 2, 1) := by decide +kernel
theorem d10_47 : decode oc10 47 = .ok (.getstatic 63, 3) := by decide +kernel
theorem d10_50 : decode oc10 50 = .ok (.ishr, 1) := by decide +kernel
theorem d10_51 : decode oc10 51 = .ok (.i2b, 1) := by decide +kernel
theorem d10_52 : decode oc10 52 = .ok (.bastore, 1) := by decide +kernel
theorem d10_53 : decode oc10 53 = .ok (.return_, 1) := by decide +kernel
theorem pn_195 : plainName "java/lang/StringUTF16" = true := by first | (simp [plainName, overriddenIn]; done) | decide +kernel
theorem rm_pc (l : Launch) (Z : State) (a0 : Array Value) (hw : HW Z a0) (ws : List Jvm.Cond) (t : Addr) (kb : ClassId) (cs : List Int32) (cc : Int32) (jx : Int32) (M : Nat) (h0 : Heap) (n0 : Nat) (Z0 : n0 ≤ h0.size) (O0 : Old Z n0 h0) (V_t : Arv Z h0 t kb .byte (oI M) (jq cs) (.int (0 : Int32))) (g_t : n0 ≤ t) (hj : jx = (oI cs.length)) (hfit : 2 * cs.length + 2 ≤ M) (hM : M ≤ 1000) (S_ad : PS0 Z (.int (1 : Int32))) (S_hi : PS1 Z (.int (0 : Int32))) (S_lo : PS2 Z (.int (8 : Int32))) :
    Ctr l Z (⟨"java/lang/StringUTF16", "putChar", "([BII)V"⟩ : MethodName) jdk_52_method_4_code 3 ((Option.none : Option Jvm.ClassFile.FieldType)) ws (⟨0, 0, 0, 0⟩ : Room) #[(.ref t), (.int jx), (.int cc)] h0 (fun v h L => v = none ∧ Fr n0 L ∧ Keep h0 h [t] ∧ Arv Z h t kb .byte (oI M) (jq (cs ++ [cc])) (.int (0 : Int32))) := by
  refine Ctr.go (plainFor_of_name pn_195) fun p e s m below meth c s₁ Bd hx hby hml hZ hown hnm X0 e0 => ?_
  have N0 := Fr.nil n0
  have K0 := Keep.refl h0 [t]
  refine gs (S' := s₁.setTop (mkF m 0 #[rv t, iv jx, iv cc] [])) (fun tg kg => castTop (ef_171 m t jx cc) kg) ?_
  show OwnGo p e below s _ _ _ (s₁.setTop (mkF m 0 #[rv t, iv jx, iv cc] []))
  rw [hj]
  refine gS X0 hx hZ hown (host := "") (Or.inl (ow hw 257 rfl)) Via.refl e0 (S_ad.ext O0.2) hby d10_0 fun T1 X1 e1 => ?_
  refine gs (fun _ k => jt (pc' := 28) X1 hx hby d10_3 ((if0 _ _).trans (feq (by decide : ¬ ((1 : Int32) = (0 : Int32)))).2) (jb X1 hx hby d10_28 rfl (je (v := (1 : Int32)) X1 hx hby d10_29 (o_ishl X1 hx hby d10_30 k)))) ?_
  show OwnGo p e below s _ _ _ (T1.setTop (mkF m 31 #[rv t, iv (oI cs.length), iv cc] [(.int ((oI cs.length) <<< ((1 : Int32) &&& 31)))]))
  rw [own_shl1 (n := cs.length) (by omega)]
  refine gs (fun _ k => jF X1 hx hby d10_31 rfl (ja X1 hx hby d10_32 rfl rfl (jb X1 hx hby d10_33 rfl (jm X1 hx hby d10_34 rfl rfl k)))) ?_
  show OwnGo p e below s _ _ _ (T1.setTop (mkF m 37 #[rv t, iv (((oI (2 * cs.length)) + (1 : Int32))), iv cc] [(.int (oI (2 * cs.length))), (.ref t)]))
  rw [own_e1 (2 * cs.length)]
  refine gs (fun _ k => jb X1 hx hby d10_37 rfl k) ?_
  refine gS X1 hx hZ hown (host := "") (Or.inl (ow hw 258 rfl)) Via.refl e1 (S_hi.ext O0.2) hby d10_38 fun T2 X2 e2 => ?_
  refine gs (fun _ k => o_ishr X2 hx hby d10_41 (jN X2 hx hby d10_42 k)) ?_
  obtain ⟨cl3, A3, a3q, a3S, a3N, a3H, a3G⟩ := V_t.pad (vs' := jq cs ++ [Value.int 0, Value.int 0]) (pad_rep (jq cs) (.int 0) 2)
  obtain ⟨T3, h3, X3, e3, W3, st3⟩ := stB X2 hx hZ e2 A3 (j := (oI (2 * cs.length))) (inb_of a3S ⟨js (by omega), jM (by omega) (by omega)⟩) (g := (mkF m 43 #[rv t, iv ((oI (2 * cs.length + 1))), iv cc] [(.int ((cc >>> ((0 : Int32) &&& 31)).toInt8.toInt32)), (.int (oI (2 * cs.length))), (.ref t)])) rfl rfl (hb hby d10_43)
  have q3 := Arv.set A3 a3q a3S a3N a3H a3G (fits_nar_byte _) W3 (2 * cs.length) (jQ (by omega)) (by rw [own_bspl]; omega)
  rw [own_set0] at q3
  have N3 := Fr.snoc X3 N0 g_t
  have Z4 := nt Z0 (Keep.of_wr W3).1
  have O4 := O0.wr W3 g_t
  have K4 := K0.wr W3 (Or.inl (List.mem_of_getElem? (i := 0) rfl))
  refine gs (S' := T3.setTop (mkF m 44 #[rv t, iv ((oI (2 * cs.length + 1))), iv cc] [])) st3 ?_
  refine gs (fun _ k => ja X3 hx hby d10_44 rfl rfl (jb X3 hx hby d10_45 rfl (jb X3 hx hby d10_46 rfl k))) ?_
  refine gS X3 hx hZ hown (host := "") (Or.inl (ow hw 259 rfl)) Via.refl e3 (S_lo.ext O4.2) hby d10_47 fun T5 X5 e5 => ?_
  refine gs (fun _ k => o_ishr X5 hx hby d10_50 (jN X5 hx hby d10_51 k)) ?_
  obtain ⟨cl6, A6, a6q, a6S, a6N, a6H, a6G⟩ := id q3
  obtain ⟨T6, h6, X6, e6, W6, st6⟩ := stB X5 hx hZ e5 A6 (j := (oI (2 * cs.length + 1))) (inb_of a6S ⟨js (by omega), jM (by omega) (by omega)⟩) (g := (mkF m 52 #[rv t, iv ((oI (2 * cs.length + 1))), iv cc] [(.int ((cc >>> ((8 : Int32) &&& 31)).toInt8.toInt32)), (.int (oI (2 * cs.length + 1))), (.ref t)])) rfl rfl (hb hby d10_52)
  have q6 := Arv.set A6 a6q a6S a6N a6H a6G (fits_nar_byte _) W6 (2 * cs.length + 1) (jQ (by omega)) (by rw [own_bspl]; omega)
  rw [own_set1] at q6
  have N6 := Fr.snoc X6 N3 g_t
  have Z7 := nt Z4 (Keep.of_wr W6).1
  have O7 := O4.wr W6 g_t
  have K7 := K4.wr W6 (Or.inl (List.mem_of_getElem? (i := 0) rfl))
  refine gs (S' := T6.setTop (mkF m 53 #[rv t, iv ((oI (2 * cs.length + 1))), iv cc] [])) st6 ?_
  refine gout (v := none) X6 Bd.notSynchronized (fun _ => rfl) (by decide) (by decide) ?_ (fun fs hr => X6.returnOut hx Bd.returns (hb hby d10_53) hr)
  rw [e6]
  exact ⟨rfl, N6, K7, by rw [own_bs1]; exact q6⟩
theorem ef_196 (m : MethodId) (x0 : Addr) (x1 : Int32) : entryFrame m #[(.ref x0), (.int x1)] 2 = mkF m 0 #[.val (.ref x0), .val (.int x1)] [] := by first | (simp [entryFrame, mkF, argsToLocals, Value.category]; done) | rfl
abbrev oc11 := jdk_52_method_5_code
theorem d11_0 : decode oc11 0 = .ok (.getstatic 44, 3) := by decide +kernel
theorem d11_3 : decode oc11 3 = .ok (.ifCond .ne 25, 3) := by decide +kernel
theorem d11_28 : decode oc11 28 = .ok (.iload_n 1, 1) := by decide +kernel
theorem d11_29 : decode oc11 29 = .ok (.iconst 1, 1) := by decide +kernel
theorem d11_30 : decode oc11 30 = .ok (.ishl, 1) := by decide +kernel
theorem d11_31 : decode oc11 31 = .ok (.istore_n 1, 1) := by decide +kernel
theorem d11_32 : decode oc11 32 = .ok (.aload_n 0, 1) := by decide +kernel
theorem d11_33 : decode oc11 33 = .ok (.iload_n 1, 1) := by decide +kernel
theorem d11_34 : decode oc11 34 = .ok (.iinc 1 1, 3) := by decide +kernel
theorem d11_37 : decode oc11 37 = .ok (.baload, 1) := by decide +kernel
theorem d11_38 : decode oc11 38 = .ok (.sipush 255, 3) := by decide +kernel
theorem d11_41 : decode oc11 41 = .ok (.iand, 1) := by decide +kernel
theorem d11_42 : decode oc11 42 = .ok (.getstatic 59, 3) := by decide +kernel
theorem d11_45 : decode oc11 45 = .ok (.ishl, 1) := by decide +kernel
theorem d11_46 : decode oc11 46 = .ok (.aload_n 0, 1) := by decide +kernel
theorem d11_47 : decode oc11 47 = .ok (.iload_n 1, 1) := by decide +kernel
theorem d11_48 : decode oc11 48 = .ok (.baload, 1) := by decide +kernel
theorem d11_49 : decode oc11 49 = .ok (.sipush 255, 3) := by decide +kernel
theorem d11_52 : decode oc11 52 = .ok (.iand, 1) := by decide +kernel
theorem d11_53 : decode oc11 53 = .ok (.getstatic 63, 3) := by decide +kernel
theorem d11_56 : decode oc11 56 = .ok (.ishl, 1) := by decide +kernel
theorem d11_57 : decode oc11 57 = .ok (.ior, 1) := by decide +kernel
theorem d11_58 : decode oc11 58 = .ok (.i2c, 1) := by decide +kernel
theorem d11_59 : decode oc11 59 = .ok (.ireturn, 1) := by decide +kernel
theorem rm_gc (l : Launch) (Z : State) (a0 : Array Value) (hw : HW Z a0) (ws : List Jvm.Cond) (t : Addr) (kb : ClassId) (cs : List Int32) (i : Nat) (M : Nat) (h0 : Heap) (n0 : Nat) (Z0 : n0 ≤ h0.size) (O0 : Old Z n0 h0) (V_t : Arv Z h0 t kb .byte (oI M) (jq cs) (.int (0 : Int32))) (hi : i < cs.length) (hfit : 2 * cs.length ≤ M) (hM : M ≤ 1000) (hcc : ¬ (cs.getD i 0) < 0 ∧ ¬ (65535 : Int32) < (cs.getD i 0)) (S_ad : PS0 Z (.int (1 : Int32))) (S_hi : PS1 Z (.int (0 : Int32))) (S_lo : PS2 Z (.int (8 : Int32))) :
    Ctr l Z (⟨"java/lang/StringUTF16", "getChar", "([BI)C"⟩ : MethodName) jdk_52_method_5_code 2 ((Option.some Jvm.ClassFile.FieldType.char)) ws (⟨0, 0, 0, 0⟩ : Room) #[(.ref t), (.int (oI i))] h0 (fun v h L => v = some (.int (cs.getD i 0)) ∧ Fr n0 L ∧ h = h0) := by
  refine Ctr.go (plainFor_of_name pn_195) fun p e s m below meth c s₁ Bd hx hby hml hZ hown hnm X0 e0 => ?_
  have N0 := Fr.nil n0
  have K0 := Keep.refl h0 []
  refine gs (S' := s₁.setTop (mkF m 0 #[rv t, iv (oI i)] [])) (fun tg kg => castTop (ef_196 m t (oI i)) kg) ?_
  refine gS X0 hx hZ hown (host := "") (Or.inl (ow hw 257 rfl)) Via.refl e0 (S_ad.ext O0.2) hby d11_0 fun T1 X1 e1 => ?_
  refine gs (fun _ k => jt (pc' := 28) X1 hx hby d11_3 ((if0 _ _).trans (feq (by decide : ¬ ((1 : Int32) = (0 : Int32)))).2) (jb X1 hx hby d11_28 rfl (je (v := (1 : Int32)) X1 hx hby d11_29 (o_ishl X1 hx hby d11_30 k)))) ?_
  show OwnGo p e below s _ _ _ (T1.setTop (mkF m 31 #[rv t, iv (oI i)] [(.int ((oI i) <<< ((1 : Int32) &&& 31)))]))
  rw [own_shl1 (n := i) (by omega)]
  refine gs (fun _ k => jF X1 hx hby d11_31 rfl (ja X1 hx hby d11_32 rfl rfl (jb X1 hx hby d11_33 rfl (jm X1 hx hby d11_34 rfl rfl k)))) ?_
  show OwnGo p e below s _ _ _ (T1.setTop (mkF m 37 #[rv t, iv (((oI (2 * i)) + (1 : Int32)))] [(.int (oI (2 * i))), (.ref t)]))
  rw [own_e1 (2 * i)]
  obtain ⟨cl2, A2, a2q, a2S, a2N, a2H, a2G⟩ := id V_t
  have hi2 := inb_of a2S (j := (oI (2 * i))) ⟨js (by omega), jM (by omega) (by omega)⟩
  refine gs (fun _ k => X1.baloadBytes hx (j := (oI (2 * i))) (v := (.int (own_b0 (cs.getD i 0)))) (by rw [e1]; exact A2.1) (State.isArrayOf_alike hZ.alike A2.2.1) A2.2.2 hi2 (Has.at a2H hi2 (by rw [jQ (by omega)]; exact (own_bsg cs i hi).1)) (g := (mkF m 37 #[rv t, iv ((oI (2 * i + 1)))] [(.int (oI (2 * i))), (.ref t)])) rfl rfl (hb hby d11_37) _ (XS.sipush X1.here hx rfl (hb hby d11_38) (o_iand X1 hx hby d11_41 k))) ?_
  refine gS X1 hx hZ hown (host := "") (Or.inl (ow hw 258 rfl)) Via.refl e1 (S_hi.ext O0.2) hby d11_42 fun T3 X3 e3 => ?_
  refine gs (fun _ k => o_ishl X3 hx hby d11_45 (ja X3 hx hby d11_46 rfl rfl (jb X3 hx hby d11_47 rfl k))) ?_
  obtain ⟨cl4, A4, a4q, a4S, a4N, a4H, a4G⟩ := id V_t
  have hi4 := inb_of a4S (j := (oI (2 * i + 1))) ⟨js (by omega), jM (by omega) (by omega)⟩
  refine gs (fun _ k => X3.baloadBytes hx (j := (oI (2 * i + 1))) (v := (.int (own_b1 (cs.getD i 0)))) (by rw [e3]; exact A4.1) (State.isArrayOf_alike hZ.alike A4.2.1) A4.2.2 hi4 (Has.at a4H hi4 (by rw [jQ (by omega)]; exact (own_bsg cs i hi).2)) (g := (mkF m 48 #[rv t, iv ((oI (2 * i + 1)))] [(.int (oI (2 * i + 1))), (.ref t), (.int (((own_b0 (cs.getD i 0)) &&& (255 : Int32)) <<< ((0 : Int32) &&& 31)))])) rfl rfl (hb hby d11_48) _ (XS.sipush X3.here hx rfl (hb hby d11_49) (o_iand X3 hx hby d11_52 k))) ?_
  refine gS X3 hx hZ hown (host := "") (Or.inl (ow hw 259 rfl)) Via.refl e3 (S_lo.ext O0.2) hby d11_53 fun T5 X5 e5 => ?_
  refine gs (fun _ k => o_ishl X5 hx hby d11_56 (o_ior X5 hx hby d11_57 (o_i2c X5 hx hby d11_58 k))) ?_
  refine gout (v := some (.int (nar .char (((((own_b0 (cs.getD i 0)) &&& (255 : Int32)) <<< ((0 : Int32) &&& 31)) ||| (((own_b1 (cs.getD i 0)) &&& (255 : Int32)) <<< ((8 : Int32) &&& 31))).toUInt32.toUInt16.toUInt32.toInt32)))) X5 Bd.notSynchronized (fun h => by rw [Bd.returns] at h; cases h) (by decide) (by decide) ?_ (fun fs hr => retN X5 hx (t := .char) Bd.returns (by simp) (hb hby d11_59) hr)
  rw [e5]
  exact ⟨congrArg (fun q => some (Value.int q)) (own_gc hcc), N0, rfl⟩
abbrev oc12 := jdk_52_method_6_code
theorem d12_0 : decode oc12 0 = .ok (.aload_n 0, 1) := by decide +kernel
theorem d12_1 : decode oc12 1 = .ok (.arraylength, 1) := by decide +kernel
theorem d12_2 : decode oc12 2 = .ok (.iconst 1, 1) := by decide +kernel
theorem d12_3 : decode oc12 3 = .ok (.ishr, 1) := by decide +kernel
theorem d12_4 : decode oc12 4 = .ok (.ireturn, 1) := by decide +kernel
theorem rm_ul (l : Launch) (Z : State) (a0 : Array Value) (hw : HW Z a0) (ws : List Jvm.Cond) (t : Addr) (kb : ClassId) (vs : List Value) (M : Nat) (h0 : Heap) (n0 : Nat) (Z0 : n0 ≤ h0.size) (O0 : Old Z n0 h0) (V_t : Arv Z h0 t kb .byte (oI (2 * M)) vs (.int (0 : Int32))) (hM : M ≤ 1000) :
    Ctr l Z (⟨"java/lang/StringUTF16", "length", "([B)I"⟩ : MethodName) jdk_52_method_6_code 1 ((Option.some Jvm.ClassFile.FieldType.int)) ws (⟨0, 0, 0, 0⟩ : Room) #[(.ref t)] h0 (fun v h L => v = some (.int (oI M)) ∧ Fr n0 L ∧ h = h0) := by
  refine Ctr.go (plainFor_of_name pn_195) fun p e s m below meth c s₁ Bd hx hby hml hZ hown hnm X0 e0 => ?_
  have N0 := Fr.nil n0
  have K0 := Keep.refl h0 []
  refine gs (S' := s₁.setTop (mkF m 0 #[rv t] [])) (fun tg kg => castTop (ef_148 m t) kg) ?_
  refine gs (fun _ k => ja X0 hx hby d12_0 rfl rfl k) ?_
  obtain ⟨cl1, A1, a1q, a1S, a1N, a1H, a1G⟩ := id V_t
  refine gs (S' := s₁.setTop (mkF m 2 #[rv t] [(.int (oI (2 * M)))])) (fun _ k => by refine X0.arraylength hx (by rw [e0]; exact A1.1) (State.isArrayOf_alike hZ.alike A1.2.1) (g := (mkF m 1 #[rv t] [(.ref t)])) rfl rfl (hb hby d12_1) _ ?_; rw [len_of a1S a1N]; exact k) ?_
  refine gs (fun _ k => je (v := (1 : Int32)) X0 hx hby d12_2 (o_ishr X0 hx hby d12_3 k)) ?_
  refine gout (v := some (.int ((oI (2 * M)) >>> ((1 : Int32) &&& 31)))) X0 Bd.notSynchronized (fun h => by rw [Bd.returns] at h; cases h) (by decide) (by decide) ?_ (fun fs hr => retI X0 hx Bd.returns (hb hby d12_4) hr)
  rw [e0]
  exact ⟨congrArg (fun q => some (Value.int q)) (own_shr1 (n := M) (by omega)), N0, rfl⟩
theorem ef_229 (m : MethodId) (x0 : Int32) (x1 : Int32) (x2 : Value) (hx2 : x2.isRef = true) : entryFrame m #[(.int x0), (.int x1), x2] 3 = mkF m 0 #[.val (.int x0), .val (.int x1), .val x2] [] := by first | (simp [entryFrame, mkF, argsToLocals, Value.category]; done) | rfl | (rcases ref_cases hx2 with rfl | ⟨b, rfl⟩ <;> rfl)
abbrev oc13 := jdk_41_method_11_code
theorem d13_0 : decode oc13 0 = .ok (.iload_n 0, 1) := by decide +kernel
theorem d13_1 : decode oc13 1 = .ok (.ifCond .lt 8, 3) := by decide +kernel
theorem d13_4 : decode oc13 4 = .ok (.iload_n 0, 1) := by decide +kernel
theorem d13_5 : decode oc13 5 = .ok (.iload_n 1, 1) := by decide +kernel
theorem d13_6 : decode oc13 6 = .ok (.if_icmp .lt 10, 3) := by decide +kernel
theorem d13_16 : decode oc13 16 = .ok (.iload_n 0, 1) := by decide +kernel
theorem d13_17 : decode oc13 17 = .ok (.ireturn, 1) := by decide +kernel
theorem pn_238 : plainName "jdk/internal/util/Preconditions" = true := by first | (simp [plainName, overriddenIn]; done) | decide +kernel
theorem rm_ci (l : Launch) (Z : State) (a0 : Array Value) (hw : HW Z a0) (ws : List Jvm.Cond) (p1 : Int32) (p2 : Int32) (fm : Value) (h0 : Heap) (n0 : Nat) (Z0 : n0 ≤ h0.size) (O0 : Old Z n0 h0) (hlo : ¬ p1 < 0) (hhi : p1 < p2) (hfm : fm.isRef = true) :
    Ctr l Z (⟨"jdk/internal/util/Preconditions", "checkIndex", "(IILjava/util/function/BiFunction;)I"⟩ : MethodName) jdk_41_method_11_code 3 ((Option.some Jvm.ClassFile.FieldType.int)) ws (⟨0, 0, 0, 0⟩ : Room) #[(.int p1), (.int p2), fm] h0 (fun v h L => v = some (.int p1) ∧ Fr n0 L ∧ h = h0) := by
  refine Ctr.go (plainFor_of_name pn_238) fun p e s m below meth c s₁ Bd hx hby hml hZ hown hnm X0 e0 => ?_
  have N0 := Fr.nil n0
  have K0 := Keep.refl h0 []
  refine gs (S' := s₁.setTop (mkF m 0 #[iv p1, iv p2, .val fm] [])) (fun tg kg => castTop (ef_229 m p1 p2 fm hfm) kg) ?_
  refine gs (fun _ k => jb X0 hx hby d13_0 rfl (jn X0 hx hby d13_1 ((if0 _ _).trans (flt hlo).1) (jb X0 hx hby d13_4 rfl (jb X0 hx hby d13_5 rfl (jh (pc' := 16) X0 hx hby d13_6 (tlt hhi).1 (jb X0 hx hby d13_16 rfl k)))))) ?_
  refine gout (v := some (.int p1)) X0 Bd.notSynchronized (fun h => by rw [Bd.returns] at h; cases h) (by decide) (by decide) ?_ (fun fs hr => retI X0 hx Bd.returns (hb hby d13_17) hr)
  rw [e0]
  exact ⟨rfl, N0, rfl⟩
abbrev oc14 := jdk_42_method_155_code
theorem d14_0 : decode oc14 0 = .ok (.iload_n 0, 1) := by decide +kernel
theorem d14_1 : decode oc14 1 = .ok (.iload_n 1, 1) := by decide +kernel
theorem d14_2 : decode oc14 2 = .ok (.getstatic 1053, 3) := by decide +kernel
theorem d14_5 : decode oc14 5 = .ok (.invokestatic 1059, 3) := by decide +kernel
theorem pd_245 : parseMethodDescriptor "(IILjava/util/function/BiFunction;)I" = some ⟨[.int, .int, (.object "java/util/function/BiFunction")], some .int⟩ := by decide +kernel
theorem d14_8 : decode oc14 8 = .ok (.pop, 1) := by decide +kernel
theorem d14_9 : decode oc14 9 = .ok (.return_, 1) := by decide +kernel
theorem rm_sci (l : Launch) (Z : State) (a0 : Array Value) (hw : HW Z a0) (ws : List Jvm.Cond) (p1 : Int32) (p2 : Int32) (fm : Value) (h0 : Heap) (n0 : Nat) (Z0 : n0 ≤ h0.size) (O0 : Old Z n0 h0) (hlo : ¬ p1 < 0) (hhi : p1 < p2) (S4 : PS4 Z fm) (hfm : fm.isRef = true) :
    Ctr l Z (⟨"java/lang/String", "checkIndex", "(II)V"⟩ : MethodName) jdk_42_method_155_code 2 ((Option.none : Option Jvm.ClassFile.FieldType)) ws (⟨1, 0, 0, 14⟩ : Room) #[(.int p1), (.int p2)] h0 (fun v h L => v = none ∧ Fr n0 L ∧ h = h0) := by
  refine Ctr.go (plainFor_of_name pn_15) fun p e s m below meth c s₁ Bd hx hby hml hZ hown hnm X0 e0 => ?_
  have N0 := Fr.nil n0
  have K0 := Keep.refl h0 []
  refine gs (S' := s₁.setTop (mkF m 0 #[iv p1, iv p2] [])) (fun tg kg => castTop (ef_27 m p1 p2) kg) ?_
  refine gs (fun _ k => jb X0 hx hby d14_0 rfl (jb X0 hx hby d14_1 rfl k)) ?_
  refine gS X0 hx hZ hown (host := "") (Or.inl (ow hw 90 rfl)) Via.refl e0 (S4.ext O0.2) hby d14_2 fun T1 X1 e1 => ?_
  refine cS (rest := []) X1 hx hZ hown (ow hw 92 rfl) (ow hw 93 rfl) (ow hw 91 rfl) (ow hw 94 rfl) (rm_ci l Z a0 hw [] p1 p2 fm h0 n0 Z0 O0 hlo hhi hfm) hby d14_5 e1 pd_245 0 (by rw [hml]; rfl) rfl rfl rfl rfl (by decide) (by decide) fun _ T2 Lc2 X2 hQ2 => ?_
  obtain ⟨rfl, N2q, e2q⟩ := hQ2
  have N2 := Fr.app N0 N2q
  refine gs (fun _ k => jR X2 hx hby d14_8 rfl k) ?_
  refine gout (v := none) X2 Bd.notSynchronized (fun _ => rfl) (by decide) (by decide) ?_ (fun fs hr => X2.returnOut hx Bd.returns (hb hby d14_9) hr)
  rw [e2q]
  exact ⟨rfl, N2, rfl⟩
theorem ef_248 (m : MethodId) (x0 : Int32) (x1 : Addr) : entryFrame m #[(.int x0), (.ref x1)] 2 = mkF m 0 #[.val (.int x0), .val (.ref x1)] [] := by first | (simp [entryFrame, mkF, argsToLocals, Value.category]; done) | rfl
abbrev oc15 := jdk_52_method_91_code
theorem d15_0 : decode oc15 0 = .ok (.iload_n 0, 1) := by decide +kernel
theorem d15_1 : decode oc15 1 = .ok (.aload_n 1, 1) := by decide +kernel
theorem d15_2 : decode oc15 2 = .ok (.invokestatic 48, 3) := by decide +kernel
theorem pd_253 : parseMethodDescriptor "([B)I" = some ⟨[(.array .byte)], some .int⟩ := by decide +kernel
theorem d15_5 : decode oc15 5 = .ok (.invokestatic 414, 3) := by decide +kernel
theorem pd_255 : parseMethodDescriptor "(II)V" = some ⟨[.int, .int], none⟩ := by decide +kernel
theorem d15_8 : decode oc15 8 = .ok (.return_, 1) := by decide +kernel
theorem rm_uci (l : Launch) (Z : State) (a0 : Array Value) (hw : HW Z a0) (ws : List Jvm.Cond) (t : Addr) (kb : ClassId) (vs : List Value) (j : Nat) (M : Nat) (fm : Value) (h0 : Heap) (n0 : Nat) (Z0 : n0 ≤ h0.size) (O0 : Old Z n0 h0) (V_t : Arv Z h0 t kb .byte (oI (2 * M)) vs (.int (0 : Int32))) (hjM : j < M) (hM : M ≤ 1000) (S4 : PS4 Z fm) (hfm : fm.isRef = true) :
    Ctr l Z (⟨"java/lang/StringUTF16", "checkIndex", "(I[B)V"⟩ : MethodName) jdk_52_method_91_code 2 ((Option.none : Option Jvm.ClassFile.FieldType)) ws (⟨2, 0, 0, 27⟩ : Room) #[(.int (oI j)), (.ref t)] h0 (fun v h L => v = none ∧ Fr n0 L ∧ h = h0) := by
  refine Ctr.go (plainFor_of_name pn_195) fun p e s m below meth c s₁ Bd hx hby hml hZ hown hnm X0 e0 => ?_
  have N0 := Fr.nil n0
  have K0 := Keep.refl h0 []
  refine gs (S' := s₁.setTop (mkF m 0 #[iv (oI j), rv t] [])) (fun tg kg => castTop (ef_248 m (oI j) t) kg) ?_
  refine gs (fun _ k => jb X0 hx hby d15_0 rfl (ja X0 hx hby d15_1 rfl rfl k)) ?_
  refine cS (rest := [(.int (oI j))]) X0 hx hZ hown (ow hw 272 rfl) (ow hw 273 rfl) (ow hw 21 rfl) (ow hw 274 rfl) (rm_ul l Z a0 hw [] t kb vs M h0 n0 Z0 O0 V_t hM) hby d15_2 e0 pd_253 1 (by rw [hml]; rfl) rfl rfl rfl rfl (by decide) (by decide) fun _ T1 Lc1 X1 hQ1 => ?_
  obtain ⟨rfl, N1q, e1q⟩ := hQ1
  have N1 := Fr.app N0 N1q
  refine cS (rest := []) X1 hx hZ hown (ow hw 275 rfl) (ow hw 88 rfl) (ow hw 6 rfl) (ow hw 89 rfl) (rm_sci l Z a0 hw [] (oI j) (oI M) fm h0 n0 Z0 O0 (js (by omega)) (jM (by omega) hjM) S4 hfm) hby d15_5 e1q pd_255 0 (by rw [hml]; rfl) rfl rfl rfl rfl (by decide) (by decide) fun _ T2 Lc2 X2 hQ2 => ?_
  obtain ⟨rfl, N2q, e2q⟩ := hQ2
  have N2 := Fr.app N1 N2q
  refine gout (v := none) X2 Bd.notSynchronized (fun _ => rfl) (by decide) (by decide) ?_ (fun fs hr => X2.returnOut hx Bd.returns (hb hby d15_8) hr)
  rw [e2q]
  exact ⟨rfl, N2, rfl⟩
abbrev oc16 := jdk_52_method_71_code
theorem d16_0 : decode oc16 0 = .ok (.iload_n 1, 1) := by decide +kernel
theorem d16_1 : decode oc16 1 = .ok (.aload_n 0, 1) := by decide +kernel
theorem d16_2 : decode oc16 2 = .ok (.invokestatic 67, 3) := by decide +kernel
theorem pd_262 : parseMethodDescriptor "(I[B)V" = some ⟨[.int, (.array .byte)], none⟩ := by decide +kernel
theorem d16_5 : decode oc16 5 = .ok (.aload_n 0, 1) := by decide +kernel
theorem d16_6 : decode oc16 6 = .ok (.iload_n 1, 1) := by decide +kernel
theorem d16_7 : decode oc16 7 = .ok (.iload_n 2, 1) := by decide +kernel
theorem d16_8 : decode oc16 8 = .ok (.invokestatic 111, 3) := by decide +kernel
theorem pd_267 : parseMethodDescriptor "([BII)V" = some ⟨[(.array .byte), .int, .int], none⟩ := by decide +kernel
theorem d16_11 : decode oc16 11 = .ok (.return_, 1) := by decide +kernel
theorem rm_psb (l : Launch) (Z : State) (a0 : Array Value) (hw : HW Z a0) (ws : List Jvm.Cond) (t : Addr) (kb : ClassId) (cs : List Int32) (cc : Int32) (N : Nat) (fm : Value) (h0 : Heap) (n0 : Nat) (Z0 : n0 ≤ h0.size) (O0 : Old Z n0 h0) (V_t : Arv Z h0 t kb .byte (oI (jk 1 N)) (jq cs) (.int (0 : Int32))) (g_t : n0 ≤ t) (hcN : cs.length < N) (hN : N ≤ 36) (S4 : PS4 Z fm) (hfm : fm.isRef = true) (S_ad : PS0 Z (.int (1 : Int32))) (S_hi : PS1 Z (.int (0 : Int32))) (S_lo : PS2 Z (.int (8 : Int32))) :
    Ctr l Z (⟨"java/lang/StringUTF16", "putCharSB", "([BII)V"⟩ : MethodName) jdk_52_method_71_code 3 ((Option.none : Option Jvm.ClassFile.FieldType)) ws (⟨3, 0, 0, 40⟩ : Room) #[(.ref t), (.int (oI cs.length)), (.int cc)] h0 (fun v h L => v = none ∧ Fr n0 L ∧ Keep h0 h [t] ∧ Arv Z h t kb .byte (oI (jk 1 N)) (jq (cs ++ [cc])) (.int (0 : Int32))) := by
  refine Ctr.go (plainFor_of_name pn_195) fun p e s m below meth c s₁ Bd hx hby hml hZ hown hnm X0 e0 => ?_
  have N0 := Fr.nil n0
  have K0 := Keep.refl h0 [t]
  refine gs (S' := s₁.setTop (mkF m 0 #[rv t, iv (oI cs.length), iv cc] [])) (fun tg kg => castTop (ef_171 m t (oI cs.length) cc) kg) ?_
  have V1 := V_t
  rw [jA] at V1
  refine gs (fun _ k => jb X0 hx hby d16_0 rfl (ja X0 hx hby d16_1 rfl rfl k)) ?_
  refine cS (rest := []) X0 hx hZ hown (ow hw 269 rfl) (ow hw 270 rfl) (ow hw 21 rfl) (ow hw 271 rfl) (rm_uci l Z a0 hw [] t kb (jq cs) cs.length N fm h0 n0 Z0 O0 V1 hcN (by omega) S4 hfm) hby d16_2 e0 pd_262 0 (by rw [hml]; rfl) rfl rfl rfl rfl (by decide) (by decide) fun _ T1 Lc1 X1 hQ1 => ?_
  obtain ⟨rfl, N1q, e1q⟩ := hQ1
  have N1 := Fr.app N0 N1q
  refine gs (fun _ k => ja X1 hx hby d16_5 rfl rfl (jb X1 hx hby d16_6 rfl (jb X1 hx hby d16_7 rfl k))) ?_
  refine cS (rest := []) X1 hx hZ hown (ow hw 254 rfl) (ow hw 255 rfl) (ow hw 21 rfl) (ow hw 256 rfl) (rm_pc l Z a0 hw [] t kb cs cc (oI cs.length) (2 * N) h0 n0 Z0 O0 V1 g_t rfl (by omega) (by omega) S_ad S_hi S_lo) hby d16_8 e1q pd_267 0 (by rw [hml]; rfl) rfl rfl rfl rfl (by decide) (by decide) fun _ T2 Lc2 X2 hQ2 => ?_
  obtain ⟨rfl, N2q, K2q, V2q⟩ := hQ2
  have N2 := Fr.app N1 N2q
  have Z3 := nt Z0 K2q.1
  have O3 := O0.keep K2q (allS g_t all0)
  have K3 := K0.trans K2q (allS (Or.inl (List.mem_of_getElem? (i := 0) rfl)) all0)
  refine gout (v := none) X2 Bd.notSynchronized (fun _ => rfl) (by decide) (by decide) ?_ (fun fs hr => X2.returnOut hx Bd.returns (hb hby d16_11) hr)
  exact ⟨rfl, N2, K3, by rw [jA]; exact V2q⟩
theorem ef_269 (m : MethodId) (x0 : Int32) (x1 : Int32) (x2 : Int32) (x3 : Value) (hx3 : x3.isRef = true) : entryFrame m #[(.int x0), (.int x1), (.int x2), x3] 4 = mkF m 0 #[.val (.int x0), .val (.int x1), .val (.int x2), .val x3] [] := by first | (simp [entryFrame, mkF, argsToLocals, Value.category]; done) | rfl | (rcases ref_cases hx3 with rfl | ⟨b, rfl⟩ <;> rfl)
abbrev oc17 := jdk_41_method_13_code
theorem d17_0 : decode oc17 0 = .ok (.iload_n 2, 1) := by decide +kernel
theorem d17_1 : decode oc17 1 = .ok (.iload_n 0, 1) := by decide +kernel
theorem d17_2 : decode oc17 2 = .ok (.ior, 1) := by decide +kernel
theorem d17_3 : decode oc17 3 = .ok (.iload_n 1, 1) := by decide +kernel
theorem d17_4 : decode oc17 4 = .ok (.ior, 1) := by decide +kernel
theorem d17_5 : decode oc17 5 = .ok (.ifCond .lt 10, 3) := by decide +kernel
theorem d17_8 : decode oc17 8 = .ok (.iload_n 1, 1) := by decide +kernel
theorem d17_9 : decode oc17 9 = .ok (.iload_n 2, 1) := by decide +kernel
theorem d17_10 : decode oc17 10 = .ok (.iload_n 0, 1) := by decide +kernel
theorem d17_11 : decode oc17 11 = .ok (.isub, 1) := by decide +kernel
theorem d17_12 : decode oc17 12 = .ok (.if_icmp .le 11, 3) := by decide +kernel
theorem d17_23 : decode oc17 23 = .ok (.iload_n 0, 1) := by decide +kernel
theorem d17_24 : decode oc17 24 = .ok (.ireturn, 1) := by decide +kernel
theorem rm_cfi (l : Launch) (Z : State) (a0 : Array Value) (hw : HW Z a0) (ws : List Jvm.Cond) (o : Nat) (n : Nat) (k : Nat) (fm : Value) (h0 : Heap) (n0 : Nat) (Z0 : n0 ≤ h0.size) (O0 : Old Z n0 h0) (hok : o + n ≤ k) (hk1 : k ≤ 1000) (hfm : fm.isRef = true) :
    Ctr l Z (⟨"jdk/internal/util/Preconditions", "checkFromIndexSize", "(IIILjava/util/function/BiFunction;)I"⟩ : MethodName) jdk_41_method_13_code 4 ((Option.some Jvm.ClassFile.FieldType.int)) ws (⟨0, 0, 0, 0⟩ : Room) #[(.int (oI o)), (.int (oI n)), (.int (oI k)), fm] h0 (fun v h L => v = some (.int (oI o)) ∧ Fr n0 L ∧ h = h0) := by
  refine Ctr.go (plainFor_of_name pn_238) fun p e s m below meth c s₁ Bd hx hby hml hZ hown hnm X0 e0 => ?_
  have N0 := Fr.nil n0
  have K0 := Keep.refl h0 []
  refine gs (S' := s₁.setTop (mkF m 0 #[iv (oI o), iv (oI n), iv (oI k), .val fm] [])) (fun tg kg => castTop (ef_269 m (oI o) (oI n) (oI k) fm hfm) kg) ?_
  refine gs (fun _ k => jb X0 hx hby d17_0 rfl (jb X0 hx hby d17_1 rfl (o_ior X0 hx hby d17_2 (jb X0 hx hby d17_3 rfl (o_ior X0 hx hby d17_4 (jn X0 hx hby d17_5 ((if0 _ _).trans (flt (own_fits3 hok (by omega)).1).1) (jb X0 hx hby d17_8 rfl (jb X0 hx hby d17_9 rfl (jb X0 hx hby d17_10 rfl (jO X0 hx hby d17_11 (jh (pc' := 23) X0 hx hby d17_12 (flt (own_fits3 hok (by omega)).2).2.2.2 (jb X0 hx hby d17_23 rfl k)))))))))))) ?_
  refine gout (v := some (.int (oI o))) X0 Bd.notSynchronized (fun h => by rw [Bd.returns] at h; cases h) (by decide) (by decide) ?_ (fun fs hr => retI X0 hx Bd.returns (hb hby d17_24) hr)
  rw [e0]
  exact ⟨rfl, N0, rfl⟩
theorem ef_284 (m : MethodId) (x0 : Int32) (x1 : Int32) (x2 : Int32) : entryFrame m #[(.int x0), (.int x1), (.int x2)] 3 = mkF m 0 #[.val (.int x0), .val (.int x1), .val (.int x2)] [] := by first | (simp [entryFrame, mkF, argsToLocals, Value.category]; done) | rfl
abbrev oc18 := jdk_42_method_157_code
theorem d18_0 : decode oc18 0 = .ok (.iload_n 0, 1) := by decide +kernel
theorem d18_1 : decode oc18 1 = .ok (.iload_n 1, 1) := by decide +kernel
theorem d18_2 : decode oc18 2 = .ok (.iload_n 2, 1) := by decide +kernel
theorem d18_3 : decode oc18 3 = .ok (.getstatic 1053, 3) := by decide +kernel
theorem d18_6 : decode oc18 6 = .ok (.invokestatic 1065, 3) := by decide +kernel
theorem pd_291 : parseMethodDescriptor "(IIILjava/util/function/BiFunction;)I" = some ⟨[.int, .int, .int, (.object "java/util/function/BiFunction")], some .int⟩ := by decide +kernel
theorem d18_9 : decode oc18 9 = .ok (.ireturn, 1) := by decide +kernel
theorem rm_scb (l : Launch) (Z : State) (a0 : Array Value) (hw : HW Z a0) (ws : List Jvm.Cond) (o : Nat) (n : Nat) (k : Nat) (fm : Value) (h0 : Heap) (n0 : Nat) (Z0 : n0 ≤ h0.size) (O0 : Old Z n0 h0) (hok : o + n ≤ k) (hk1 : k ≤ 1000) (S4 : PS4 Z fm) (hfm : fm.isRef = true) :
    Ctr l Z (⟨"java/lang/String", "checkBoundsOffCount", "(III)I"⟩ : MethodName) jdk_42_method_157_code 3 ((Option.some Jvm.ClassFile.FieldType.int)) ws (⟨1, 0, 0, 15⟩ : Room) #[(.int (oI o)), (.int (oI n)), (.int (oI k))] h0 (fun v h L => v = some (.int (oI o)) ∧ Fr n0 L ∧ h = h0) := by
  refine Ctr.go (plainFor_of_name pn_15) fun p e s m below meth c s₁ Bd hx hby hml hZ hown hnm X0 e0 => ?_
  have N0 := Fr.nil n0
  have K0 := Keep.refl h0 []
  refine gs (S' := s₁.setTop (mkF m 0 #[iv (oI o), iv (oI n), iv (oI k)] [])) (fun tg kg => castTop (ef_284 m (oI o) (oI n) (oI k)) kg) ?_
  refine gs (fun _ k => jb X0 hx hby d18_0 rfl (jb X0 hx hby d18_1 rfl (jb X0 hx hby d18_2 rfl k))) ?_
  refine gS X0 hx hZ hown (host := "") (Or.inl (ow hw 90 rfl)) Via.refl e0 (S4.ext O0.2) hby d18_3 fun T1 X1 e1 => ?_
  refine cS (rest := []) X1 hx hZ hown (ow hw 294 rfl) (ow hw 295 rfl) (ow hw 91 rfl) (ow hw 296 rfl) (rm_cfi l Z a0 hw [] o n k fm h0 n0 Z0 O0 hok hk1 hfm) hby d18_6 e1 pd_291 0 (by rw [hml]; rfl) rfl rfl rfl rfl (by decide) (by decide) fun _ T2 Lc2 X2 hQ2 => ?_
  obtain ⟨rfl, N2q, e2q⟩ := hQ2
  have N2 := Fr.app N0 N2q
  refine gout (v := some (.int (oI o))) X2 Bd.notSynchronized (fun h => by rw [Bd.returns] at h; cases h) (by decide) (by decide) ?_ (fun fs hr => retI X2 hx Bd.returns (hb hby d18_9) hr)
  rw [e2q]
  exact ⟨rfl, N2, rfl⟩
theorem ef_293 (m : MethodId) (x0 : Int32) (x1 : Int32) (x2 : Addr) : entryFrame m #[(.int x0), (.int x1), (.ref x2)] 3 = mkF m 0 #[.val (.int x0), .val (.int x1), .val (.ref x2)] [] := by first | (simp [entryFrame, mkF, argsToLocals, Value.category]; done) | rfl
abbrev oc19 := jdk_52_method_94_code
theorem d19_0 : decode oc19 0 = .ok (.iload_n 0, 1) := by decide +kernel
theorem d19_1 : decode oc19 1 = .ok (.iload_n 1, 1) := by decide +kernel
theorem d19_2 : decode oc19 2 = .ok (.aload_n 2, 1) := by decide +kernel
theorem d19_3 : decode oc19 3 = .ok (.invokestatic 48, 3) := by decide +kernel
theorem d19_6 : decode oc19 6 = .ok (.invokestatic 419, 3) := by decide +kernel
theorem d19_9 : decode oc19 9 = .ok (.pop, 1) := by decide +kernel
theorem d19_10 : decode oc19 10 = .ok (.return_, 1) := by decide +kernel
theorem rm_ucb (l : Launch) (Z : State) (a0 : Array Value) (hw : HW Z a0) (ws : List Jvm.Cond) (t : Addr) (kb : ClassId) (vs : List Value) (o : Nat) (n : Nat) (k : Nat) (fm : Value) (h0 : Heap) (n0 : Nat) (Z0 : n0 ≤ h0.size) (O0 : Old Z n0 h0) (V_t : Arv Z h0 t kb .byte (oI (2 * k)) vs (.int (0 : Int32))) (hok : o + n ≤ k) (hk1 : k ≤ 1000) (S4 : PS4 Z fm) (hfm : fm.isRef = true) :
    Ctr l Z (⟨"java/lang/StringUTF16", "checkBoundsOffCount", "(II[B)V"⟩ : MethodName) jdk_52_method_94_code 3 ((Option.none : Option Jvm.ClassFile.FieldType)) ws (⟨2, 0, 0, 29⟩ : Room) #[(.int (oI o)), (.int (oI n)), (.ref t)] h0 (fun v h L => v = none ∧ Fr n0 L ∧ h = h0) := by
  refine Ctr.go (plainFor_of_name pn_195) fun p e s m below meth c s₁ Bd hx hby hml hZ hown hnm X0 e0 => ?_
  have N0 := Fr.nil n0
  have K0 := Keep.refl h0 []
  refine gs (S' := s₁.setTop (mkF m 0 #[iv (oI o), iv (oI n), rv t] [])) (fun tg kg => castTop (ef_293 m (oI o) (oI n) t) kg) ?_
  refine gs (fun _ k => jb X0 hx hby d19_0 rfl (jb X0 hx hby d19_1 rfl (ja X0 hx hby d19_2 rfl rfl k))) ?_
  refine cS (rest := [(.int (oI n)), (.int (oI o))]) X0 hx hZ hown (ow hw 272 rfl) (ow hw 273 rfl) (ow hw 21 rfl) (ow hw 274 rfl) (rm_ul l Z a0 hw [] t kb vs k h0 n0 Z0 O0 V_t hk1) hby d19_3 e0 pd_253 2 (by rw [hml]; rfl) rfl rfl rfl rfl (by decide) (by decide) fun _ T1 Lc1 X1 hQ1 => ?_
  obtain ⟨rfl, N1q, e1q⟩ := hQ1
  have N1 := Fr.app N0 N1q
  refine cS (rest := []) X1 hx hZ hown (ow hw 291 rfl) (ow hw 292 rfl) (ow hw 6 rfl) (ow hw 293 rfl) (rm_scb l Z a0 hw [] o n k fm h0 n0 Z0 O0 hok hk1 S4 hfm) hby d19_6 e1q pd_88 0 (by rw [hml]; rfl) rfl rfl rfl rfl (by decide) (by decide) fun _ T2 Lc2 X2 hQ2 => ?_
  obtain ⟨rfl, N2q, e2q⟩ := hQ2
  have N2 := Fr.app N1 N2q
  refine gs (fun _ k => jR X2 hx hby d19_9 rfl k) ?_
  refine gout (v := none) X2 Bd.notSynchronized (fun _ => rfl) (by decide) (by decide) ?_ (fun fs hr => X2.returnOut hx Bd.returns (hb hby d19_10) hr)
  rw [e2q]
  exact ⟨rfl, N2, rfl⟩
theorem ef_302 (m : MethodId) (x0 : Addr) (x1 : Int32) (x2 : Addr) (x3 : Int32) (x4 : Int32) : entryFrame m #[(.ref x0), (.int x1), (.ref x2), (.int x3), (.int x4)] 6 = mkF m 0 #[.val (.ref x0), .val (.int x1), .val (.ref x2), .val (.int x3), .val (.int x4), .unset] [] := by first | (simp [entryFrame, mkF, argsToLocals, Value.category]; done) | rfl
abbrev oc20 := jdk_52_method_86_code
theorem d20_0 : decode oc20 0 = .ok (.iload_n 3, 1) := by decide +kernel
theorem d20_1 : decode oc20 1 = .ok (.iload 4, 2) := by decide +kernel
theorem d20_3 : decode oc20 3 = .ok (.aload_n 2, 1) := by decide +kernel
theorem d20_4 : decode oc20 4 = .ok (.invokestatic 173, 3) := by decide +kernel
theorem pd_308 : parseMethodDescriptor "(II[B)V" = some ⟨[.int, .int, (.array .byte)], none⟩ := by decide +kernel
theorem d20_7 : decode oc20 7 = .ok (.iconst 0, 1) := by decide +kernel
theorem d20_8 : decode oc20 8 = .ok (.istore 5, 2) := by decide +kernel
theorem d20_10 : decode oc20 10 = .ok (.iload 5, 2) := by decide +kernel
theorem d20_12 : decode oc20 12 = .ok (.iload 4, 2) := by decide +kernel
theorem d20_14 : decode oc20 14 = .ok (.if_icmp .ge 27, 3) := by decide +kernel
theorem d20_41 : decode oc20 41 = .ok (.return_, 1) := by decide +kernel
theorem d20_17 : decode oc20 17 = .ok (.aload_n 2, 1) := by decide +kernel
theorem d20_18 : decode oc20 18 = .ok (.iload_n 3, 1) := by decide +kernel
theorem d20_19 : decode oc20 19 = .ok (.iinc 3 1, 3) := by decide +kernel
theorem d20_22 : decode oc20 22 = .ok (.aload_n 0, 1) := by decide +kernel
theorem d20_23 : decode oc20 23 = .ok (.iload_n 1, 1) := by decide +kernel
theorem d20_24 : decode oc20 24 = .ok (.iinc 1 1, 3) := by decide +kernel
theorem d20_27 : decode oc20 27 = .ok (.baload, 1) := by decide +kernel
theorem d20_28 : decode oc20 28 = .ok (.sipush 255, 3) := by decide +kernel
theorem d20_31 : decode oc20 31 = .ok (.iand, 1) := by decide +kernel
theorem d20_32 : decode oc20 32 = .ok (.invokestatic 111, 3) := by decide +kernel
theorem d20_35 : decode oc20 35 = .ok (.iinc 5 1, 3) := by decide +kernel
theorem d20_38 : decode oc20 38 = .ok (.goto (-28), 3) := by decide +kernel
theorem rm_ui (l : Launch) (Z : State) (a0 : Array Value) (hw : HW Z a0) (ws : List Jvm.Cond) (u : Addr) (ku : ClassId) (xs : List Int32) (M : Nat) (t : Addr) (kb : ClassId) (ds : List Int32) (N : Nat) (fm : Value) (h0 : Heap) (n0 : Nat) (Z0 : n0 ≤ h0.size) (O0 : Old Z n0 h0) (V_u : Arv Z h0 u ku .byte (oI M) (jC xs) (.int (0 : Int32))) (hbx : ∀ c ∈ xs, ¬ c < 0 ∧ ¬ (255 : Int32) < c) (hxM : xs.length ≤ M) (hM : M ≤ 1000) (V_t : Arv Z h0 t kb .byte (oI (2 * N)) (jq ds) (.int (0 : Int32))) (g_t : n0 ≤ t) (hut : u ≠ t) (hfit : ds.length + xs.length ≤ N) (hN : N ≤ 100) (S4 : PS4 Z fm) (hfm : fm.isRef = true) (S_ad : PS0 Z (.int (1 : Int32))) (S_hi : PS1 Z (.int (0 : Int32))) (S_lo : PS2 Z (.int (8 : Int32))) :
    Ctr l Z (⟨"java/lang/StringUTF16", "inflate", "([BI[BII)V"⟩ : MethodName) jdk_52_method_86_code 6 ((Option.none : Option Jvm.ClassFile.FieldType)) ws (⟨3, 0, 0, 43⟩ : Room) #[(.ref u), (.int (0 : Int32)), (.ref t), (.int (oI ds.length)), (.int (oI xs.length))] h0 (fun v h L => v = none ∧ Fr n0 L ∧ Keep h0 h [t] ∧ Arv Z h t kb .byte (oI (2 * N)) (jq (ds ++ xs)) (.int (0 : Int32))) := by
  refine Ctr.go (plainFor_of_name pn_195) fun p e s m below meth c s₁ Bd hx hby hml hZ hown hnm X0 e0 => ?_
  have N0 := Fr.nil n0
  have K0 := Keep.refl h0 [t]
  refine gs (S' := s₁.setTop (mkF m 0 #[rv u, iv (0 : Int32), rv t, iv (oI ds.length), iv (oI xs.length), uu] [])) (fun tg kg => castTop (ef_302 m u (0 : Int32) t (oI ds.length) (oI xs.length)) kg) ?_
  refine gs (fun _ k => jb X0 hx hby d20_0 rfl (jd X0 hx hby d20_1 rfl (ja X0 hx hby d20_3 rfl rfl k))) ?_
  refine cS (rest := []) X0 hx hZ hown (ow hw 288 rfl) (ow hw 289 rfl) (ow hw 21 rfl) (ow hw 290 rfl) (rm_ucb l Z a0 hw [] t kb (jq ds) ds.length xs.length N fm h0 n0 Z0 O0 V_t hfit (by omega) S4 hfm) hby d20_4 e0 pd_308 0 (by rw [hml]; rfl) rfl rfl rfl rfl (by decide) (by decide) fun _ T1 Lc1 X1 hQ1 => ?_
  obtain ⟨rfl, N1q, e1q⟩ := hQ1
  have N1 := Fr.app N0 N1q
  refine gs (fun _ k => je (v := (0 : Int32)) X1 hx hby d20_7 (jj X1 hx hby d20_8 rfl k)) ?_
  have lp : ∀ (r i : Nat) (Tj : State) (lj : List Loc) (hj : Heap), i + r = xs.length → Stand p l e (⟨3, 0, 0, 43⟩ : Room) s m #[(.ref u), (.int (0 : Int32)), (.ref t), (.int (oI ds.length)), (.int (oI xs.length))] below meth c Tj lj 0 0 → Tj.heap = hj → Fr n0 lj → n0 ≤ hj.size → Old Z n0 hj → Keep h0 hj [t] → Arv Z hj t kb .byte (oI (2 * N)) (jq (ds ++ xs.take i)) (.int (0 : Int32)) → OwnGo p e below s (fun v h L => v = none ∧ Fr n0 L ∧ Keep h0 h [t] ∧ Arv Z h t kb .byte (oI (2 * N)) (jq (ds ++ xs)) (.int (0 : Int32))) (⟨3, 0, 0, 43⟩ : Room).cells (⟨3, 0, 0, 43⟩ : Room).slots (Tj.setTop (mkF m 10 #[rv u, iv (oI i), rv t, iv ((oI (ds.length + i))), iv (oI xs.length), iv (oI i)] [])) := by
    intro r
    induction r with
    | zero =>
      intro i Tj lj hj hi Xj ej Nj Zj Oj Kj Vj
      have Uj := V_u.keep Kj (ninS hut nin0)
      have ei : i = xs.length := by omega
      rw [ei, List.take_length] at Vj
      refine gs (fun _ k => jd Xj hx hby d20_10 rfl (jd Xj hx hby d20_12 rfl (jh (pc' := 41) Xj hx hby d20_14 (flt (own_nlt32 (by omega) (by omega))).2.1 k))) ?_
      refine gout (v := none) Xj Bd.notSynchronized (fun _ => rfl) (by decide) (by decide) ?_ (fun fs hr => Xj.returnOut hx Bd.returns (hb hby d20_41) hr)
      rw [ej]
      exact ⟨rfl, Nj, Kj, Vj⟩
    | succ r ih =>
      intro i Tj lj hj hi Xj ej Nj Zj Oj Kj Vj
      have Uj := V_u.keep Kj (ninS hut nin0)
      have hlt : i < xs.length := by omega
      have hln : (ds ++ xs.take i).length = ds.length + i := by rw [List.length_append, List.length_take]; omega
      refine gs (fun _ k => jd Xj hx hby d20_10 rfl (jd Xj hx hby d20_12 rfl (ji Xj hx hby d20_14 (tlt (jM (by omega) (by omega))).2.1 (ja Xj hx hby d20_17 rfl rfl (jb Xj hx hby d20_18 rfl (jm Xj hx hby d20_19 rfl rfl (ja Xj hx hby d20_22 rfl rfl (jb Xj hx hby d20_23 rfl (jm Xj hx hby d20_24 rfl rfl k))))))))) ?_
      obtain ⟨cl2, A2, a2q, a2S, a2N, a2H, a2G⟩ := id Uj
      have hi2 := inb_of a2S (j := (oI i)) ⟨js (by omega), jM (by omega) (by omega)⟩
      refine gs (fun _ k => Xj.baloadBytes hx (j := (oI i)) (v := (.int ((xs.getD i 0).toInt8.toInt32))) (by rw [ej]; exact A2.1) (State.isArrayOf_alike hZ.alike A2.2.1) A2.2.2 hi2 (Has.at a2H hi2 (by rw [jQ (by omega)]; exact own_bvg xs i hlt)) (g := (mkF m 27 #[rv u, iv (((oI i) + (1 : Int32))), rv t, iv (((oI (ds.length + i)) + (1 : Int32))), iv (oI xs.length), iv (oI i)] [(.int (oI i)), (.ref u), (.int (oI (ds.length + i))), (.ref t)])) rfl rfl (hb hby d20_27) _ (XS.sipush Xj.here hx rfl (hb hby d20_28) (o_iand Xj hx hby d20_31 k))) ?_
      show OwnGo p e below s _ _ _ (Tj.setTop (mkF m 32 #[rv u, iv (((oI i) + (1 : Int32))), rv t, iv (((oI (ds.length + i)) + (1 : Int32))), iv (oI xs.length), iv (oI i)] [(.int (((xs.getD i 0).toInt8.toInt32) &&& (255 : Int32))), (.int (oI (ds.length + i))), (.ref t)]))
      rw [own_chl (jG xs hbx hlt)]
      refine cS (rest := []) Xj hx hZ hown (ow hw 254 rfl) (ow hw 255 rfl) (ow hw 21 rfl) (ow hw 256 rfl) (rm_pc l Z a0 hw [] t kb (ds ++ xs.take i) (xs.getD i 0) (oI (ds.length + i)) (2 * N) hj n0 Zj Oj Vj g_t (by rw [hln]) (by omega) (by omega) S_ad S_hi S_lo) hby d20_32 ej pd_267 0 (by rw [hml]; rfl) rfl rfl rfl rfl (by decide) (by decide) fun _ T3 Lc3 X3 hQ3 => ?_
      obtain ⟨rfl, N3q, K3q, V3q⟩ := hQ3
      have N3 := Fr.app Nj N3q
      have Z4 := nt Zj K3q.1
      have O4 := Oj.keep K3q (allS g_t all0)
      have K4 := Kj.trans K3q (allS (Or.inl (List.mem_of_getElem? (i := 0) rfl)) all0)
      refine gs (fun _ k => jm X3 hx hby d20_35 rfl rfl k) ?_
      show OwnGo p e below s _ _ _ (T3.setTop (mkF m 38 #[rv u, iv (((oI i) + (1 : Int32))), rv t, iv (((oI (ds.length + i)) + (1 : Int32))), iv (oI xs.length), iv (((oI i) + (1 : Int32)))] []))
      rw [own_e1 i]
      show OwnGo p e below s _ _ _ (T3.setTop (mkF m 38 #[rv u, iv ((oI (i + 1))), rv t, iv (((oI (ds.length + i)) + (1 : Int32))), iv (oI xs.length), iv ((oI (i + 1)))] []))
      rw [own_e1 (ds.length + i)]
      refine gs (fun _ k => jl (pc' := 10) X3 hx hby d20_38 k) ?_
      exact ih (i + 1) T3 _ T3.heap (by omega) X3 rfl N3 Z4 O4 K4 (by rw [own_tk ds xs hlt]; exact V3q)
  exact lp xs.length 0 T1 _ h0 (by omega) X1 e1q N1 Z0 O0 K0 (by rw [List.take_zero, List.append_nil]; exact V_t)
theorem ef_327 (m : MethodId) (x0 : Addr) (x1 : Int32) (x2 : Addr) (x3 : Int32) (x4 : Int32) : entryFrame m #[(.ref x0), (.int x1), (.ref x2), (.int x3), (.int x4)] 5 = mkF m 0 #[.val (.ref x0), .val (.int x1), .val (.ref x2), .val (.int x3), .val (.int x4)] [] := by first | (simp [entryFrame, mkF, argsToLocals, Value.category]; done) | rfl
abbrev oc21 := jdk_43_method_50_code
theorem d21_0 : decode oc21 0 = .ok (.aload_n 0, 1) := by decide +kernel
theorem d21_1 : decode oc21 1 = .ok (.iload_n 1, 1) := by decide +kernel
theorem d21_2 : decode oc21 2 = .ok (.aload_n 2, 1) := by decide +kernel
theorem d21_3 : decode oc21 3 = .ok (.iload_n 3, 1) := by decide +kernel
theorem d21_4 : decode oc21 4 = .ok (.iload 4, 2) := by decide +kernel
theorem d21_6 : decode oc21 6 = .ok (.invokestatic 240, 3) := by decide +kernel
theorem pd_335 : parseMethodDescriptor "([BI[BII)V" = some ⟨[(.array .byte), .int, (.array .byte), .int, .int], none⟩ := by decide +kernel
theorem d21_9 : decode oc21 9 = .ok (.return_, 1) := by decide +kernel
theorem rm_li (l : Launch) (Z : State) (a0 : Array Value) (hw : HW Z a0) (ws : List Jvm.Cond) (u : Addr) (ku : ClassId) (xs : List Int32) (M : Nat) (t : Addr) (kb : ClassId) (ds : List Int32) (N : Nat) (fm : Value) (h0 : Heap) (n0 : Nat) (Z0 : n0 ≤ h0.size) (O0 : Old Z n0 h0) (V_u : Arv Z h0 u ku .byte (oI M) (jC xs) (.int (0 : Int32))) (hbx : ∀ c ∈ xs, ¬ c < 0 ∧ ¬ (255 : Int32) < c) (hxM : xs.length ≤ M) (hM : M ≤ 1000) (V_t : Arv Z h0 t kb .byte (oI (2 * N)) (jq ds) (.int (0 : Int32))) (g_t : n0 ≤ t) (hut : u ≠ t) (hfit : ds.length + xs.length ≤ N) (hN : N ≤ 100) (S4 : PS4 Z fm) (hfm : fm.isRef = true) (S_ad : PS0 Z (.int (1 : Int32))) (S_hi : PS1 Z (.int (0 : Int32))) (S_lo : PS2 Z (.int (8 : Int32))) :
    Ctr l Z (⟨"java/lang/StringLatin1", "inflate", "([BI[BII)V"⟩ : MethodName) jdk_43_method_50_code 5 ((Option.none : Option Jvm.ClassFile.FieldType)) ws (⟨4, 0, 0, 60⟩ : Room) #[(.ref u), (.int (0 : Int32)), (.ref t), (.int (oI ds.length)), (.int (oI xs.length))] h0 (fun v h L => v = none ∧ Fr n0 L ∧ Keep h0 h [t] ∧ Arv Z h t kb .byte (oI (2 * N)) (jq (ds ++ xs)) (.int (0 : Int32))) := by
  refine Ctr.go (plainFor_of_name pn_167) fun p e s m below meth c s₁ Bd hx hby hml hZ hown hnm X0 e0 => ?_
  have N0 := Fr.nil n0
  have K0 := Keep.refl h0 [t]
  refine gs (S' := s₁.setTop (mkF m 0 #[rv u, iv (0 : Int32), rv t, iv (oI ds.length), iv (oI xs.length)] [])) (fun tg kg => castTop (ef_327 m u (0 : Int32) t (oI ds.length) (oI xs.length)) kg) ?_
  refine gs (fun _ k => ja X0 hx hby d21_0 rfl rfl (jb X0 hx hby d21_1 rfl (ja X0 hx hby d21_2 rfl rfl (jb X0 hx hby d21_3 rfl (jd X0 hx hby d21_4 rfl k))))) ?_
  refine cS (rest := []) X0 hx hZ hown (ow hw 285 rfl) (ow hw 286 rfl) (ow hw 21 rfl) (ow hw 287 rfl) (rm_ui l Z a0 hw [] u ku xs M t kb ds N fm h0 n0 Z0 O0 V_u hbx hxM hM V_t g_t hut hfit hN S4 hfm S_ad S_hi S_lo) hby d21_6 e0 pd_335 0 (by rw [hml]; rfl) rfl rfl rfl rfl (by decide) (by decide) fun _ T1 Lc1 X1 hQ1 => ?_
  obtain ⟨rfl, N1q, K1q, V1q⟩ := hQ1
  have N1 := Fr.app N0 N1q
  have Z2 := nt Z0 K1q.1
  have O2 := O0.keep K1q (allS g_t all0)
  have K2 := K0.trans K1q (allS (Or.inl (List.mem_of_getElem? (i := 0) rfl)) all0)
  refine gout (v := none) X1 Bd.notSynchronized (fun _ => rfl) (by decide) (by decide) ?_ (fun fs hr => X1.returnOut hx Bd.returns (hb hby d21_9) hr)
  exact ⟨rfl, N1, K2, V1q⟩
abbrev oc22 := jdk_52_method_3_code
theorem d22_0 : decode oc22 0 = .ok (.iload_n 0, 1) := by decide +kernel
theorem d22_1 : decode oc22 1 = .ok (.ifCond .ge 11, 3) := by decide +kernel
theorem d22_12 : decode oc22 12 = .ok (.iload_n 0, 1) := by decide +kernel
theorem d22_13 : decode oc22 13 = .ok (.ldc 20, 2) := by decide +kernel
theorem d22_15 : decode oc22 15 = .ok (.if_icmp .lt 40, 3) := by decide +kernel
theorem d22_55 : decode oc22 55 = .ok (.iload_n 0, 1) := by decide +kernel
theorem d22_56 : decode oc22 56 = .ok (.iconst 1, 1) := by decide +kernel
theorem d22_57 : decode oc22 57 = .ok (.ishl, 1) := by decide +kernel
theorem d22_58 : decode oc22 58 = .ok (.ireturn, 1) := by decide +kernel
theorem rm_nbl (l : Launch) (Z : State) (a0 : Array Value) (hw : HW Z a0) (ws : List Jvm.Cond) (n : Nat) (h0 : Heap) (n0 : Nat) (Z0 : n0 ≤ h0.size) (O0 : Old Z n0 h0) (hn : n ≤ 100) :
    Ctr l Z (⟨"java/lang/StringUTF16", "newBytesLength", "(I)I"⟩ : MethodName) jdk_52_method_3_code 1 ((Option.some Jvm.ClassFile.FieldType.int)) ws (⟨0, 0, 0, 0⟩ : Room) #[(.int (oI n))] h0 (fun v h L => v = some (.int (oI (2 * n))) ∧ Fr n0 L ∧ h = h0) := by
  refine Ctr.go (plainFor_of_name pn_195) fun p e s m below meth c s₁ Bd hx hby hml hZ hown hnm X0 e0 => ?_
  have N0 := Fr.nil n0
  have K0 := Keep.refl h0 []
  refine gs (S' := s₁.setTop (mkF m 0 #[iv (oI n)] [])) (fun tg kg => castTop (ef_160 m (oI n)) kg) ?_
  refine gs (fun _ k => jb X0 hx hby d22_0 rfl (jt (pc' := 12) X0 hx hby d22_1 ((if0 _ _).trans (flt (js (by omega))).2.1) (jb X0 hx hby d22_12 rfl (X0.ldcInt hx hown (mvT hZ (ow hw 253 rfl)) (g := (mkF m 13 #[iv (oI n)] [(.int (oI n))])) rfl (hb hby d22_13) _ (jh (pc' := 55) X0 hx hby d22_15 (tlt (own_lt1G (by omega))).1 (jb X0 hx hby d22_55 rfl (je (v := (1 : Int32)) X0 hx hby d22_56 (o_ishl X0 hx hby d22_57 k)))))))) ?_
  refine gout (v := some (.int ((oI n) <<< ((1 : Int32) &&& 31)))) X0 Bd.notSynchronized (fun h => by rw [Bd.returns] at h; cases h) (by decide) (by decide) ?_ (fun fs hr => retI X0 hx Bd.returns (hb hby d22_58) hr)
  rw [e0]
  exact ⟨congrArg (fun q => some (Value.int q)) (own_shl1 (n := n) (by omega)), N0, rfl⟩
abbrev oc23 := jdk_52_method_2_code
theorem d23_0 : decode oc23 0 = .ok (.iload_n 0, 1) := by decide +kernel
theorem d23_1 : decode oc23 1 = .ok (.invokestatic 11, 3) := by decide +kernel
theorem d23_4 : decode oc23 4 = .ok (.newarray .byte, 2) := by decide +kernel
theorem d23_6 : decode oc23 6 = .ok (.areturn, 1) := by decide +kernel
theorem rm_nbf (l : Launch) (Z : State) (a0 : Array Value) (hw : HW Z a0) (ws : List Jvm.Cond) (n : Nat) (h0 : Heap) (n0 : Nat) (Z0 : n0 ≤ h0.size) (O0 : Old Z n0 h0) (hn : n ≤ 100) :
    Ctr l Z (⟨"java/lang/StringUTF16", "newBytesFor", "(I)[B"⟩ : MethodName) jdk_52_method_2_code 1 ((Option.some (Jvm.ClassFile.FieldType.array Jvm.ClassFile.FieldType.byte))) ws (⟨1, 1, 200, 12⟩ : Room) #[(.int (oI n))] h0 (fun v h L => ∃ (t1 : Addr) (k1 : ClassId), v = some (.ref t1) ∧ Fr n0 L ∧ Keep h0 h [] ∧ h0.size ≤ t1 ∧ Exa Z h t1 "[B" ∧ Arv Z h t1 k1 .byte (oI (2 * n)) [] (.int (0 : Int32))) := by
  refine Ctr.go (plainFor_of_name pn_195) fun p e s m below meth c s₁ Bd hx hby hml hZ hown hnm X0 e0 => ?_
  have N0 := Fr.nil n0
  have K0 := Keep.refl h0 []
  refine gs (S' := s₁.setTop (mkF m 0 #[iv (oI n)] [])) (fun tg kg => castTop (ef_160 m (oI n)) kg) ?_
  refine gs (fun _ k => jb X0 hx hby d23_0 rfl k) ?_
  refine cS (rest := []) X0 hx hZ hown (ow hw 250 rfl) (ow hw 251 rfl) (ow hw 21 rfl) (ow hw 252 rfl) (rm_nbl l Z a0 hw [] n h0 n0 Z0 O0 hn) hby d23_1 e0 pd_141 0 (by rw [hml]; rfl) rfl rfl rfl rfl (by decide) (by decide) fun _ T1 Lc1 X1 hQ1 => ?_
  obtain ⟨rfl, N1q, e1q⟩ := hQ1
  have N1 := Fr.app N0 N1q
  obtain ⟨T2, h2, k2, X2, e2, E2, A2, Ex2, st2⟩ := newPE X1 hx hZ (ow hw 23 rfl) e1q (g := (mkF m 4 #[iv (oI n)] [(.int (oI (2 * n)))])) rfl (hb hby d23_4) rfl (js (by omega)) (cap := 200) (own_nc (by omega) (by omega)) (by decide) (by decide) (by decide) (ad := "[B") rfl
  obtain ⟨b2, q2⟩ : ∃ z, z = h0.size := ⟨_, rfl⟩
  rw [← q2] at A2 st2 Ex2
  have g_b2 : n0 ≤ b2 := nt Z0 (Nat.le_of_eq q2.symm)
  have sz_b2 : h0.size ≤ b2 := nt K0.1 (Nat.le_of_eq q2.symm)
  have Z3 := nt Z0 E2.1
  have O3 := O0.ext E2
  have K3 := K0.ext E2
  have V2 : Arv Z h2 b2 k2 .byte (oI (2 * n)) [] (.int (0 : Int32)) := Arv.new A2 (js (by omega))
  refine gs (S' := T2.setTop (mkF m 6 #[iv (oI n)] [(.ref b2)])) st2 ?_
  refine gout (v := some (.ref b2)) X2 Bd.notSynchronized (fun h => by rw [Bd.returns] at h; cases h) (by decide) (by decide) ?_ (fun fs hr => retOut X2 hx Bd.returns rfl (Or.inr (Or.inr (Or.inr (Or.inr ⟨rfl, rfl, rfl⟩)))) (hb hby d23_6) hr)
  rw [e2]
  exact ⟨_, _, rfl, N1, K3, sz_b2, Ex2, V2⟩
theorem ef_354 (m : MethodId) (x0 : Addr) : entryFrame m #[(.ref x0)] 2 = mkF m 0 #[.val (.ref x0), .unset] [] := by first | (simp [entryFrame, mkF, argsToLocals, Value.category]; done) | rfl
abbrev oc24 := jdk_68_method_11_code
theorem d24_0 : decode oc24 0 = .ok (.aload_n 0, 1) := by decide +kernel
theorem d24_1 : decode oc24 1 = .ok (.invokevirtual 83, 3) := by decide +kernel
theorem pd_358 : parseMethodDescriptor "()Z" = some ⟨[], some .boolean⟩ := by decide +kernel
theorem d24_4 : decode oc24 4 = .ok (.ifCond .ne 4, 3) := by decide +kernel
theorem d24_8 : decode oc24 8 = .ok (.aload_n 0, 1) := by decide +kernel
theorem d24_9 : decode oc24 9 = .ok (.getfield 15, 3) := by decide +kernel
theorem d24_12 : decode oc24 12 = .ok (.arraylength, 1) := by decide +kernel
theorem d24_13 : decode oc24 13 = .ok (.invokestatic 26, 3) := by decide +kernel
theorem pd_364 : parseMethodDescriptor "(I)[B" = some ⟨[.int], some (.array .byte)⟩ := by decide +kernel
theorem d24_16 : decode oc24 16 = .ok (.astore_n 1, 1) := by decide +kernel
theorem d24_17 : decode oc24 17 = .ok (.aload_n 0, 1) := by decide +kernel
theorem d24_18 : decode oc24 18 = .ok (.getfield 15, 3) := by decide +kernel
theorem d24_21 : decode oc24 21 = .ok (.iconst 0, 1) := by decide +kernel
theorem d24_22 : decode oc24 22 = .ok (.aload_n 1, 1) := by decide +kernel
theorem d24_23 : decode oc24 23 = .ok (.iconst 0, 1) := by decide +kernel
theorem d24_24 : decode oc24 24 = .ok (.aload_n 0, 1) := by decide +kernel
theorem d24_25 : decode oc24 25 = .ok (.getfield 79, 3) := by decide +kernel
theorem d24_28 : decode oc24 28 = .ok (.invokestatic 125, 3) := by decide +kernel
theorem d24_31 : decode oc24 31 = .ok (.aload_n 0, 1) := by decide +kernel
theorem d24_32 : decode oc24 32 = .ok (.aload_n 1, 1) := by decide +kernel
theorem d24_33 : decode oc24 33 = .ok (.putfield 15, 3) := by decide +kernel
theorem d24_36 : decode oc24 36 = .ok (.aload_n 0, 1) := by decide +kernel
theorem d24_37 : decode oc24 37 = .ok (.iconst 1, 1) := by decide +kernel
theorem d24_38 : decode oc24 38 = .ok (.putfield 22, 3) := by decide +kernel
theorem d24_41 : decode oc24 41 = .ok (.return_, 1) := by decide +kernel
theorem rm_inf0 (l : Launch) (Z : State) (a0 : Array Value) (hw : HW Z a0) (ws : List Jvm.Cond) (b : Addr) (t : Addr) (kb : ClassId) (cs : List Int32) (N : Nat) (z : Int32) (fm : Value) (h0 : Heap) (n0 : Nat) (Z0 : n0 ≤ h0.size) (O0 : Old Z n0 h0) (B0 : BB Z h0 b t kb (0 : Int32) (oI cs.length) (oI (jk 0 N)) (jC cs)) (hN : N ≤ 36) (hcN : cs.length ≤ N) (hbd : ∀ c ∈ cs, ¬ c < 0 ∧ ¬ (255 : Int32) < c) (g_b : n0 ≤ b) (S0 : PS3 Z (.int z)) (hz : ¬ z = 0) (S4 : PS4 Z fm) (hfm : fm.isRef = true) (S_ad : PS0 Z (.int (1 : Int32))) (S_hi : PS1 Z (.int (0 : Int32))) (S_lo : PS2 Z (.int (8 : Int32))) :
    Ctr l Z my11 jdk_68_method_11_code 2 ((Option.none : Option Jvm.ClassFile.FieldType)) ws (⟨5, 1, 200, 76⟩ : Room) #[(.ref b)] h0 (fun v h L => ∃ (t1 : Addr) (k1 : ClassId), v = none ∧ Fr n0 L ∧ Keep h0 h [b] ∧ h0.size ≤ t1 ∧ BB Z h b t1 k1 (1 : Int32) (oI cs.length) (oI (jk 1 N)) (jq cs)) := by
  refine Ctr.go (plainFor_of_name pn_98) fun p e s m below meth c s₁ Bd hx hby hml hZ hown hnm X0 e0 => ?_
  have N0 := Fr.nil n0
  have K0 := Keep.refl h0 [b]
  refine gs (S' := s₁.setTop (mkF m 0 #[rv b, uu] [])) (fun tg kg => castTop (ef_354 m b) kg) ?_
  obtain ⟨E_b, F_v, F_c, F_n, F_m, E_t, V_t⟩ := id B0
  have es := jy N
  refine gs (fun _ k => ja X0 hx hby d24_0 rfl rfl k) ?_
  refine cV (rest := []) X0 hx hZ hown (ow hw 239 rfl) (ow hw 183 rfl) (nfs hZ (ow hw 185 rfl)) (ow hw 185 rfl) (ow hw 184 rfl) (ow hw 65 rfl) (ow hw 186 rfl) (rm_il0 l Z a0 hw [] b z h0 n0 Z0 O0 E_b F_c S0 hz) hby d24_1 e0 pd_358 0 (by rw [hml]; rfl) E_b rfl rfl rfl rfl (by decide) (by decide) fun _ T1 Lc1 X1 hQ1 => ?_
  obtain ⟨rfl, N1q, e1q⟩ := hQ1
  have N1 := Fr.app N0 N1q
  refine gs (fun _ k => jt (pc' := 8) X1 hx hby d24_4 ((if0 _ _).trans (feq (by decide : ¬ ((1 : Int32) = (0 : Int32)))).2) (ja X1 hx hby d24_8 rfl rfl k)) ?_
  refine gF X1 hx hZ hown (host := "") (Or.inl (ow hw 69 rfl)) Via.refl e1q F_v hby d24_9 fun T2 X2 e2 => ?_
  obtain ⟨cl3, A3, a3q, a3S, a3N, a3H, a3G⟩ := id V_t
  refine gs (S' := T2.setTop (mkF m 13 #[rv b, uu] [(.int (oI (jk 0 N)))])) (fun _ k => by refine X2.arraylength hx (by rw [e2]; exact A3.1) (State.isArrayOf_alike hZ.alike A3.2.1) (g := (mkF m 12 #[rv b, uu] [(.ref t)])) rfl rfl (hb hby d24_12) _ ?_; rw [len_of a3S a3N]; exact k) ?_
  refine cS (rest := []) X2 hx hZ hown (ow hw 281 rfl) (ow hw 248 rfl) (ow hw 21 rfl) (ow hw 249 rfl) (rm_nbf l Z a0 hw [] (jk 0 N) h0 n0 Z0 O0 (by omega)) hby d24_13 e2 pd_364 0 (by rw [hml]; rfl) rfl rfl rfl rfl (by decide) (by decide) fun _ T4 Lc4 X4 hQ4 => ?_
  obtain ⟨t4, kb4, rfl, N4q, K4q, g4t, E4t, V4q⟩ := hQ4
  have N4 := Fr.app N1 N4q
  have g_t4 : n0 ≤ t4 := nt Z0 g4t
  have sz_t4 : h0.size ≤ t4 := nt K0.1 g4t
  have Z5 := nt Z0 K4q.1
  have O5 := O0.keep K4q all0
  have K5 := K0.trans K4q all0
  refine gs (fun _ k => jw X4 hx hby d24_16 rfl rfl (ja X4 hx hby d24_17 rfl rfl k)) ?_
  have f6 := (F_v.keep K4q nin0)
  refine gF X4 hx hZ hown (host := "") (Or.inl (ow hw 69 rfl)) Via.refl rfl f6 hby d24_18 fun T7 X7 e7 => ?_
  refine gs (fun _ k => je (v := (0 : Int32)) X7 hx hby d24_21 (ja X7 hx hby d24_22 rfl rfl (je (v := (0 : Int32)) X7 hx hby d24_23 (ja X7 hx hby d24_24 rfl rfl k)))) ?_
  have f8 := (F_n.keep K4q nin0)
  refine gF X7 hx hZ hown (host := "") (Or.inl (ow hw 107 rfl)) Via.refl e7 f8 hby d24_25 fun T9 X9 e9 => ?_
  have f10 := (V_t.keep K4q nin0)
  refine cS (rest := []) X9 hx hZ hown (ow hw 282 rfl) (ow hw 283 rfl) (ow hw 85 rfl) (ow hw 284 rfl) (rm_li l Z a0 hw [] t kb cs (jk 0 N) t4 kb4 [] (jk 0 N) fm T4.heap n0 Z5 O5 f10 hbd (by omega) (by omega) V4q g_t4 (nw (nu (nu E_t.lt (Nat.le_refl _)) g4t)) (by show 0 + cs.length ≤ _; omega) (by omega) S4 hfm S_ad S_hi S_lo) hby d24_28 e9 pd_335 0 (by rw [hml]; rfl) rfl rfl rfl rfl (by decide) (by decide) fun _ T11 Lc11 X11 hQ11 => ?_
  obtain ⟨rfl, N11q, K11q, V11q⟩ := hQ11
  have N11 := Fr.app N4 N11q
  have Z12 := nt Z5 K11q.1
  have O12 := O5.keep K11q (allS g_t4 all0)
  have K12 := K5.trans K11q (allS (Or.inr sz_t4) all0)
  refine gs (fun _ k => ja X11 hx hby d24_31 rfl rfl (ja X11 hx hby d24_32 rfl rfl k)) ?_
  have f13 := (f6.keep K11q (ninS (nw (nu (nu E_b.lt (Nat.le_refl _)) g4t)) nin0))
  have f14 := ((E_b.keep K4q).keep K11q)
  obtain ⟨T15, h15, X15, e15, W15, st15⟩ := putF X11 hx hZ hown (host := "") (Or.inl (ow hw 69 rfl)) Via.refl rfl f13 f14 (Or.inl (ow hw 70 rfl)) (ow hw 46 rfl) (ty := (.array .byte)) (by decide) rfl rfl (g := (mkF m 33 #[rv b, rv t4] [(.ref t4), (.ref b)])) rfl rfl (hb hby d24_33)
  have N15 := Fr.snoc X15 N11 g_b
  have Fw15 := f13.same W15
  have Z16 := nt Z12 (Keep.of_wr W15).1
  have O16 := O12.wr W15 g_b
  have K16 := K12.wr W15 (Or.inl (List.mem_of_getElem? (i := 0) rfl))
  refine gs (S' := T15.setTop (mkF m 36 #[rv b, rv t4] [])) st15 ?_
  refine gs (fun _ k => ja X15 hx hby d24_36 rfl rfl (je (v := (1 : Int32)) X15 hx hby d24_37 k)) ?_
  have f17 := (((F_c.keep K4q nin0).keep K11q (ninS (nw (nu (nu E_b.lt (Nat.le_refl _)) g4t)) nin0)).other W15 (Or.inr (slot_ne (Or.inl (ow hw 72 rfl)) (Or.inl (ow hw 70 rfl)) (by decide) (t := .byte) (t' := (.array .byte)) (by decide) (by decide))))
  have f18 := (f14.wr W15)
  obtain ⟨T19, h19, X19, e19, W19, st19⟩ := putFN X15 hx hZ hown (ow hw 71 rfl) Via.refl e15 f17 f18 (Or.inl (ow hw 72 rfl)) (ow hw 46 rfl) (ty := .byte) (v' := (.int (1 : Int32))) (by decide) rfl rfl (g := (mkF m 38 #[rv b, rv t4] [(.int (1 : Int32)), (.ref b)])) rfl rfl (hb hby d24_38)
  have N19 := Fr.snoc X19 N15 g_b
  have Fw19 := f17.same W19
  have Z20 := nt Z16 (Keep.of_wr W19).1
  have O20 := O16.wr W19 g_b
  have K20 := K16.wr W19 (Or.inl (List.mem_of_getElem? (i := 0) rfl))
  refine gs (S' := T19.setTop (mkF m 41 #[rv b, rv t4] [])) st19 ?_
  have f21 := ((V11q.other W15 (Ne.symm (nw (nu (nu E_b.lt (Nat.le_refl _)) g4t)))).other W19 (Ne.symm (nw (nu (nu E_b.lt (Nat.le_refl _)) g4t))))
  have Vz := f21
  rw [jy] at Vz
  have f22 := (f18.wr W19)
  have f23 := (Fw15.other W19 (Or.inr (slot_ne (Or.inl (ow hw 70 rfl)) (Or.inl (ow hw 72 rfl)) (by decide) (t := (.array .byte)) (t' := .byte) (by decide) (by decide))))
  have f24 := (((f8.keep K11q (ninS (nw (nu (nu E_b.lt (Nat.le_refl _)) g4t)) nin0)).other W15 (Or.inr (slot_ne (Or.inl (ow hw 108 rfl)) (Or.inl (ow hw 70 rfl)) (by decide) (t := .int) (t' := (.array .byte)) (by decide) (by decide)))).other W19 (Or.inr (slot_ne (Or.inl (ow hw 108 rfl)) (Or.inl (ow hw 72 rfl)) (by decide) (t := .int) (t' := .byte) (by decide) (by decide))))
  have f25 := ((((F_m.keep K4q nin0).keep K11q (ninS (nw (nu (nu E_b.lt (Nat.le_refl _)) g4t)) nin0)).other W15 (Or.inr (slot_ne (Or.inl (ow hw 301 rfl)) (Or.inl (ow hw 70 rfl)) (by decide) (t := .boolean) (t' := (.array .byte)) (by decide) (by decide)))).other W19 (Or.inr (slot_ne (Or.inl (ow hw 301 rfl)) (Or.inl (ow hw 72 rfl)) (by decide) (t := .boolean) (t' := .byte) (by decide) (by decide))))
  have f26 := (((E4t.keep K11q).wr W15).wr W19)
  refine gout (v := none) X19 Bd.notSynchronized (fun _ => rfl) (by decide) (by decide) ?_ (fun fs hr => X19.returnOut hx Bd.returns (hb hby d24_41) hr)
  rw [e19]
  exact ⟨_, _, rfl, N19, K20, sz_t4, ⟨f22, f23, Fw19, f24, f25, f26, (by rw [jA]; exact Vz)⟩⟩
theorem d24_7 : decode oc24 7 = .ok (.return_, 1) := by decide +kernel
theorem rm_inf1 (l : Launch) (Z : State) (a0 : Array Value) (hw : HW Z a0) (ws : List Jvm.Cond) (b : Addr) (z : Int32) (h0 : Heap) (n0 : Nat) (Z0 : n0 ≤ h0.size) (O0 : Old Z n0 h0) (E_b : Exa Z h0 b "java/lang/StringBuilder") (F_c : Fld Z h0 b "java/lang/AbstractStringBuilder" "coder" "B" (.int (1 : Int32))) (S0 : PS3 Z (.int z)) (hz : ¬ z = 0) :
    Ctr l Z my11 jdk_68_method_11_code 2 ((Option.none : Option Jvm.ClassFile.FieldType)) ws (⟨1, 0, 0, 12⟩ : Room) #[(.ref b)] h0 (fun v h L => v = none ∧ Fr n0 L ∧ h = h0) := by
  refine Ctr.go (plainFor_of_name pn_98) fun p e s m below meth c s₁ Bd hx hby hml hZ hown hnm X0 e0 => ?_
  have N0 := Fr.nil n0
  have K0 := Keep.refl h0 []
  refine gs (S' := s₁.setTop (mkF m 0 #[rv b, uu] [])) (fun tg kg => castTop (ef_354 m b) kg) ?_
  refine gs (fun _ k => ja X0 hx hby d24_0 rfl rfl k) ?_
  refine cV (rest := []) X0 hx hZ hown (ow hw 239 rfl) (ow hw 183 rfl) (nfs hZ (ow hw 185 rfl)) (ow hw 185 rfl) (ow hw 184 rfl) (ow hw 65 rfl) (ow hw 186 rfl) (rm_il1 l Z a0 hw [] b z h0 n0 Z0 O0 E_b F_c S0 hz) hby d24_1 e0 pd_358 0 (by rw [hml]; rfl) E_b rfl rfl rfl rfl (by decide) (by decide) fun _ T1 Lc1 X1 hQ1 => ?_
  obtain ⟨rfl, N1q, e1q⟩ := hQ1
  have N1 := Fr.app N0 N1q
  refine gs (fun _ k => jn X1 hx hby d24_4 ((if0 _ _).trans (teq (by decide : (0 : Int32) = (0 : Int32))).2) k) ?_
  refine gout (v := none) X1 Bd.notSynchronized (fun _ => rfl) (by decide) (by decide) ?_ (fun fs hr => X1.returnOut hx Bd.returns (hb hby d24_7) hr)
  rw [e1q]
  exact ⟨rfl, N1, rfl⟩
abbrev oc25 := jdk_68_method_31_code
theorem d25_0 : decode oc25 0 = .ok (.aload_n 0, 1) := by decide +kernel
theorem d25_1 : decode oc25 1 = .ok (.aload_n 0, 1) := by decide +kernel
theorem d25_2 : decode oc25 2 = .ok (.getfield 79, 3) := by decide +kernel
theorem d25_5 : decode oc25 5 = .ok (.iconst 1, 1) := by decide +kernel
theorem d25_6 : decode oc25 6 = .ok (.iadd, 1) := by decide +kernel
theorem d25_7 : decode oc25 7 = .ok (.invokevirtual 100, 3) := by decide +kernel
theorem pd_391 : parseMethodDescriptor "(I)V" = some ⟨[.int], none⟩ := by decide +kernel
theorem d25_10 : decode oc25 10 = .ok (.aload_n 0, 1) := by decide +kernel
theorem d25_11 : decode oc25 11 = .ok (.invokevirtual 83, 3) := by decide +kernel
theorem d25_14 : decode oc25 14 = .ok (.ifCond .eq 31, 3) := by decide +kernel
theorem d25_17 : decode oc25 17 = .ok (.iload_n 1, 1) := by decide +kernel
theorem d25_18 : decode oc25 18 = .ok (.invokestatic 191, 3) := by decide +kernel
theorem pd_397 : parseMethodDescriptor "(C)Z" = some ⟨[.char], some .boolean⟩ := by decide +kernel
theorem d25_21 : decode oc25 21 = .ok (.ifCond .eq 24, 3) := by decide +kernel
theorem d25_45 : decode oc25 45 = .ok (.aload_n 0, 1) := by decide +kernel
theorem d25_46 : decode oc25 46 = .ok (.invokevirtual 83, 3) := by decide +kernel
theorem d25_49 : decode oc25 49 = .ok (.ifCond .eq 7, 3) := by decide +kernel
theorem d25_52 : decode oc25 52 = .ok (.aload_n 0, 1) := by decide +kernel
theorem d25_53 : decode oc25 53 = .ok (.invokevirtual 195, 3) := by decide +kernel
theorem pd_404 : parseMethodDescriptor "()V" = some ⟨[], none⟩ := by decide +kernel
theorem d25_56 : decode oc25 56 = .ok (.aload_n 0, 1) := by decide +kernel
theorem d25_57 : decode oc25 57 = .ok (.getfield 15, 3) := by decide +kernel
theorem d25_60 : decode oc25 60 = .ok (.aload_n 0, 1) := by decide +kernel
theorem d25_61 : decode oc25 61 = .ok (.dup, 1) := by decide +kernel
theorem d25_62 : decode oc25 62 = .ok (.getfield 79, 3) := by decide +kernel
theorem d25_65 : decode oc25 65 = .ok (.dup_x1, 1) := by decide +kernel
theorem d25_66 : decode oc25 66 = .ok (.iconst 1, 1) := by decide +kernel
theorem d25_67 : decode oc25 67 = .ok (.iadd, 1) := by decide +kernel
theorem d25_68 : decode oc25 68 = .ok (.putfield 79, 3) := by decide +kernel
theorem d25_71 : decode oc25 71 = .ok (.iload_n 1, 1) := by decide +kernel
theorem d25_72 : decode oc25 72 = .ok (.invokestatic 197, 3) := by decide +kernel
theorem d25_75 : decode oc25 75 = .ok (.aload_n 0, 1) := by decide +kernel
theorem d25_76 : decode oc25 76 = .ok (.areturn, 1) := by decide +kernel
theorem d25_24 : decode oc25 24 = .ok (.aload_n 0, 1) := by decide +kernel
theorem d25_25 : decode oc25 25 = .ok (.getfield 15, 3) := by decide +kernel
theorem d25_28 : decode oc25 28 = .ok (.aload_n 0, 1) := by decide +kernel
theorem d25_29 : decode oc25 29 = .ok (.dup, 1) := by decide +kernel
theorem d25_30 : decode oc25 30 = .ok (.getfield 79, 3) := by decide +kernel
theorem d25_33 : decode oc25 33 = .ok (.dup_x1, 1) := by decide +kernel
theorem d25_34 : decode oc25 34 = .ok (.iconst 1, 1) := by decide +kernel
theorem d25_35 : decode oc25 35 = .ok (.iadd, 1) := by decide +kernel
theorem d25_36 : decode oc25 36 = .ok (.putfield 79, 3) := by decide +kernel
theorem d25_39 : decode oc25 39 = .ok (.iload_n 1, 1) := by decide +kernel
theorem d25_40 : decode oc25 40 = .ok (.i2b, 1) := by decide +kernel
theorem d25_41 : decode oc25 41 = .ok (.bastore, 1) := by decide +kernel
theorem d25_42 : decode oc25 42 = .ok (.goto 33, 3) := by decide +kernel
theorem rm_ac (l : Launch) (Z : State) (a0 : Array Value) (hw : HW Z a0) (ws : List Jvm.Cond) (b : Addr) (t : Addr) (cs : List Int32) (cc : Int32) (z : Int32) (fm : Value) (h0 : Heap) (n0 : Nat) (Z0 : n0 ≤ h0.size) (O0 : Old Z n0 h0) (B0 : BG Z h0 b t cs) (g_b : n0 ≤ b) (g_t : n0 ≤ t) (hcc : ¬ cc < 0 ∧ ¬ (65535 : Int32) < cc) (hKb : cs.length + 1 ≤ 18) (S0 : PS3 Z (.int z)) (hz : ¬ z = 0) (S4 : PS4 Z fm) (hfm : fm.isRef = true) (S_ad : PS0 Z (.int (1 : Int32))) (S_hi : PS1 Z (.int (0 : Int32))) (S_lo : PS2 Z (.int (8 : Int32))) :
    Ctr l Z (⟨"java/lang/AbstractStringBuilder", "append", "(C)Ljava/lang/AbstractStringBuilder;"⟩ : MethodName) jdk_68_method_31_code 2 ((Option.some (Jvm.ClassFile.FieldType.object "java/lang/AbstractStringBuilder"))) ws (⟨6, 2, 400, 89⟩ : Room) #[(.ref b), (.int cc)] h0 (fun v h L => ∃ t1 : Addr, v = some (.ref b) ∧ Fr n0 L ∧ Keep h0 h [b, t] ∧ (t1 = t ∨ h0.size ≤ t1) ∧ BG Z h b t1 (cs ++ [cc])) := by
  refine Ctr.go (plainFor_of_name pn_98) fun p e s m below meth c s₁ Bd hx hby hml hZ hown hnm X0 e0 => ?_
  have N0 := Fr.nil n0
  have K0 := Keep.refl h0 [b, t]
  refine gs (S' := s₁.setTop (mkF m 0 #[rv b, iv cc] [])) (fun tg kg => castTop (ef_196 m b cc) kg) ?_
  have E_b0 := B0.exa
  obtain ⟨kb, N, cd, vs, hN, hcN, B1, hE⟩ := id B0
  have hvl := hE.len
  have hle := own_scle (cd := cd) hcN
  rcases id hE with ⟨rfl, rfl, hbd⟩ | ⟨rfl, rfl, hbd⟩
  · obtain ⟨E_b, F_v, F_c, F_n, F_m, E_t, V_t⟩ := id B1
    refine gs (fun _ k => ja X0 hx hby d25_0 rfl rfl (ja X0 hx hby d25_1 rfl rfl k)) ?_
    refine gF X0 hx hZ hown (host := "") (Or.inl (ow hw 107 rfl)) Via.refl e0 F_n hby d25_2 fun T1 X1 e1 => ?_
    refine gs (fun _ k => je (v := (1 : Int32)) X1 hx hby d25_5 (jI X1 hx hby d25_6 k)) ?_
    show OwnGo p e below s _ _ _ (T1.setTop (mkF m 7 #[rv b, iv cc] [(.int ((oI cs.length) + (1 : Int32))), (.ref b)]))
    rw [own_e1 cs.length]
    by_cases hc2 : (cs.length + 1) ≤ N
    · refine cV (rest := []) X1 hx hZ hown (ow hw 109 rfl) (jH (ow hw 110 rfl) (ow hw 113 rfl)) (nfs hZ (ow hw 112 rfl)) (ow hw 112 rfl) (ow hw 110 rfl) (ow hw 65 rfl) (ow hw 113 rfl) (rm_enR l Z a0 hw [] b t kb (jC cs) (0 : Int32) (oI cs.length) N (cs.length + 1) h0 n0 Z0 O0 ⟨E_b, F_v, F_c, F_n, F_m, E_t, V_t⟩ (Or.inl rfl) hN hKb hc2) hby d25_7 e1 pd_391 0 (by rw [hml]; rfl) E_b rfl rfl rfl rfl (by decide) (by decide) fun _ T3 Lc3 X3 hQ3 => ?_
      obtain ⟨rfl, N3q, e3q⟩ := hQ3
      have N3 := Fr.app N0 N3q
      refine gs (fun _ k => ja X3 hx hby d25_10 rfl rfl k) ?_
      refine cV (rest := []) X3 hx hZ hown (ow hw 239 rfl) (ow hw 183 rfl) (nfs hZ (ow hw 185 rfl)) (ow hw 185 rfl) (ow hw 184 rfl) (ow hw 65 rfl) (ow hw 186 rfl) (rm_il0 l Z a0 hw [] b z h0 n0 Z0 O0 E_b F_c S0 hz) hby d25_11 e3q pd_358 0 (by rw [hml]; rfl) E_b rfl rfl rfl rfl (by decide) (by decide) fun _ T4 Lc4 X4 hQ4 => ?_
      obtain ⟨rfl, N4q, e4q⟩ := hQ4
      have N4 := Fr.app N3 N4q
      refine gs (fun _ k => jn X4 hx hby d25_14 ((if0 _ _).trans (feq (by decide : ¬ ((1 : Int32) = (0 : Int32)))).1) (jb X4 hx hby d25_17 rfl k)) ?_
      by_cases hc5 : (255 : Int32) < cc
      · refine cS (rest := []) X4 hx hZ hown (ow hw 240 rfl) (ow hw 221 rfl) (ow hw 85 rfl) (ow hw 222 rfl) (rm_ce0 l Z a0 hw [] cc h0 n0 Z0 O0 hc5) hby d25_18 e4q pd_397 0 (by rw [hml]; rfl) rfl rfl rfl rfl (by decide) (by decide) fun _ T6 Lc6 X6 hQ6 => ?_
        obtain ⟨rfl, N6q, e6q⟩ := hQ6
        have N6 := Fr.app N4 N6q
        refine gs (fun _ k => jt (pc' := 45) X6 hx hby d25_21 ((if0 _ _).trans (teq (by decide : (0 : Int32) = (0 : Int32))).1) (ja X6 hx hby d25_45 rfl rfl k)) ?_
        refine cV (rest := []) X6 hx hZ hown (ow hw 239 rfl) (ow hw 183 rfl) (nfs hZ (ow hw 185 rfl)) (ow hw 185 rfl) (ow hw 184 rfl) (ow hw 65 rfl) (ow hw 186 rfl) (rm_il0 l Z a0 hw [] b z h0 n0 Z0 O0 E_b F_c S0 hz) hby d25_46 e6q pd_358 0 (by rw [hml]; rfl) E_b rfl rfl rfl rfl (by decide) (by decide) fun _ T7 Lc7 X7 hQ7 => ?_
        obtain ⟨rfl, N7q, e7q⟩ := hQ7
        have N7 := Fr.app N6 N7q
        refine gs (fun _ k => jn X7 hx hby d25_49 ((if0 _ _).trans (feq (by decide : ¬ ((1 : Int32) = (0 : Int32)))).1) (ja X7 hx hby d25_52 rfl rfl k)) ?_
        have hNN : N ≤ 36 := by omega
        have hcNN : cs.length ≤ N := by omega
        refine cV (rest := []) X7 hx hZ hown (ow hw 276 rfl) (jH (ow hw 277 rfl) (ow hw 280 rfl)) (nfs hZ (ow hw 279 rfl)) (ow hw 279 rfl) (ow hw 277 rfl) (ow hw 65 rfl) (ow hw 280 rfl) (rm_inf0 l Z a0 hw [] b t kb cs N z fm h0 n0 Z0 O0 ⟨E_b, F_v, F_c, F_n, F_m, E_t, V_t⟩ hNN hcNN hbd g_b S0 hz S4 hfm S_ad S_hi S_lo) hby d25_53 e7q pd_404 0 (by rw [hml]; rfl) E_b rfl rfl rfl rfl (by decide) (by decide) fun _ T8 Lc8 X8 hQ8 => ?_
        obtain ⟨t8, kb8, rfl, N8q, K8q, g8t, B8q⟩ := hQ8
        have N8 := Fr.app N7 N8q
        have g_t8 : n0 ≤ t8 := nt Z0 g8t
        have sz_t8 : h0.size ≤ t8 := nt K0.1 g8t
        have Z9 := nt Z0 K8q.1
        have O9 := O0.keep K8q (allS g_b all0)
        have K9 := K0.trans K8q (allS (Or.inl (List.mem_of_getElem? (i := 0) rfl)) all0)
        obtain ⟨E8b, F8v, F8c, F8n, F8m, E8t, V8q⟩ := B8q
        refine gs (fun _ k => ja X8 hx hby d25_56 rfl rfl k) ?_
        refine gF X8 hx hZ hown (host := "") (Or.inl (ow hw 69 rfl)) Via.refl rfl F8v hby d25_57 fun T10 X10 e10 => ?_
        refine gs (fun _ k => ja X10 hx hby d25_60 rfl rfl (jP X10 hx hby d25_61 rfl k)) ?_
        refine gF X10 hx hZ hown (host := "") (Or.inl (ow hw 107 rfl)) Via.refl e10 F8n hby d25_62 fun T11 X11 e11 => ?_
        refine gs (fun _ k => o_dupX1 X11 hx hby d25_65 rfl rfl (je (v := (1 : Int32)) X11 hx hby d25_66 (jI X11 hx hby d25_67 k))) ?_
        obtain ⟨T12, h12, X12, e12, W12, st12⟩ := putF X11 hx hZ hown (host := "") (Or.inl (ow hw 107 rfl)) Via.refl e11 F8n E8b (Or.inl (ow hw 108 rfl)) (ow hw 46 rfl) (ty := .int) (by decide) rfl rfl (g := (mkF m 68 #[rv b, iv cc] [(.int ((oI cs.length) + (1 : Int32))), (.ref b), (.int (oI cs.length)), (.ref t8)])) rfl rfl (hb hby d25_68)
        have N12 := Fr.snoc X12 N8 g_b
        have Fw12 := F8n.same W12
        have Z13 := nt Z9 (Keep.of_wr W12).1
        have O13 := O9.wr W12 g_b
        have K13 := K9.wr W12 (Or.inl (List.mem_of_getElem? (i := 0) rfl))
        refine gs (S' := T12.setTop (mkF m 71 #[rv b, iv cc] [(.int (oI cs.length)), (.ref t8)])) st12 ?_
        refine gs (fun _ k => jb X12 hx hby d25_71 rfl k) ?_
        have f14 := (V8q.other W12 (Ne.symm (nw (nu (nu E_b0.lt (Nat.le_refl _)) g8t))))
        refine cS (rest := []) X12 hx hZ hown (ow hw 297 rfl) (ow hw 298 rfl) (ow hw 21 rfl) (ow hw 299 rfl) (rm_psb l Z a0 hw [] t8 kb8 cs cc N fm h12 n0 Z13 O13 f14 g_t8 (by omega) (by omega) S4 hfm S_ad S_hi S_lo) hby d25_72 e12 pd_267 0 (by rw [hml]; rfl) rfl rfl rfl rfl (by decide) (by decide) fun _ T15 Lc15 X15 hQ15 => ?_
        obtain ⟨rfl, N15q, K15q, V15q⟩ := hQ15
        have N15 := Fr.app N12 N15q
        have Z16 := nt Z13 K15q.1
        have O16 := O13.keep K15q (allS g_t8 all0)
        have K16 := K13.trans K15q (allS (Or.inr sz_t8) all0)
        refine gs (fun _ k => ja X15 hx hby d25_75 rfl rfl k) ?_
        have f17 := (Fw12.keep K15q (ninS (nw (nu (nu E_b0.lt (Nat.le_refl _)) g8t)) nin0))
        have Fn := f17
        rw [own_len1 cs cc] at Fn
        have f18 := ((E8b.wr W12).keep K15q)
        have f19 := ((F8v.other W12 (Or.inr (slot_ne (Or.inl (ow hw 70 rfl)) (Or.inl (ow hw 108 rfl)) (by decide) (t := (.array .byte)) (t' := .int) (by decide) (by decide)))).keep K15q (ninS (nw (nu (nu E_b0.lt (Nat.le_refl _)) g8t)) nin0))
        have f20 := ((F8c.other W12 (Or.inr (slot_ne (Or.inl (ow hw 72 rfl)) (Or.inl (ow hw 108 rfl)) (by decide) (t := .byte) (t' := .int) (by decide) (by decide)))).keep K15q (ninS (nw (nu (nu E_b0.lt (Nat.le_refl _)) g8t)) nin0))
        have f21 := ((F8m.other W12 (Or.inr (slot_ne (Or.inl (ow hw 301 rfl)) (Or.inl (ow hw 108 rfl)) (by decide) (t := .boolean) (t' := .int) (by decide) (by decide)))).keep K15q (ninS (nw (nu (nu E_b0.lt (Nat.le_refl _)) g8t)) nin0))
        have f22 := ((E8t.wr W12).keep K15q)
        refine gout (v := some (.ref b)) X15 Bd.notSynchronized (fun h => by rw [Bd.returns] at h; cases h) (by decide) (by decide) ?_ (fun fs hr => retOut X15 hx Bd.returns rfl (Or.inr (Or.inr (Or.inr (Or.inr ⟨rfl, rfl, rfl⟩)))) (hb hby d25_76) hr)
        exact ⟨_, rfl, N15, K16, Or.inr sz_t8, kb8, N, 1, _, hN, (by rw [List.length_append]; show cs.length + 1 ≤ _; omega), ⟨f18, f19, f20, Fn, f21, f22, V15q⟩, Or.inr ⟨rfl, rfl, own_snoc (fun c hc => own_up1 (hbd c hc)) hcc⟩⟩
      · refine cS (rest := []) X4 hx hZ hown (ow hw 240 rfl) (ow hw 221 rfl) (ow hw 85 rfl) (ow hw 222 rfl) (rm_ce1 l Z a0 hw [] cc h0 n0 Z0 O0 hc5) hby d25_18 e4q pd_397 0 (by rw [hml]; rfl) rfl rfl rfl rfl (by decide) (by decide) fun _ T23 Lc23 X23 hQ23 => ?_
        obtain ⟨rfl, N23q, e23q⟩ := hQ23
        have N23 := Fr.app N4 N23q
        refine gs (fun _ k => jn X23 hx hby d25_21 ((if0 _ _).trans (feq (by decide : ¬ ((1 : Int32) = (0 : Int32)))).1) (ja X23 hx hby d25_24 rfl rfl k)) ?_
        refine gF X23 hx hZ hown (host := "") (Or.inl (ow hw 69 rfl)) Via.refl e23q F_v hby d25_25 fun T24 X24 e24 => ?_
        refine gs (fun _ k => ja X24 hx hby d25_28 rfl rfl (jP X24 hx hby d25_29 rfl k)) ?_
        refine gF X24 hx hZ hown (host := "") (Or.inl (ow hw 107 rfl)) Via.refl e24 F_n hby d25_30 fun T25 X25 e25 => ?_
        refine gs (fun _ k => o_dupX1 X25 hx hby d25_33 rfl rfl (je (v := (1 : Int32)) X25 hx hby d25_34 (jI X25 hx hby d25_35 k))) ?_
        obtain ⟨T26, h26, X26, e26, W26, st26⟩ := putF X25 hx hZ hown (host := "") (Or.inl (ow hw 107 rfl)) Via.refl e25 F_n E_b (Or.inl (ow hw 108 rfl)) (ow hw 46 rfl) (ty := .int) (by decide) rfl rfl (g := (mkF m 36 #[rv b, iv cc] [(.int ((oI cs.length) + (1 : Int32))), (.ref b), (.int (oI cs.length)), (.ref t)])) rfl rfl (hb hby d25_36)
        have N26 := Fr.snoc X26 N23 g_b
        have Fw26 := F_n.same W26
        have Z27 := nt Z0 (Keep.of_wr W26).1
        have O27 := O0.wr W26 g_b
        have K27 := K0.wr W26 (Or.inl (List.mem_of_getElem? (i := 0) rfl))
        refine gs (S' := T26.setTop (mkF m 39 #[rv b, iv cc] [(.int (oI cs.length)), (.ref t)])) st26 ?_
        refine gs (fun _ k => jb X26 hx hby d25_39 rfl (jN X26 hx hby d25_40 k)) ?_
        have f28 := (V_t.other W26 (Ne.symm (Exa.ne E_b E_t (by decide))))
        have hlt29 : cs.length < jk 0 N := by rw [jy]; omega
        have hbd29 : jk 0 N ≤ 1000 := by rw [jy]; omega
        obtain ⟨cl29, A29, a29q, a29S, a29N, a29H, a29G⟩ := f28.pad (vs' := jC cs ++ [Value.int 0]) (own_pad1 cs)
        obtain ⟨T29, h29, X29, e29, W29, st29⟩ := stB X26 hx hZ e26 A29 (j := (oI cs.length)) (inb_of a29S ⟨js (by omega), jM (by omega) hlt29⟩) (g := (mkF m 41 #[rv b, iv cc] [(.int (cc.toInt8.toInt32)), (.int (oI cs.length)), (.ref t)])) rfl rfl (hb hby d25_41)
        have q29 := Arv.set A29 a29q a29S a29N a29H a29G (fits_nar_byte _) W29 cs.length (jQ (by omega)) (by simp)
        rw [show cc.toInt8.toInt32.toInt8.toInt32 = cc.toInt8.toInt32 from own_narb cc, own_setlast] at q29
        have N29 := Fr.snoc X29 N26 g_t
        have Z30 := nt Z27 (Keep.of_wr W29).1
        have O30 := O27.wr W29 g_t
        have K30 := K27.wr W29 (Or.inl (List.mem_of_getElem? (i := 1) rfl))
        refine gs (S' := T29.setTop (mkF m 42 #[rv b, iv cc] [])) st29 ?_
        refine gs (fun _ k => jl (pc' := 75) X29 hx hby d25_42 (ja X29 hx hby d25_75 rfl rfl k)) ?_
        have f31 := (Fw26.other W29 (Or.inl (Exa.ne E_b E_t (by decide))))
        have Fn := f31
        rw [own_len1 cs cc] at Fn
        have f32 := ((E_b.wr W26).wr W29)
        have f33 := ((F_v.other W26 (Or.inr (slot_ne (Or.inl (ow hw 70 rfl)) (Or.inl (ow hw 108 rfl)) (by decide) (t := (.array .byte)) (t' := .int) (by decide) (by decide)))).other W29 (Or.inl (Exa.ne E_b E_t (by decide))))
        have f34 := ((F_c.other W26 (Or.inr (slot_ne (Or.inl (ow hw 72 rfl)) (Or.inl (ow hw 108 rfl)) (by decide) (t := .byte) (t' := .int) (by decide) (by decide)))).other W29 (Or.inl (Exa.ne E_b E_t (by decide))))
        have f35 := ((F_m.other W26 (Or.inr (slot_ne (Or.inl (ow hw 301 rfl)) (Or.inl (ow hw 108 rfl)) (by decide) (t := .boolean) (t' := .int) (by decide) (by decide)))).other W29 (Or.inl (Exa.ne E_b E_t (by decide))))
        have f36 := ((E_t.wr W26).wr W29)
        refine gout (v := some (.ref b)) X29 Bd.notSynchronized (fun h => by rw [Bd.returns] at h; cases h) (by decide) (by decide) ?_ (fun fs hr => retOut X29 hx Bd.returns rfl (Or.inr (Or.inr (Or.inr (Or.inr ⟨rfl, rfl, rfl⟩)))) (hb hby d25_76) hr)
        rw [e29]
        exact ⟨_, rfl, N29, K30, Or.inl rfl, kb, N, 0, _, hN, (by rw [List.length_append]; show cs.length + 1 ≤ _; omega), ⟨f32, f33, f34, Fn, f35, f36, q29⟩, Or.inl ⟨rfl, rfl, own_snoc hbd ⟨hcc.1, hc5⟩⟩⟩
    · have gb := own_gr36 hKb hc2
      refine cV (rest := []) X1 hx hZ hown (ow hw 109 rfl) (jH (ow hw 110 rfl) (ow hw 113 rfl)) (nfs hZ (ow hw 112 rfl)) (ow hw 112 rfl) (ow hw 110 rfl) (ow hw 65 rfl) (ow hw 113 rfl) (rm_enG l Z a0 hw [] b t kb (jC cs) (0 : Int32) (oI cs.length) N (cs.length + 1) h0 n0 Z0 O0 ⟨E_b, F_v, F_c, F_n, F_m, E_t, V_t⟩ (Or.inl rfl) hN hKb hc2 g_b (hvl ▸ hle)) hby d25_7 e1 pd_391 0 (by rw [hml]; rfl) E_b rfl rfl rfl rfl (by decide) (by decide) fun _ T37 Lc37 X37 hQ37 => ?_
      obtain ⟨t37, kb37, rfl, N37q, K37q, g37t, B37q⟩ := hQ37
      have N37 := Fr.app N0 N37q
      have g_t37 : n0 ≤ t37 := nt Z0 g37t
      have sz_t37 : h0.size ≤ t37 := nt K0.1 g37t
      have Z38 := nt Z0 K37q.1
      have O38 := O0.keep K37q (allS g_b all0)
      have K38 := K0.trans K37q (allS (Or.inl (List.mem_of_getElem? (i := 0) rfl)) all0)
      obtain ⟨E37b, F37v, F37c, F37n, F37m, E37t, V37q⟩ := B37q
      refine gs (fun _ k => ja X37 hx hby d25_10 rfl rfl k) ?_
      refine cV (rest := []) X37 hx hZ hown (ow hw 239 rfl) (ow hw 183 rfl) (nfs hZ (ow hw 185 rfl)) (ow hw 185 rfl) (ow hw 184 rfl) (ow hw 65 rfl) (ow hw 186 rfl) (rm_il0 l Z a0 hw [] b z T37.heap n0 Z38 O38 E37b F37c S0 hz) hby d25_11 rfl pd_358 0 (by rw [hml]; rfl) E37b rfl rfl rfl rfl (by decide) (by decide) fun _ T39 Lc39 X39 hQ39 => ?_
      obtain ⟨rfl, N39q, e39q⟩ := hQ39
      have N39 := Fr.app N37 N39q
      refine gs (fun _ k => jn X39 hx hby d25_14 ((if0 _ _).trans (feq (by decide : ¬ ((1 : Int32) = (0 : Int32)))).1) (jb X39 hx hby d25_17 rfl k)) ?_
      by_cases hc40 : (255 : Int32) < cc
      · refine cS (rest := []) X39 hx hZ hown (ow hw 240 rfl) (ow hw 221 rfl) (ow hw 85 rfl) (ow hw 222 rfl) (rm_ce0 l Z a0 hw [] cc T37.heap n0 Z38 O38 hc40) hby d25_18 e39q pd_397 0 (by rw [hml]; rfl) rfl rfl rfl rfl (by decide) (by decide) fun _ T41 Lc41 X41 hQ41 => ?_
        obtain ⟨rfl, N41q, e41q⟩ := hQ41
        have N41 := Fr.app N39 N41q
        refine gs (fun _ k => jt (pc' := 45) X41 hx hby d25_21 ((if0 _ _).trans (teq (by decide : (0 : Int32) = (0 : Int32))).1) (ja X41 hx hby d25_45 rfl rfl k)) ?_
        refine cV (rest := []) X41 hx hZ hown (ow hw 239 rfl) (ow hw 183 rfl) (nfs hZ (ow hw 185 rfl)) (ow hw 185 rfl) (ow hw 184 rfl) (ow hw 65 rfl) (ow hw 186 rfl) (rm_il0 l Z a0 hw [] b z T37.heap n0 Z38 O38 E37b F37c S0 hz) hby d25_46 e41q pd_358 0 (by rw [hml]; rfl) E37b rfl rfl rfl rfl (by decide) (by decide) fun _ T42 Lc42 X42 hQ42 => ?_
        obtain ⟨rfl, N42q, e42q⟩ := hQ42
        have N42 := Fr.app N41 N42q
        refine gs (fun _ k => jn X42 hx hby d25_49 ((if0 _ _).trans (feq (by decide : ¬ ((1 : Int32) = (0 : Int32)))).1) (ja X42 hx hby d25_52 rfl rfl k)) ?_
        have hNN : (jz N (cs.length + 1)) ≤ 36 := by exact gb.1
        have hcNN : cs.length ≤ (jz N (cs.length + 1)) := by have q := gb.2.1; omega
        refine cV (rest := []) X42 hx hZ hown (ow hw 276 rfl) (jH (ow hw 277 rfl) (ow hw 280 rfl)) (nfs hZ (ow hw 279 rfl)) (ow hw 279 rfl) (ow hw 277 rfl) (ow hw 65 rfl) (ow hw 280 rfl) (rm_inf0 l Z a0 hw [] b t37 kb37 cs (jz N (cs.length + 1)) z fm T37.heap n0 Z38 O38 ⟨E37b, F37v, F37c, F37n, F37m, E37t, V37q⟩ hNN hcNN hbd g_b S0 hz S4 hfm S_ad S_hi S_lo) hby d25_53 e42q pd_404 0 (by rw [hml]; rfl) E37b rfl rfl rfl rfl (by decide) (by decide) fun _ T43 Lc43 X43 hQ43 => ?_
        obtain ⟨t43, kb43, rfl, N43q, K43q, g43t, B43q⟩ := hQ43
        have N43 := Fr.app N42 N43q
        have g_t43 : n0 ≤ t43 := nt Z38 g43t
        have sz_t43 : h0.size ≤ t43 := nt K38.1 g43t
        have Z44 := nt Z38 K43q.1
        have O44 := O38.keep K43q (allS g_b all0)
        have K44 := K38.trans K43q (allS (Or.inl (List.mem_of_getElem? (i := 0) rfl)) all0)
        obtain ⟨E43b, F43v, F43c, F43n, F43m, E43t, V43q⟩ := B43q
        refine gs (fun _ k => ja X43 hx hby d25_56 rfl rfl k) ?_
        refine gF X43 hx hZ hown (host := "") (Or.inl (ow hw 69 rfl)) Via.refl rfl F43v hby d25_57 fun T45 X45 e45 => ?_
        refine gs (fun _ k => ja X45 hx hby d25_60 rfl rfl (jP X45 hx hby d25_61 rfl k)) ?_
        refine gF X45 hx hZ hown (host := "") (Or.inl (ow hw 107 rfl)) Via.refl e45 F43n hby d25_62 fun T46 X46 e46 => ?_
        refine gs (fun _ k => o_dupX1 X46 hx hby d25_65 rfl rfl (je (v := (1 : Int32)) X46 hx hby d25_66 (jI X46 hx hby d25_67 k))) ?_
        obtain ⟨T47, h47, X47, e47, W47, st47⟩ := putF X46 hx hZ hown (host := "") (Or.inl (ow hw 107 rfl)) Via.refl e46 F43n E43b (Or.inl (ow hw 108 rfl)) (ow hw 46 rfl) (ty := .int) (by decide) rfl rfl (g := (mkF m 68 #[rv b, iv cc] [(.int ((oI cs.length) + (1 : Int32))), (.ref b), (.int (oI cs.length)), (.ref t43)])) rfl rfl (hb hby d25_68)
        have N47 := Fr.snoc X47 N43 g_b
        have Fw47 := F43n.same W47
        have Z48 := nt Z44 (Keep.of_wr W47).1
        have O48 := O44.wr W47 g_b
        have K48 := K44.wr W47 (Or.inl (List.mem_of_getElem? (i := 0) rfl))
        refine gs (S' := T47.setTop (mkF m 71 #[rv b, iv cc] [(.int (oI cs.length)), (.ref t43)])) st47 ?_
        refine gs (fun _ k => jb X47 hx hby d25_71 rfl k) ?_
        have f49 := (V43q.other W47 (Ne.symm (nw (nu (nu E_b0.lt K37q.1) g43t))))
        refine cS (rest := []) X47 hx hZ hown (ow hw 297 rfl) (ow hw 298 rfl) (ow hw 21 rfl) (ow hw 299 rfl) (rm_psb l Z a0 hw [] t43 kb43 cs cc (jz N (cs.length + 1)) fm h47 n0 Z48 O48 f49 g_t43 (by have q := gb.2.1; omega) (by exact gb.1) S4 hfm S_ad S_hi S_lo) hby d25_72 e47 pd_267 0 (by rw [hml]; rfl) rfl rfl rfl rfl (by decide) (by decide) fun _ T50 Lc50 X50 hQ50 => ?_
        obtain ⟨rfl, N50q, K50q, V50q⟩ := hQ50
        have N50 := Fr.app N47 N50q
        have Z51 := nt Z48 K50q.1
        have O51 := O48.keep K50q (allS g_t43 all0)
        have K51 := K48.trans K50q (allS (Or.inr sz_t43) all0)
        refine gs (fun _ k => ja X50 hx hby d25_75 rfl rfl k) ?_
        have f52 := (Fw47.keep K50q (ninS (nw (nu (nu E_b0.lt K37q.1) g43t)) nin0))
        have Fn := f52
        rw [own_len1 cs cc] at Fn
        have f53 := ((E43b.wr W47).keep K50q)
        have f54 := ((F43v.other W47 (Or.inr (slot_ne (Or.inl (ow hw 70 rfl)) (Or.inl (ow hw 108 rfl)) (by decide) (t := (.array .byte)) (t' := .int) (by decide) (by decide)))).keep K50q (ninS (nw (nu (nu E_b0.lt K37q.1) g43t)) nin0))
        have f55 := ((F43c.other W47 (Or.inr (slot_ne (Or.inl (ow hw 72 rfl)) (Or.inl (ow hw 108 rfl)) (by decide) (t := .byte) (t' := .int) (by decide) (by decide)))).keep K50q (ninS (nw (nu (nu E_b0.lt K37q.1) g43t)) nin0))
        have f56 := ((F43m.other W47 (Or.inr (slot_ne (Or.inl (ow hw 301 rfl)) (Or.inl (ow hw 108 rfl)) (by decide) (t := .boolean) (t' := .int) (by decide) (by decide)))).keep K50q (ninS (nw (nu (nu E_b0.lt K37q.1) g43t)) nin0))
        have f57 := ((E43t.wr W47).keep K50q)
        refine gout (v := some (.ref b)) X50 Bd.notSynchronized (fun h => by rw [Bd.returns] at h; cases h) (by decide) (by decide) ?_ (fun fs hr => retOut X50 hx Bd.returns rfl (Or.inr (Or.inr (Or.inr (Or.inr ⟨rfl, rfl, rfl⟩)))) (hb hby d25_76) hr)
        exact ⟨_, rfl, N50, K51, Or.inr sz_t43, kb43, (jz N (cs.length + 1)), 1, _, gb.1, (by rw [List.length_append]; show cs.length + 1 ≤ _; exact gb.2.1), ⟨f53, f54, f55, Fn, f56, f57, V50q⟩, Or.inr ⟨rfl, rfl, own_snoc (fun c hc => own_up1 (hbd c hc)) hcc⟩⟩
      · refine cS (rest := []) X39 hx hZ hown (ow hw 240 rfl) (ow hw 221 rfl) (ow hw 85 rfl) (ow hw 222 rfl) (rm_ce1 l Z a0 hw [] cc T37.heap n0 Z38 O38 hc40) hby d25_18 e39q pd_397 0 (by rw [hml]; rfl) rfl rfl rfl rfl (by decide) (by decide) fun _ T58 Lc58 X58 hQ58 => ?_
        obtain ⟨rfl, N58q, e58q⟩ := hQ58
        have N58 := Fr.app N39 N58q
        refine gs (fun _ k => jn X58 hx hby d25_21 ((if0 _ _).trans (feq (by decide : ¬ ((1 : Int32) = (0 : Int32)))).1) (ja X58 hx hby d25_24 rfl rfl k)) ?_
        refine gF X58 hx hZ hown (host := "") (Or.inl (ow hw 69 rfl)) Via.refl e58q F37v hby d25_25 fun T59 X59 e59 => ?_
        refine gs (fun _ k => ja X59 hx hby d25_28 rfl rfl (jP X59 hx hby d25_29 rfl k)) ?_
        refine gF X59 hx hZ hown (host := "") (Or.inl (ow hw 107 rfl)) Via.refl e59 F37n hby d25_30 fun T60 X60 e60 => ?_
        refine gs (fun _ k => o_dupX1 X60 hx hby d25_33 rfl rfl (je (v := (1 : Int32)) X60 hx hby d25_34 (jI X60 hx hby d25_35 k))) ?_
        obtain ⟨T61, h61, X61, e61, W61, st61⟩ := putF X60 hx hZ hown (host := "") (Or.inl (ow hw 107 rfl)) Via.refl e60 F37n E37b (Or.inl (ow hw 108 rfl)) (ow hw 46 rfl) (ty := .int) (by decide) rfl rfl (g := (mkF m 36 #[rv b, iv cc] [(.int ((oI cs.length) + (1 : Int32))), (.ref b), (.int (oI cs.length)), (.ref t37)])) rfl rfl (hb hby d25_36)
        have N61 := Fr.snoc X61 N58 g_b
        have Fw61 := F37n.same W61
        have Z62 := nt Z38 (Keep.of_wr W61).1
        have O62 := O38.wr W61 g_b
        have K62 := K38.wr W61 (Or.inl (List.mem_of_getElem? (i := 0) rfl))
        refine gs (S' := T61.setTop (mkF m 39 #[rv b, iv cc] [(.int (oI cs.length)), (.ref t37)])) st61 ?_
        refine gs (fun _ k => jb X61 hx hby d25_39 rfl (jN X61 hx hby d25_40 k)) ?_
        have f63 := (V37q.other W61 (Ne.symm (nw (nu (nu E_b0.lt (Nat.le_refl _)) g37t))))
        have hlt64 : cs.length < jk 0 (jz N (cs.length + 1)) := by rw [jy]; have q := gb.2.1; omega
        have hbd64 : jk 0 (jz N (cs.length + 1)) ≤ 1000 := by rw [jy]; have q := gb.1; omega
        obtain ⟨cl64, A64, a64q, a64S, a64N, a64H, a64G⟩ := f63.pad (vs' := jC cs ++ [Value.int 0]) (own_pad1 cs)
        obtain ⟨T64, h64, X64, e64, W64, st64⟩ := stB X61 hx hZ e61 A64 (j := (oI cs.length)) (inb_of a64S ⟨js (by omega), jM (by omega) hlt64⟩) (g := (mkF m 41 #[rv b, iv cc] [(.int (cc.toInt8.toInt32)), (.int (oI cs.length)), (.ref t37)])) rfl rfl (hb hby d25_41)
        have q64 := Arv.set A64 a64q a64S a64N a64H a64G (fits_nar_byte _) W64 cs.length (jQ (by omega)) (by simp)
        rw [show cc.toInt8.toInt32.toInt8.toInt32 = cc.toInt8.toInt32 from own_narb cc, own_setlast] at q64
        have N64 := Fr.snoc X64 N61 g_t37
        have Z65 := nt Z62 (Keep.of_wr W64).1
        have O65 := O62.wr W64 g_t37
        have K65 := K62.wr W64 (Or.inr sz_t37)
        refine gs (S' := T64.setTop (mkF m 42 #[rv b, iv cc] [])) st64 ?_
        refine gs (fun _ k => jl (pc' := 75) X64 hx hby d25_42 (ja X64 hx hby d25_75 rfl rfl k)) ?_
        have f66 := (Fw61.other W64 (Or.inl (nw (nu (nu E_b0.lt (Nat.le_refl _)) g37t))))
        have Fn := f66
        rw [own_len1 cs cc] at Fn
        have f67 := ((E37b.wr W61).wr W64)
        have f68 := ((F37v.other W61 (Or.inr (slot_ne (Or.inl (ow hw 70 rfl)) (Or.inl (ow hw 108 rfl)) (by decide) (t := (.array .byte)) (t' := .int) (by decide) (by decide)))).other W64 (Or.inl (nw (nu (nu E_b0.lt (Nat.le_refl _)) g37t))))
        have f69 := ((F37c.other W61 (Or.inr (slot_ne (Or.inl (ow hw 72 rfl)) (Or.inl (ow hw 108 rfl)) (by decide) (t := .byte) (t' := .int) (by decide) (by decide)))).other W64 (Or.inl (nw (nu (nu E_b0.lt (Nat.le_refl _)) g37t))))
        have f70 := ((F37m.other W61 (Or.inr (slot_ne (Or.inl (ow hw 301 rfl)) (Or.inl (ow hw 108 rfl)) (by decide) (t := .boolean) (t' := .int) (by decide) (by decide)))).other W64 (Or.inl (nw (nu (nu E_b0.lt (Nat.le_refl _)) g37t))))
        have f71 := ((E37t.wr W61).wr W64)
        refine gout (v := some (.ref b)) X64 Bd.notSynchronized (fun h => by rw [Bd.returns] at h; cases h) (by decide) (by decide) ?_ (fun fs hr => retOut X64 hx Bd.returns rfl (Or.inr (Or.inr (Or.inr (Or.inr ⟨rfl, rfl, rfl⟩)))) (hb hby d25_76) hr)
        rw [e64]
        exact ⟨_, rfl, N64, K65, Or.inr sz_t37, kb37, (jz N (cs.length + 1)), 0, _, gb.1, (by rw [List.length_append]; show cs.length + 1 ≤ _; exact gb.2.1), ⟨f67, f68, f69, Fn, f70, f71, q64⟩, Or.inl ⟨rfl, rfl, own_snoc hbd ⟨hcc.1, hc40⟩⟩⟩
  · obtain ⟨E_b, F_v, F_c, F_n, F_m, E_t, V_t⟩ := id B1
    refine gs (fun _ k => ja X0 hx hby d25_0 rfl rfl (ja X0 hx hby d25_1 rfl rfl k)) ?_
    refine gF X0 hx hZ hown (host := "") (Or.inl (ow hw 107 rfl)) Via.refl e0 F_n hby d25_2 fun T72 X72 e72 => ?_
    refine gs (fun _ k => je (v := (1 : Int32)) X72 hx hby d25_5 (jI X72 hx hby d25_6 k)) ?_
    show OwnGo p e below s _ _ _ (T72.setTop (mkF m 7 #[rv b, iv cc] [(.int ((oI cs.length) + (1 : Int32))), (.ref b)]))
    rw [own_e1 cs.length]
    by_cases hc73 : (cs.length + 1) ≤ N
    · refine cV (rest := []) X72 hx hZ hown (ow hw 109 rfl) (jH (ow hw 110 rfl) (ow hw 113 rfl)) (nfs hZ (ow hw 112 rfl)) (ow hw 112 rfl) (ow hw 110 rfl) (ow hw 65 rfl) (ow hw 113 rfl) (rm_enR l Z a0 hw [] b t kb (jq cs) (1 : Int32) (oI cs.length) N (cs.length + 1) h0 n0 Z0 O0 ⟨E_b, F_v, F_c, F_n, F_m, E_t, V_t⟩ (Or.inr rfl) hN hKb hc73) hby d25_7 e72 pd_391 0 (by rw [hml]; rfl) E_b rfl rfl rfl rfl (by decide) (by decide) fun _ T74 Lc74 X74 hQ74 => ?_
      obtain ⟨rfl, N74q, e74q⟩ := hQ74
      have N74 := Fr.app N0 N74q
      refine gs (fun _ k => ja X74 hx hby d25_10 rfl rfl k) ?_
      refine cV (rest := []) X74 hx hZ hown (ow hw 239 rfl) (ow hw 183 rfl) (nfs hZ (ow hw 185 rfl)) (ow hw 185 rfl) (ow hw 184 rfl) (ow hw 65 rfl) (ow hw 186 rfl) (rm_il1 l Z a0 hw [] b z h0 n0 Z0 O0 E_b F_c S0 hz) hby d25_11 e74q pd_358 0 (by rw [hml]; rfl) E_b rfl rfl rfl rfl (by decide) (by decide) fun _ T75 Lc75 X75 hQ75 => ?_
      obtain ⟨rfl, N75q, e75q⟩ := hQ75
      have N75 := Fr.app N74 N75q
      refine gs (fun _ k => jt (pc' := 45) X75 hx hby d25_14 ((if0 _ _).trans (teq (by decide : (0 : Int32) = (0 : Int32))).1) (ja X75 hx hby d25_45 rfl rfl k)) ?_
      refine cV (rest := []) X75 hx hZ hown (ow hw 239 rfl) (ow hw 183 rfl) (nfs hZ (ow hw 185 rfl)) (ow hw 185 rfl) (ow hw 184 rfl) (ow hw 65 rfl) (ow hw 186 rfl) (rm_il1 l Z a0 hw [] b z h0 n0 Z0 O0 E_b F_c S0 hz) hby d25_46 e75q pd_358 0 (by rw [hml]; rfl) E_b rfl rfl rfl rfl (by decide) (by decide) fun _ T76 Lc76 X76 hQ76 => ?_
      obtain ⟨rfl, N76q, e76q⟩ := hQ76
      have N76 := Fr.app N75 N76q
      refine gs (fun _ k => jt (pc' := 56) X76 hx hby d25_49 ((if0 _ _).trans (teq (by decide : (0 : Int32) = (0 : Int32))).1) (ja X76 hx hby d25_56 rfl rfl k)) ?_
      refine gF X76 hx hZ hown (host := "") (Or.inl (ow hw 69 rfl)) Via.refl e76q F_v hby d25_57 fun T77 X77 e77 => ?_
      refine gs (fun _ k => ja X77 hx hby d25_60 rfl rfl (jP X77 hx hby d25_61 rfl k)) ?_
      refine gF X77 hx hZ hown (host := "") (Or.inl (ow hw 107 rfl)) Via.refl e77 F_n hby d25_62 fun T78 X78 e78 => ?_
      refine gs (fun _ k => o_dupX1 X78 hx hby d25_65 rfl rfl (je (v := (1 : Int32)) X78 hx hby d25_66 (jI X78 hx hby d25_67 k))) ?_
      obtain ⟨T79, h79, X79, e79, W79, st79⟩ := putF X78 hx hZ hown (host := "") (Or.inl (ow hw 107 rfl)) Via.refl e78 F_n E_b (Or.inl (ow hw 108 rfl)) (ow hw 46 rfl) (ty := .int) (by decide) rfl rfl (g := (mkF m 68 #[rv b, iv cc] [(.int ((oI cs.length) + (1 : Int32))), (.ref b), (.int (oI cs.length)), (.ref t)])) rfl rfl (hb hby d25_68)
      have N79 := Fr.snoc X79 N76 g_b
      have Fw79 := F_n.same W79
      have Z80 := nt Z0 (Keep.of_wr W79).1
      have O80 := O0.wr W79 g_b
      have K80 := K0.wr W79 (Or.inl (List.mem_of_getElem? (i := 0) rfl))
      refine gs (S' := T79.setTop (mkF m 71 #[rv b, iv cc] [(.int (oI cs.length)), (.ref t)])) st79 ?_
      refine gs (fun _ k => jb X79 hx hby d25_71 rfl k) ?_
      have f81 := (V_t.other W79 (Ne.symm (Exa.ne E_b E_t (by decide))))
      refine cS (rest := []) X79 hx hZ hown (ow hw 297 rfl) (ow hw 298 rfl) (ow hw 21 rfl) (ow hw 299 rfl) (rm_psb l Z a0 hw [] t kb cs cc N fm h79 n0 Z80 O80 f81 g_t (by omega) (by omega) S4 hfm S_ad S_hi S_lo) hby d25_72 e79 pd_267 0 (by rw [hml]; rfl) rfl rfl rfl rfl (by decide) (by decide) fun _ T82 Lc82 X82 hQ82 => ?_
      obtain ⟨rfl, N82q, K82q, V82q⟩ := hQ82
      have N82 := Fr.app N79 N82q
      have Z83 := nt Z80 K82q.1
      have O83 := O80.keep K82q (allS g_t all0)
      have K83 := K80.trans K82q (allS (Or.inl (List.mem_of_getElem? (i := 1) rfl)) all0)
      refine gs (fun _ k => ja X82 hx hby d25_75 rfl rfl k) ?_
      have f84 := (Fw79.keep K82q (ninS (Exa.ne E_b E_t (by decide)) nin0))
      have Fn := f84
      rw [own_len1 cs cc] at Fn
      have f85 := ((E_b.wr W79).keep K82q)
      have f86 := ((F_v.other W79 (Or.inr (slot_ne (Or.inl (ow hw 70 rfl)) (Or.inl (ow hw 108 rfl)) (by decide) (t := (.array .byte)) (t' := .int) (by decide) (by decide)))).keep K82q (ninS (Exa.ne E_b E_t (by decide)) nin0))
      have f87 := ((F_c.other W79 (Or.inr (slot_ne (Or.inl (ow hw 72 rfl)) (Or.inl (ow hw 108 rfl)) (by decide) (t := .byte) (t' := .int) (by decide) (by decide)))).keep K82q (ninS (Exa.ne E_b E_t (by decide)) nin0))
      have f88 := ((F_m.other W79 (Or.inr (slot_ne (Or.inl (ow hw 301 rfl)) (Or.inl (ow hw 108 rfl)) (by decide) (t := .boolean) (t' := .int) (by decide) (by decide)))).keep K82q (ninS (Exa.ne E_b E_t (by decide)) nin0))
      have f89 := ((E_t.wr W79).keep K82q)
      refine gout (v := some (.ref b)) X82 Bd.notSynchronized (fun h => by rw [Bd.returns] at h; cases h) (by decide) (by decide) ?_ (fun fs hr => retOut X82 hx Bd.returns rfl (Or.inr (Or.inr (Or.inr (Or.inr ⟨rfl, rfl, rfl⟩)))) (hb hby d25_76) hr)
      exact ⟨_, rfl, N82, K83, Or.inl rfl, kb, N, 1, _, hN, (by rw [List.length_append]; show cs.length + 1 ≤ _; omega), ⟨f85, f86, f87, Fn, f88, f89, V82q⟩, Or.inr ⟨rfl, rfl, own_snoc hbd hcc⟩⟩
    · have gb := own_gr36 hKb hc73
      refine cV (rest := []) X72 hx hZ hown (ow hw 109 rfl) (jH (ow hw 110 rfl) (ow hw 113 rfl)) (nfs hZ (ow hw 112 rfl)) (ow hw 112 rfl) (ow hw 110 rfl) (ow hw 65 rfl) (ow hw 113 rfl) (rm_enG l Z a0 hw [] b t kb (jq cs) (1 : Int32) (oI cs.length) N (cs.length + 1) h0 n0 Z0 O0 ⟨E_b, F_v, F_c, F_n, F_m, E_t, V_t⟩ (Or.inr rfl) hN hKb hc73 g_b (hvl ▸ hle)) hby d25_7 e72 pd_391 0 (by rw [hml]; rfl) E_b rfl rfl rfl rfl (by decide) (by decide) fun _ T90 Lc90 X90 hQ90 => ?_
      obtain ⟨t90, kb90, rfl, N90q, K90q, g90t, B90q⟩ := hQ90
      have N90 := Fr.app N0 N90q
      have g_t90 : n0 ≤ t90 := nt Z0 g90t
      have sz_t90 : h0.size ≤ t90 := nt K0.1 g90t
      have Z91 := nt Z0 K90q.1
      have O91 := O0.keep K90q (allS g_b all0)
      have K91 := K0.trans K90q (allS (Or.inl (List.mem_of_getElem? (i := 0) rfl)) all0)
      obtain ⟨E90b, F90v, F90c, F90n, F90m, E90t, V90q⟩ := B90q
      refine gs (fun _ k => ja X90 hx hby d25_10 rfl rfl k) ?_
      refine cV (rest := []) X90 hx hZ hown (ow hw 239 rfl) (ow hw 183 rfl) (nfs hZ (ow hw 185 rfl)) (ow hw 185 rfl) (ow hw 184 rfl) (ow hw 65 rfl) (ow hw 186 rfl) (rm_il1 l Z a0 hw [] b z T90.heap n0 Z91 O91 E90b F90c S0 hz) hby d25_11 rfl pd_358 0 (by rw [hml]; rfl) E90b rfl rfl rfl rfl (by decide) (by decide) fun _ T92 Lc92 X92 hQ92 => ?_
      obtain ⟨rfl, N92q, e92q⟩ := hQ92
      have N92 := Fr.app N90 N92q
      refine gs (fun _ k => jt (pc' := 45) X92 hx hby d25_14 ((if0 _ _).trans (teq (by decide : (0 : Int32) = (0 : Int32))).1) (ja X92 hx hby d25_45 rfl rfl k)) ?_
      refine cV (rest := []) X92 hx hZ hown (ow hw 239 rfl) (ow hw 183 rfl) (nfs hZ (ow hw 185 rfl)) (ow hw 185 rfl) (ow hw 184 rfl) (ow hw 65 rfl) (ow hw 186 rfl) (rm_il1 l Z a0 hw [] b z T90.heap n0 Z91 O91 E90b F90c S0 hz) hby d25_46 e92q pd_358 0 (by rw [hml]; rfl) E90b rfl rfl rfl rfl (by decide) (by decide) fun _ T93 Lc93 X93 hQ93 => ?_
      obtain ⟨rfl, N93q, e93q⟩ := hQ93
      have N93 := Fr.app N92 N93q
      refine gs (fun _ k => jt (pc' := 56) X93 hx hby d25_49 ((if0 _ _).trans (teq (by decide : (0 : Int32) = (0 : Int32))).1) (ja X93 hx hby d25_56 rfl rfl k)) ?_
      refine gF X93 hx hZ hown (host := "") (Or.inl (ow hw 69 rfl)) Via.refl e93q F90v hby d25_57 fun T94 X94 e94 => ?_
      refine gs (fun _ k => ja X94 hx hby d25_60 rfl rfl (jP X94 hx hby d25_61 rfl k)) ?_
      refine gF X94 hx hZ hown (host := "") (Or.inl (ow hw 107 rfl)) Via.refl e94 F90n hby d25_62 fun T95 X95 e95 => ?_
      refine gs (fun _ k => o_dupX1 X95 hx hby d25_65 rfl rfl (je (v := (1 : Int32)) X95 hx hby d25_66 (jI X95 hx hby d25_67 k))) ?_
      obtain ⟨T96, h96, X96, e96, W96, st96⟩ := putF X95 hx hZ hown (host := "") (Or.inl (ow hw 107 rfl)) Via.refl e95 F90n E90b (Or.inl (ow hw 108 rfl)) (ow hw 46 rfl) (ty := .int) (by decide) rfl rfl (g := (mkF m 68 #[rv b, iv cc] [(.int ((oI cs.length) + (1 : Int32))), (.ref b), (.int (oI cs.length)), (.ref t90)])) rfl rfl (hb hby d25_68)
      have N96 := Fr.snoc X96 N93 g_b
      have Fw96 := F90n.same W96
      have Z97 := nt Z91 (Keep.of_wr W96).1
      have O97 := O91.wr W96 g_b
      have K97 := K91.wr W96 (Or.inl (List.mem_of_getElem? (i := 0) rfl))
      refine gs (S' := T96.setTop (mkF m 71 #[rv b, iv cc] [(.int (oI cs.length)), (.ref t90)])) st96 ?_
      refine gs (fun _ k => jb X96 hx hby d25_71 rfl k) ?_
      have f98 := (V90q.other W96 (Ne.symm (nw (nu (nu E_b0.lt (Nat.le_refl _)) g90t))))
      refine cS (rest := []) X96 hx hZ hown (ow hw 297 rfl) (ow hw 298 rfl) (ow hw 21 rfl) (ow hw 299 rfl) (rm_psb l Z a0 hw [] t90 kb90 cs cc (jz N (cs.length + 1)) fm h96 n0 Z97 O97 f98 g_t90 (by have q := gb.2.1; omega) (by exact gb.1) S4 hfm S_ad S_hi S_lo) hby d25_72 e96 pd_267 0 (by rw [hml]; rfl) rfl rfl rfl rfl (by decide) (by decide) fun _ T99 Lc99 X99 hQ99 => ?_
      obtain ⟨rfl, N99q, K99q, V99q⟩ := hQ99
      have N99 := Fr.app N96 N99q
      have Z100 := nt Z97 K99q.1
      have O100 := O97.keep K99q (allS g_t90 all0)
      have K100 := K97.trans K99q (allS (Or.inr sz_t90) all0)
      refine gs (fun _ k => ja X99 hx hby d25_75 rfl rfl k) ?_
      have f101 := (Fw96.keep K99q (ninS (nw (nu (nu E_b0.lt (Nat.le_refl _)) g90t)) nin0))
      have Fn := f101
      rw [own_len1 cs cc] at Fn
      have f102 := ((E90b.wr W96).keep K99q)
      have f103 := ((F90v.other W96 (Or.inr (slot_ne (Or.inl (ow hw 70 rfl)) (Or.inl (ow hw 108 rfl)) (by decide) (t := (.array .byte)) (t' := .int) (by decide) (by decide)))).keep K99q (ninS (nw (nu (nu E_b0.lt (Nat.le_refl _)) g90t)) nin0))
      have f104 := ((F90c.other W96 (Or.inr (slot_ne (Or.inl (ow hw 72 rfl)) (Or.inl (ow hw 108 rfl)) (by decide) (t := .byte) (t' := .int) (by decide) (by decide)))).keep K99q (ninS (nw (nu (nu E_b0.lt (Nat.le_refl _)) g90t)) nin0))
      have f105 := ((F90m.other W96 (Or.inr (slot_ne (Or.inl (ow hw 301 rfl)) (Or.inl (ow hw 108 rfl)) (by decide) (t := .boolean) (t' := .int) (by decide) (by decide)))).keep K99q (ninS (nw (nu (nu E_b0.lt (Nat.le_refl _)) g90t)) nin0))
      have f106 := ((E90t.wr W96).keep K99q)
      refine gout (v := some (.ref b)) X99 Bd.notSynchronized (fun h => by rw [Bd.returns] at h; cases h) (by decide) (by decide) ?_ (fun fs hr => retOut X99 hx Bd.returns rfl (Or.inr (Or.inr (Or.inr (Or.inr ⟨rfl, rfl, rfl⟩)))) (hb hby d25_76) hr)
      exact ⟨_, rfl, N99, K100, Or.inr sz_t90, kb90, (jz N (cs.length + 1)), 1, _, gb.1, (by rw [List.length_append]; show cs.length + 1 ≤ _; exact gb.2.1), ⟨f102, f103, f104, Fn, f105, f106, V99q⟩, Or.inr ⟨rfl, rfl, own_snoc hbd hcc⟩⟩
abbrev oc26 := jdk_67_method_14_code
theorem d26_0 : decode oc26 0 = .ok (.aload_n 0, 1) := by decide +kernel
theorem d26_1 : decode oc26 1 = .ok (.iload_n 1, 1) := by decide +kernel
theorem d26_2 : decode oc26 2 = .ok (.invokespecial 50, 3) := by decide +kernel
theorem pd_436 : parseMethodDescriptor "(C)Ljava/lang/AbstractStringBuilder;" = some ⟨[.char], some (.object "java/lang/AbstractStringBuilder")⟩ := by decide +kernel
theorem d26_5 : decode oc26 5 = .ok (.pop, 1) := by decide +kernel
theorem d26_6 : decode oc26 6 = .ok (.aload_n 0, 1) := by decide +kernel
theorem d26_7 : decode oc26 7 = .ok (.areturn, 1) := by decide +kernel
theorem pn_440 : plainName "java/lang/StringBuilder" = true := by first | (simp [plainName, overriddenIn]; done) | decide +kernel
theorem rm_sc (l : Launch) (Z : State) (a0 : Array Value) (hw : HW Z a0) (ws : List Jvm.Cond) (b : Addr) (t : Addr) (cs : List Int32) (cc : Int32) (z : Int32) (fm : Value) (h0 : Heap) (n0 : Nat) (Z0 : n0 ≤ h0.size) (O0 : Old Z n0 h0) (B0 : BG Z h0 b t cs) (g_b : n0 ≤ b) (g_t : n0 ≤ t) (hcc : ¬ cc < 0 ∧ ¬ (65535 : Int32) < cc) (hKb : cs.length + 1 ≤ 18) (S0 : PS3 Z (.int z)) (hz : ¬ z = 0) (S4 : PS4 Z fm) (hfm : fm.isRef = true) (S_ad : PS0 Z (.int (1 : Int32))) (S_hi : PS1 Z (.int (0 : Int32))) (S_lo : PS2 Z (.int (8 : Int32))) :
    Ctr l Z (⟨"java/lang/StringBuilder", "append", "(C)Ljava/lang/StringBuilder;"⟩ : MethodName) jdk_67_method_14_code 2 ((Option.some (Jvm.ClassFile.FieldType.object "java/lang/StringBuilder"))) ws (⟨7, 2, 400, 102⟩ : Room) #[(.ref b), (.int cc)] h0 (fun v h L => ∃ t1 : Addr, v = some (.ref b) ∧ Fr n0 L ∧ Keep h0 h [b, t] ∧ (t1 = t ∨ h0.size ≤ t1) ∧ BG Z h b t1 (cs ++ [cc])) := by
  refine Ctr.go (plainFor_of_name pn_440) fun p e s m below meth c s₁ Bd hx hby hml hZ hown hnm X0 e0 => ?_
  have N0 := Fr.nil n0
  have K0 := Keep.refl h0 [b, t]
  refine gs (S' := s₁.setTop (mkF m 0 #[rv b, iv cc] [])) (fun tg kg => castTop (ef_196 m b cc) kg) ?_
  have E_b := B0.exa
  refine gs (fun _ k => ja X0 hx hby d26_0 rfl rfl (jb X0 hx hby d26_1 rfl k)) ?_
  refine cP (rest := []) X0 hx hZ hown (ow hw 235 rfl) (own_same (ow hw 112 rfl) (ow hw 236 rfl) (by decide) rfl) (ow hw 236 rfl) (ow hw 103 rfl) (ow hw 65 rfl) (ow hw 238 rfl) (rm_ac l Z a0 hw [] b t cs cc z fm h0 n0 Z0 O0 B0 g_b g_t hcc hKb S0 hz S4 hfm S_ad S_hi S_lo) hby d26_2 e0 pd_436 0 (by rw [hml]; rfl) E_b rfl rfl rfl rfl (by decide) (by decide) fun _ T1 Lc1 X1 hQ1 => ?_
  obtain ⟨t1, rfl, N1q, K1q, o1t, B1q⟩ := hQ1
  have N1 := Fr.app N0 N1q
  have Z2 := nt Z0 K1q.1
  have O2 := O0.keep K1q (allS g_b (allS g_t all0))
  have K2 := K0.trans K1q (allS (Or.inl (List.mem_of_getElem? (i := 0) rfl)) (allS (Or.inl (List.mem_of_getElem? (i := 1) rfl)) all0))
  refine gs (fun _ k => jR X1 hx hby d26_5 rfl (ja X1 hx hby d26_6 rfl rfl k)) ?_
  refine gout (v := some (.ref b)) X1 Bd.notSynchronized (fun h => by rw [Bd.returns] at h; cases h) (by decide) (by decide) ?_ (fun fs hr => retOut X1 hx Bd.returns rfl (Or.inr (Or.inr (Or.inr (Or.inr ⟨rfl, rfl, rfl⟩)))) (hb hby d26_7) hr)
  exact ⟨_, rfl, N1, K2, o1t, B1q⟩
abbrev oc27 := jdk_42_method_152_code
theorem d27_0 : decode oc27 0 = .ok (.getstatic 38, 3) := by decide +kernel
theorem d27_3 : decode oc27 3 = .ok (.ifCond .eq 10, 3) := by decide +kernel
theorem d27_6 : decode oc27 6 = .ok (.aload_n 0, 1) := by decide +kernel
theorem d27_7 : decode oc27 7 = .ok (.getfield 15, 3) := by decide +kernel
theorem d27_10 : decode oc27 10 = .ok (.goto 4, 3) := by decide +kernel
theorem d27_14 : decode oc27 14 = .ok (.ireturn, 1) := by decide +kernel
theorem rm_cod0 (l : Launch) (Z : State) (a0 : Array Value) (hw : HW Z a0) (ws : List Jvm.Cond) (x : Addr) (z : Int32) (h0 : Heap) (n0 : Nat) (Z0 : n0 ≤ h0.size) (O0 : Old Z n0 h0) (F_cx : Fld Z h0 x "java/lang/String" "coder" "B" (.int (0 : Int32))) (S0 : PS3 Z (.int z)) (hz : ¬ z = 0) :
    Ctr l Z my12 jdk_42_method_152_code 1 ((Option.some Jvm.ClassFile.FieldType.byte)) ws (⟨0, 0, 0, 0⟩ : Room) #[(.ref x)] h0 (fun v h L => v = some (.int (0 : Int32)) ∧ Fr n0 L ∧ h = h0) := by
  refine Ctr.go (plainFor_of_name pn_15) fun p e s m below meth c s₁ Bd hx hby hml hZ hown hnm X0 e0 => ?_
  have N0 := Fr.nil n0
  have K0 := Keep.refl h0 []
  refine gs (S' := s₁.setTop (mkF m 0 #[rv x] [])) (fun tg kg => castTop (ef_148 m x) kg) ?_
  refine gS X0 hx hZ hown (host := "") (Or.inl (ow hw 18 rfl)) Via.refl e0 (S0.ext O0.2) hby d27_0 fun T1 X1 e1 => ?_
  refine gs (fun _ k => jn X1 hx hby d27_3 ((if0 _ _).trans (feq hz).1) (ja X1 hx hby d27_6 rfl rfl k)) ?_
  refine gF X1 hx hZ hown (host := "") (Or.inl (ow hw 30 rfl)) Via.refl e1 F_cx hby d27_7 fun T2 X2 e2 => ?_
  refine gs (fun _ k => jl (pc' := 14) X2 hx hby d27_10 k) ?_
  refine gout (v := some (.int (0 : Int32))) X2 Bd.notSynchronized (fun h => by rw [Bd.returns] at h; cases h) (by decide) (by decide) ?_ (fun fs hr => retN X2 hx (t := .byte) Bd.returns (by simp) (hb hby d27_14) hr)
  rw [e2]
  exact ⟨rfl, N0, rfl⟩
abbrev oc28 := jdk_42_method_154_code
theorem d28_0 : decode oc28 0 = .ok (.getstatic 38, 3) := by decide +kernel
theorem d28_3 : decode oc28 3 = .ok (.ifCond .eq 14, 3) := by decide +kernel
theorem d28_6 : decode oc28 6 = .ok (.aload_n 0, 1) := by decide +kernel
theorem d28_7 : decode oc28 7 = .ok (.getfield 15, 3) := by decide +kernel
theorem d28_10 : decode oc28 10 = .ok (.ifCond .ne 7, 3) := by decide +kernel
theorem d28_13 : decode oc28 13 = .ok (.iconst 1, 1) := by decide +kernel
theorem d28_14 : decode oc28 14 = .ok (.goto 4, 3) := by decide +kernel
theorem d28_18 : decode oc28 18 = .ok (.ireturn, 1) := by decide +kernel
theorem rm_sil0 (l : Launch) (Z : State) (a0 : Array Value) (hw : HW Z a0) (ws : List Jvm.Cond) (x : Addr) (z : Int32) (h0 : Heap) (n0 : Nat) (Z0 : n0 ≤ h0.size) (O0 : Old Z n0 h0) (F_cx : Fld Z h0 x "java/lang/String" "coder" "B" (.int (0 : Int32))) (S0 : PS3 Z (.int z)) (hz : ¬ z = 0) :
    Ctr l Z my13 jdk_42_method_154_code 1 ((Option.some Jvm.ClassFile.FieldType.boolean)) ws (⟨0, 0, 0, 0⟩ : Room) #[(.ref x)] h0 (fun v h L => v = some (.int (1 : Int32)) ∧ Fr n0 L ∧ h = h0) := by
  refine Ctr.go (plainFor_of_name pn_15) fun p e s m below meth c s₁ Bd hx hby hml hZ hown hnm X0 e0 => ?_
  have N0 := Fr.nil n0
  have K0 := Keep.refl h0 []
  refine gs (S' := s₁.setTop (mkF m 0 #[rv x] [])) (fun tg kg => castTop (ef_148 m x) kg) ?_
  refine gS X0 hx hZ hown (host := "") (Or.inl (ow hw 18 rfl)) Via.refl e0 (S0.ext O0.2) hby d28_0 fun T1 X1 e1 => ?_
  refine gs (fun _ k => jn X1 hx hby d28_3 ((if0 _ _).trans (feq hz).1) (ja X1 hx hby d28_6 rfl rfl k)) ?_
  refine gF X1 hx hZ hown (host := "") (Or.inl (ow hw 30 rfl)) Via.refl e1 F_cx hby d28_7 fun T2 X2 e2 => ?_
  refine gs (fun _ k => jn X2 hx hby d28_10 ((if0 _ _).trans (teq (by decide : (0 : Int32) = (0 : Int32))).2) (je (v := (1 : Int32)) X2 hx hby d28_13 (jl (pc' := 18) X2 hx hby d28_14 k))) ?_
  refine gout (v := some (.int (1 : Int32))) X2 Bd.notSynchronized (fun h => by rw [Bd.returns] at h; cases h) (by decide) (by decide) ?_ (fun fs hr => retN X2 hx (t := .boolean) Bd.returns (by simp) (hb hby d28_18) hr)
  rw [e2]
  exact ⟨rfl, N0, rfl⟩
theorem rm_cod1 (l : Launch) (Z : State) (a0 : Array Value) (hw : HW Z a0) (ws : List Jvm.Cond) (x : Addr) (z : Int32) (h0 : Heap) (n0 : Nat) (Z0 : n0 ≤ h0.size) (O0 : Old Z n0 h0) (F_cx : Fld Z h0 x "java/lang/String" "coder" "B" (.int (1 : Int32))) (S0 : PS3 Z (.int z)) (hz : ¬ z = 0) :
    Ctr l Z my12 jdk_42_method_152_code 1 ((Option.some Jvm.ClassFile.FieldType.byte)) ws (⟨0, 0, 0, 0⟩ : Room) #[(.ref x)] h0 (fun v h L => v = some (.int (1 : Int32)) ∧ Fr n0 L ∧ h = h0) := by
  refine Ctr.go (plainFor_of_name pn_15) fun p e s m below meth c s₁ Bd hx hby hml hZ hown hnm X0 e0 => ?_
  have N0 := Fr.nil n0
  have K0 := Keep.refl h0 []
  refine gs (S' := s₁.setTop (mkF m 0 #[rv x] [])) (fun tg kg => castTop (ef_148 m x) kg) ?_
  refine gS X0 hx hZ hown (host := "") (Or.inl (ow hw 18 rfl)) Via.refl e0 (S0.ext O0.2) hby d27_0 fun T1 X1 e1 => ?_
  refine gs (fun _ k => jn X1 hx hby d27_3 ((if0 _ _).trans (feq hz).1) (ja X1 hx hby d27_6 rfl rfl k)) ?_
  refine gF X1 hx hZ hown (host := "") (Or.inl (ow hw 30 rfl)) Via.refl e1 F_cx hby d27_7 fun T2 X2 e2 => ?_
  refine gs (fun _ k => jl (pc' := 14) X2 hx hby d27_10 k) ?_
  refine gout (v := some (.int (1 : Int32))) X2 Bd.notSynchronized (fun h => by rw [Bd.returns] at h; cases h) (by decide) (by decide) ?_ (fun fs hr => retN X2 hx (t := .byte) Bd.returns (by simp) (hb hby d27_14) hr)
  rw [e2]
  exact ⟨rfl, N0, rfl⟩
theorem d28_17 : decode oc28 17 = .ok (.iconst 0, 1) := by decide +kernel
theorem rm_sil1 (l : Launch) (Z : State) (a0 : Array Value) (hw : HW Z a0) (ws : List Jvm.Cond) (x : Addr) (z : Int32) (h0 : Heap) (n0 : Nat) (Z0 : n0 ≤ h0.size) (O0 : Old Z n0 h0) (F_cx : Fld Z h0 x "java/lang/String" "coder" "B" (.int (1 : Int32))) (S0 : PS3 Z (.int z)) (hz : ¬ z = 0) :
    Ctr l Z my13 jdk_42_method_154_code 1 ((Option.some Jvm.ClassFile.FieldType.boolean)) ws (⟨0, 0, 0, 0⟩ : Room) #[(.ref x)] h0 (fun v h L => v = some (.int (0 : Int32)) ∧ Fr n0 L ∧ h = h0) := by
  refine Ctr.go (plainFor_of_name pn_15) fun p e s m below meth c s₁ Bd hx hby hml hZ hown hnm X0 e0 => ?_
  have N0 := Fr.nil n0
  have K0 := Keep.refl h0 []
  refine gs (S' := s₁.setTop (mkF m 0 #[rv x] [])) (fun tg kg => castTop (ef_148 m x) kg) ?_
  refine gS X0 hx hZ hown (host := "") (Or.inl (ow hw 18 rfl)) Via.refl e0 (S0.ext O0.2) hby d28_0 fun T1 X1 e1 => ?_
  refine gs (fun _ k => jn X1 hx hby d28_3 ((if0 _ _).trans (feq hz).1) (ja X1 hx hby d28_6 rfl rfl k)) ?_
  refine gF X1 hx hZ hown (host := "") (Or.inl (ow hw 30 rfl)) Via.refl e1 F_cx hby d28_7 fun T2 X2 e2 => ?_
  refine gs (fun _ k => jt (pc' := 17) X2 hx hby d28_10 ((if0 _ _).trans (feq (by decide : ¬ ((1 : Int32) = (0 : Int32)))).2) (je (v := (0 : Int32)) X2 hx hby d28_17 k)) ?_
  refine gout (v := some (.int (0 : Int32))) X2 Bd.notSynchronized (fun h => by rw [Bd.returns] at h; cases h) (by decide) (by decide) ?_ (fun fs hr => retN X2 hx (t := .boolean) Bd.returns (by simp) (hb hby d28_18) hr)
  rw [e2]
  exact ⟨rfl, N0, rfl⟩
abbrev oc29 := jdk_42_method_54_code
theorem d29_0 : decode oc29 0 = .ok (.aload_n 0, 1) := by decide +kernel
theorem d29_1 : decode oc29 1 = .ok (.getfield 9, 3) := by decide +kernel
theorem d29_4 : decode oc29 4 = .ok (.arraylength, 1) := by decide +kernel
theorem d29_5 : decode oc29 5 = .ok (.aload_n 0, 1) := by decide +kernel
theorem d29_6 : decode oc29 6 = .ok (.invokevirtual 335, 3) := by decide +kernel
theorem pd_469 : parseMethodDescriptor "()B" = some ⟨[], some .byte⟩ := by decide +kernel
theorem d29_9 : decode oc29 9 = .ok (.ishr, 1) := by decide +kernel
theorem d29_10 : decode oc29 10 = .ok (.ireturn, 1) := by decide +kernel
theorem rm_len (l : Launch) (Z : State) (a0 : Array Value) (hw : HW Z a0) (ws : List Jvm.Cond) (x : Addr) (cs : List Int32) (z : Int32) (h0 : Heap) (n0 : Nat) (Z0 : n0 ≤ h0.size) (O0 : Old Z n0 h0) (T_x : SG Z h0 x cs) (hl : cs.length ≤ 100) (S0 : PS3 Z (.int z)) (hz : ¬ z = 0) :
    Ctr l Z (⟨"java/lang/String", "length", "()I"⟩ : MethodName) jdk_42_method_54_code 1 ((Option.some Jvm.ClassFile.FieldType.int)) ws (⟨1, 0, 0, 13⟩ : Room) #[(.ref x)] h0 (fun v h L => v = some (.int (oI cs.length)) ∧ Fr n0 L ∧ h = h0) := by
  refine Ctr.go (plainFor_of_name pn_15) fun p e s m below meth c s₁ Bd hx hby hml hZ hown hnm X0 e0 => ?_
  have N0 := Fr.nil n0
  have K0 := Keep.refl h0 []
  refine gs (S' := s₁.setTop (mkF m 0 #[rv x] [])) (fun tg kg => castTop (ef_148 m x) kg) ?_
  obtain ⟨u, ku, cd, vs, E_x, F_cx, F_vx, V_u, hE⟩ := id T_x
  rcases id hE with ⟨rfl, rfl, hbd⟩ | ⟨rfl, rfl, hbd⟩
  · rw [jy] at V_u
    refine gs (fun _ k => ja X0 hx hby d29_0 rfl rfl k) ?_
    refine gF X0 hx hZ hown (host := "") (Or.inl (ow hw 32 rfl)) Via.refl e0 F_vx hby d29_1 fun T1 X1 e1 => ?_
    obtain ⟨cl2, A2, a2q, a2S, a2N, a2H, a2G⟩ := id V_u
    refine gs (S' := T1.setTop (mkF m 5 #[rv x] [(.int (oI cs.length))])) (fun _ k => by refine X1.arraylength hx (by rw [e1]; exact A2.1) (State.isArrayOf_alike hZ.alike A2.2.1) (g := (mkF m 4 #[rv x] [(.ref u)])) rfl rfl (hb hby d29_4) _ ?_; rw [len_of a2S a2N]; exact k) ?_
    refine gs (fun _ k => ja X1 hx hby d29_5 rfl rfl k) ?_
    refine cV (rest := [(.int (oI cs.length))]) X1 hx hZ hown (ow hw 53 rfl) (ow hw 54 rfl) (nfs hZ (ow hw 56 rfl)) (ow hw 56 rfl) (ow hw 55 rfl) (ow hw 6 rfl) (ow hw 57 rfl) (rm_cod0 l Z a0 hw [] x z h0 n0 Z0 O0 F_cx S0 hz) hby d29_6 e1 pd_469 1 (by rw [hml]; rfl) E_x rfl rfl rfl rfl (by decide) (by decide) fun _ T3 Lc3 X3 hQ3 => ?_
    obtain ⟨rfl, N3q, e3q⟩ := hQ3
    have N3 := Fr.app N0 N3q
    refine gs (fun _ k => o_ishr X3 hx hby d29_9 k) ?_
    refine gout (v := some (.int ((oI cs.length) >>> ((0 : Int32) &&& 31)))) X3 Bd.notSynchronized (fun h => by rw [Bd.returns] at h; cases h) (by decide) (by decide) ?_ (fun fs hr => retI X3 hx Bd.returns (hb hby d29_10) hr)
    rw [e3q]
    exact ⟨congrArg (fun q => some (Value.int q)) (own_shr0 _), N3, rfl⟩
  · rw [jA] at V_u
    refine gs (fun _ k => ja X0 hx hby d29_0 rfl rfl k) ?_
    refine gF X0 hx hZ hown (host := "") (Or.inl (ow hw 32 rfl)) Via.refl e0 F_vx hby d29_1 fun T4 X4 e4 => ?_
    obtain ⟨cl5, A5, a5q, a5S, a5N, a5H, a5G⟩ := id V_u
    refine gs (S' := T4.setTop (mkF m 5 #[rv x] [(.int (oI (2 * cs.length)))])) (fun _ k => by refine X4.arraylength hx (by rw [e4]; exact A5.1) (State.isArrayOf_alike hZ.alike A5.2.1) (g := (mkF m 4 #[rv x] [(.ref u)])) rfl rfl (hb hby d29_4) _ ?_; rw [len_of a5S a5N]; exact k) ?_
    refine gs (fun _ k => ja X4 hx hby d29_5 rfl rfl k) ?_
    refine cV (rest := [(.int (oI (2 * cs.length)))]) X4 hx hZ hown (ow hw 53 rfl) (ow hw 54 rfl) (nfs hZ (ow hw 56 rfl)) (ow hw 56 rfl) (ow hw 55 rfl) (ow hw 6 rfl) (ow hw 57 rfl) (rm_cod1 l Z a0 hw [] x z h0 n0 Z0 O0 F_cx S0 hz) hby d29_6 e4 pd_469 1 (by rw [hml]; rfl) E_x rfl rfl rfl rfl (by decide) (by decide) fun _ T6 Lc6 X6 hQ6 => ?_
    obtain ⟨rfl, N6q, e6q⟩ := hQ6
    have N6 := Fr.app N0 N6q
    refine gs (fun _ k => o_ishr X6 hx hby d29_9 k) ?_
    refine gout (v := some (.int ((oI (2 * cs.length)) >>> ((1 : Int32) &&& 31)))) X6 Bd.notSynchronized (fun h => by rw [Bd.returns] at h; cases h) (by decide) (by decide) ?_ (fun fs hr => retI X6 hx Bd.returns (hb hby d29_10) hr)
    rw [e6q]
    exact ⟨congrArg (fun q => some (Value.int q)) (own_shr1 (n := cs.length) (by omega)), N6, rfl⟩
abbrev oc30 := jdk_43_method_2_code
theorem d30_0 : decode oc30 0 = .ok (.iload_n 1, 1) := by decide +kernel
theorem d30_1 : decode oc30 1 = .ok (.aload_n 0, 1) := by decide +kernel
theorem d30_2 : decode oc30 2 = .ok (.arraylength, 1) := by decide +kernel
theorem d30_3 : decode oc30 3 = .ok (.invokestatic 9, 3) := by decide +kernel
theorem d30_6 : decode oc30 6 = .ok (.aload_n 0, 1) := by decide +kernel
theorem d30_7 : decode oc30 7 = .ok (.iload_n 1, 1) := by decide +kernel
theorem d30_8 : decode oc30 8 = .ok (.baload, 1) := by decide +kernel
theorem d30_9 : decode oc30 9 = .ok (.sipush 255, 3) := by decide +kernel
theorem d30_12 : decode oc30 12 = .ok (.iand, 1) := by decide +kernel
theorem d30_13 : decode oc30 13 = .ok (.i2c, 1) := by decide +kernel
theorem d30_14 : decode oc30 14 = .ok (.ireturn, 1) := by decide +kernel
theorem rm_lch (l : Launch) (Z : State) (a0 : Array Value) (hw : HW Z a0) (ws : List Jvm.Cond) (u : Addr) (ku : ClassId) (cs : List Int32) (i : Nat) (fm : Value) (h0 : Heap) (n0 : Nat) (Z0 : n0 ≤ h0.size) (O0 : Old Z n0 h0) (V_u : Arv Z h0 u ku .byte (oI cs.length) (jC cs) (.int (0 : Int32))) (hbd : ∀ c ∈ cs, ¬ c < 0 ∧ ¬ (255 : Int32) < c) (hi : i < cs.length) (hl : cs.length ≤ 100) (S4 : PS4 Z fm) (hfm : fm.isRef = true) :
    Ctr l Z (⟨"java/lang/StringLatin1", "charAt", "([BI)C"⟩ : MethodName) jdk_43_method_2_code 2 ((Option.some Jvm.ClassFile.FieldType.char)) ws (⟨2, 0, 0, 27⟩ : Room) #[(.ref u), (.int (oI i))] h0 (fun v h L => v = some (.int (cs.getD i 0)) ∧ Fr n0 L ∧ h = h0) := by
  refine Ctr.go (plainFor_of_name pn_167) fun p e s m below meth c s₁ Bd hx hby hml hZ hown hnm X0 e0 => ?_
  have N0 := Fr.nil n0
  have K0 := Keep.refl h0 []
  refine gs (S' := s₁.setTop (mkF m 0 #[rv u, iv (oI i)] [])) (fun tg kg => castTop (ef_196 m u (oI i)) kg) ?_
  refine gs (fun _ k => jb X0 hx hby d30_0 rfl (ja X0 hx hby d30_1 rfl rfl k)) ?_
  obtain ⟨cl1, A1, a1q, a1S, a1N, a1H, a1G⟩ := id V_u
  refine gs (S' := s₁.setTop (mkF m 3 #[rv u, iv (oI i)] [(.int (oI cs.length)), (.int (oI i))])) (fun _ k => by refine X0.arraylength hx (by rw [e0]; exact A1.1) (State.isArrayOf_alike hZ.alike A1.2.1) (g := (mkF m 2 #[rv u, iv (oI i)] [(.ref u), (.int (oI i))])) rfl rfl (hb hby d30_2) _ ?_; rw [len_of a1S a1N]; exact k) ?_
  refine cS (rest := []) X0 hx hZ hown (ow hw 87 rfl) (ow hw 88 rfl) (ow hw 6 rfl) (ow hw 89 rfl) (rm_sci l Z a0 hw [] (oI i) (oI cs.length) fm h0 n0 Z0 O0 (js (by omega)) (jM (by omega) hi) S4 hfm) hby d30_3 e0 pd_255 0 (by rw [hml]; rfl) rfl rfl rfl rfl (by decide) (by decide) fun _ T2 Lc2 X2 hQ2 => ?_
  obtain ⟨rfl, N2q, e2q⟩ := hQ2
  have N2 := Fr.app N0 N2q
  refine gs (fun _ k => ja X2 hx hby d30_6 rfl rfl (jb X2 hx hby d30_7 rfl k)) ?_
  obtain ⟨cl3, A3, a3q, a3S, a3N, a3H, a3G⟩ := id V_u
  have hi3 := inb_of a3S (j := (oI i)) ⟨js (by omega), jM (by omega) hi⟩
  refine gs (fun _ k => X2.baloadBytes hx (j := (oI i)) (v := (.int ((cs.getD i 0).toInt8.toInt32))) (by rw [e2q]; exact A3.1) (State.isArrayOf_alike hZ.alike A3.2.1) A3.2.2 hi3 (Has.at a3H hi3 (by rw [jQ (by omega)]; exact own_bvg cs i hi)) (g := (mkF m 8 #[rv u, iv (oI i)] [(.int (oI i)), (.ref u)])) rfl rfl (hb hby d30_8) _ (XS.sipush X2.here hx rfl (hb hby d30_9) (o_iand X2 hx hby d30_12 k))) ?_
  show OwnGo p e below s _ _ _ (T2.setTop (mkF m 13 #[rv u, iv (oI i)] [(.int (((cs.getD i 0).toInt8.toInt32) &&& (255 : Int32)))]))
  rw [own_chl (jG cs hbd hi)]
  refine gs (fun _ k => o_i2c X2 hx hby d30_13 k) ?_
  show OwnGo p e below s _ _ _ (T2.setTop (mkF m 14 #[rv u, iv (oI i)] [(.int ((cs.getD i 0).toUInt32.toUInt16.toUInt32.toInt32))]))
  rw [own_i2c (own_up1 (jG cs hbd hi))]
  refine gout (v := some (.int (nar .char (cs.getD i 0)))) X2 Bd.notSynchronized (fun h => by rw [Bd.returns] at h; cases h) (by decide) (by decide) ?_ (fun fs hr => retN X2 hx (t := .char) Bd.returns (by simp) (hb hby d30_14) hr)
  rw [e2q]
  exact ⟨congrArg (fun q => some (Value.int q)) (jJ (own_up1 (jG cs hbd hi))), N2, rfl⟩
abbrev oc31 := jdk_52_method_83_code
theorem d31_0 : decode oc31 0 = .ok (.iload_n 1, 1) := by decide +kernel
theorem d31_1 : decode oc31 1 = .ok (.aload_n 0, 1) := by decide +kernel
theorem d31_2 : decode oc31 2 = .ok (.invokestatic 67, 3) := by decide +kernel
theorem d31_5 : decode oc31 5 = .ok (.aload_n 0, 1) := by decide +kernel
theorem d31_6 : decode oc31 6 = .ok (.iload_n 1, 1) := by decide +kernel
theorem d31_7 : decode oc31 7 = .ok (.invokestatic 71, 3) := by decide +kernel
theorem pd_493 : parseMethodDescriptor "([BI)C" = some ⟨[(.array .byte), .int], some .char⟩ := by decide +kernel
theorem d31_10 : decode oc31 10 = .ok (.ireturn, 1) := by decide +kernel
theorem rm_uch (l : Launch) (Z : State) (a0 : Array Value) (hw : HW Z a0) (ws : List Jvm.Cond) (u : Addr) (ku : ClassId) (cs : List Int32) (i : Nat) (fm : Value) (h0 : Heap) (n0 : Nat) (Z0 : n0 ≤ h0.size) (O0 : Old Z n0 h0) (V_u : Arv Z h0 u ku .byte (oI (2 * cs.length)) (jq cs) (.int (0 : Int32))) (hbd : ∀ c ∈ cs, ¬ c < 0 ∧ ¬ (65535 : Int32) < c) (hi : i < cs.length) (hl : cs.length ≤ 100) (S4 : PS4 Z fm) (hfm : fm.isRef = true) (S_ad : PS0 Z (.int (1 : Int32))) (S_hi : PS1 Z (.int (0 : Int32))) (S_lo : PS2 Z (.int (8 : Int32))) :
    Ctr l Z (⟨"java/lang/StringUTF16", "charAt", "([BI)C"⟩ : MethodName) jdk_52_method_83_code 2 ((Option.some Jvm.ClassFile.FieldType.char)) ws (⟨3, 0, 0, 40⟩ : Room) #[(.ref u), (.int (oI i))] h0 (fun v h L => v = some (.int (cs.getD i 0)) ∧ Fr n0 L ∧ h = h0) := by
  refine Ctr.go (plainFor_of_name pn_195) fun p e s m below meth c s₁ Bd hx hby hml hZ hown hnm X0 e0 => ?_
  have N0 := Fr.nil n0
  have K0 := Keep.refl h0 []
  refine gs (S' := s₁.setTop (mkF m 0 #[rv u, iv (oI i)] [])) (fun tg kg => castTop (ef_196 m u (oI i)) kg) ?_
  refine gs (fun _ k => jb X0 hx hby d31_0 rfl (ja X0 hx hby d31_1 rfl rfl k)) ?_
  refine cS (rest := []) X0 hx hZ hown (ow hw 269 rfl) (ow hw 270 rfl) (ow hw 21 rfl) (ow hw 271 rfl) (rm_uci l Z a0 hw [] u ku (jq cs) i cs.length fm h0 n0 Z0 O0 V_u hi (by omega) S4 hfm) hby d31_2 e0 pd_262 0 (by rw [hml]; rfl) rfl rfl rfl rfl (by decide) (by decide) fun _ T1 Lc1 X1 hQ1 => ?_
  obtain ⟨rfl, N1q, e1q⟩ := hQ1
  have N1 := Fr.app N0 N1q
  refine gs (fun _ k => ja X1 hx hby d31_5 rfl rfl (jb X1 hx hby d31_6 rfl k)) ?_
  refine cS (rest := []) X1 hx hZ hown (ow hw 260 rfl) (ow hw 261 rfl) (ow hw 21 rfl) (ow hw 262 rfl) (rm_gc l Z a0 hw [] u ku cs i (2 * cs.length) h0 n0 Z0 O0 V_u hi (Nat.le_refl _) (by omega) (jG cs hbd hi) S_ad S_hi S_lo) hby d31_7 e1q pd_493 0 (by rw [hml]; rfl) rfl rfl rfl rfl (by decide) (by decide) fun _ T2 Lc2 X2 hQ2 => ?_
  obtain ⟨rfl, N2q, e2q⟩ := hQ2
  have N2 := Fr.app N1 N2q
  refine gout (v := some (.int (nar .char (cs.getD i 0)))) X2 Bd.notSynchronized (fun h => by rw [Bd.returns] at h; cases h) (by decide) (by decide) ?_ (fun fs hr => retN X2 hx (t := .char) Bd.returns (by simp) (hb hby d31_10) hr)
  rw [e2q]
  exact ⟨congrArg (fun q => some (Value.int q)) (jJ (jG cs hbd hi)), N2, rfl⟩
abbrev oc32 := jdk_42_method_56_code
theorem d32_0 : decode oc32 0 = .ok (.aload_n 0, 1) := by decide +kernel
theorem d32_1 : decode oc32 1 = .ok (.invokevirtual 492, 3) := by decide +kernel
theorem d32_4 : decode oc32 4 = .ok (.ifCond .eq 12, 3) := by decide +kernel
theorem d32_7 : decode oc32 7 = .ok (.aload_n 0, 1) := by decide +kernel
theorem d32_8 : decode oc32 8 = .ok (.getfield 9, 3) := by decide +kernel
theorem d32_11 : decode oc32 11 = .ok (.iload_n 1, 1) := by decide +kernel
theorem d32_12 : decode oc32 12 = .ok (.invokestatic 495, 3) := by decide +kernel
theorem d32_15 : decode oc32 15 = .ok (.ireturn, 1) := by decide +kernel
theorem d32_16 : decode oc32 16 = .ok (.aload_n 0, 1) := by decide +kernel
theorem d32_17 : decode oc32 17 = .ok (.getfield 9, 3) := by decide +kernel
theorem d32_20 : decode oc32 20 = .ok (.iload_n 1, 1) := by decide +kernel
theorem d32_21 : decode oc32 21 = .ok (.invokestatic 498, 3) := by decide +kernel
theorem d32_24 : decode oc32 24 = .ok (.ireturn, 1) := by decide +kernel
theorem rm_ch (l : Launch) (Z : State) (a0 : Array Value) (hw : HW Z a0) (ws : List Jvm.Cond) (x : Addr) (cs : List Int32) (i : Nat) (z : Int32) (fm : Value) (h0 : Heap) (n0 : Nat) (Z0 : n0 ≤ h0.size) (O0 : Old Z n0 h0) (T_x : SG Z h0 x cs) (hi : i < cs.length) (hl : cs.length ≤ 100) (S0 : PS3 Z (.int z)) (hz : ¬ z = 0) (S4 : PS4 Z fm) (hfm : fm.isRef = true) (S_ad : PS0 Z (.int (1 : Int32))) (S_hi : PS1 Z (.int (0 : Int32))) (S_lo : PS2 Z (.int (8 : Int32))) :
    Ctr l Z (⟨"java/lang/String", "charAt", "(I)C"⟩ : MethodName) jdk_42_method_56_code 2 ((Option.some Jvm.ClassFile.FieldType.char)) ws (⟨4, 0, 0, 53⟩ : Room) #[(.ref x), (.int (oI i))] h0 (fun v h L => v = some (.int (cs.getD i 0)) ∧ Fr n0 L ∧ h = h0) := by
  refine Ctr.go (plainFor_of_name pn_15) fun p e s m below meth c s₁ Bd hx hby hml hZ hown hnm X0 e0 => ?_
  have N0 := Fr.nil n0
  have K0 := Keep.refl h0 []
  refine gs (S' := s₁.setTop (mkF m 0 #[rv x, iv (oI i)] [])) (fun tg kg => castTop (ef_196 m x (oI i)) kg) ?_
  obtain ⟨u, ku, cd, vs, E_x, F_cx, F_vx, V_u, hE⟩ := id T_x
  rcases id hE with ⟨rfl, rfl, hbd⟩ | ⟨rfl, rfl, hbd⟩
  · rw [jy] at V_u
    refine gs (fun _ k => ja X0 hx hby d32_0 rfl rfl k) ?_
    refine cV (rest := []) X0 hx hZ hown (ow hw 78 rfl) (ow hw 79 rfl) (nfs hZ (ow hw 81 rfl)) (ow hw 81 rfl) (ow hw 80 rfl) (ow hw 6 rfl) (ow hw 82 rfl) (rm_sil0 l Z a0 hw [] x z h0 n0 Z0 O0 F_cx S0 hz) hby d32_1 e0 pd_358 0 (by rw [hml]; rfl) E_x rfl rfl rfl rfl (by decide) (by decide) fun _ T1 Lc1 X1 hQ1 => ?_
    obtain ⟨rfl, N1q, e1q⟩ := hQ1
    have N1 := Fr.app N0 N1q
    refine gs (fun _ k => jn X1 hx hby d32_4 ((if0 _ _).trans (feq (by decide : ¬ ((1 : Int32) = (0 : Int32)))).1) (ja X1 hx hby d32_7 rfl rfl k)) ?_
    refine gF X1 hx hZ hown (host := "") (Or.inl (ow hw 32 rfl)) Via.refl e1q F_vx hby d32_8 fun T2 X2 e2 => ?_
    refine gs (fun _ k => jb X2 hx hby d32_11 rfl k) ?_
    refine cS (rest := []) X2 hx hZ hown (ow hw 83 rfl) (ow hw 84 rfl) (ow hw 85 rfl) (ow hw 86 rfl) (rm_lch l Z a0 hw [] u ku cs i fm h0 n0 Z0 O0 V_u hbd hi hl S4 hfm) hby d32_12 e2 pd_493 0 (by rw [hml]; rfl) rfl rfl rfl rfl (by decide) (by decide) fun _ T3 Lc3 X3 hQ3 => ?_
    obtain ⟨rfl, N3q, e3q⟩ := hQ3
    have N3 := Fr.app N1 N3q
    refine gout (v := some (.int (nar .char (cs.getD i 0)))) X3 Bd.notSynchronized (fun h => by rw [Bd.returns] at h; cases h) (by decide) (by decide) ?_ (fun fs hr => retN X3 hx (t := .char) Bd.returns (by simp) (hb hby d32_15) hr)
    rw [e3q]
    exact ⟨congrArg (fun q => some (Value.int q)) (jJ (jG cs T_x.b16 hi)), N3, rfl⟩
  · rw [jA] at V_u
    refine gs (fun _ k => ja X0 hx hby d32_0 rfl rfl k) ?_
    refine cV (rest := []) X0 hx hZ hown (ow hw 78 rfl) (ow hw 79 rfl) (nfs hZ (ow hw 81 rfl)) (ow hw 81 rfl) (ow hw 80 rfl) (ow hw 6 rfl) (ow hw 82 rfl) (rm_sil1 l Z a0 hw [] x z h0 n0 Z0 O0 F_cx S0 hz) hby d32_1 e0 pd_358 0 (by rw [hml]; rfl) E_x rfl rfl rfl rfl (by decide) (by decide) fun _ T4 Lc4 X4 hQ4 => ?_
    obtain ⟨rfl, N4q, e4q⟩ := hQ4
    have N4 := Fr.app N0 N4q
    refine gs (fun _ k => jt (pc' := 16) X4 hx hby d32_4 ((if0 _ _).trans (teq (by decide : (0 : Int32) = (0 : Int32))).1) (ja X4 hx hby d32_16 rfl rfl k)) ?_
    refine gF X4 hx hZ hown (host := "") (Or.inl (ow hw 32 rfl)) Via.refl e4q F_vx hby d32_17 fun T5 X5 e5 => ?_
    refine gs (fun _ k => jb X5 hx hby d32_20 rfl k) ?_
    refine cS (rest := []) X5 hx hZ hown (ow hw 266 rfl) (ow hw 267 rfl) (ow hw 21 rfl) (ow hw 268 rfl) (rm_uch l Z a0 hw [] u ku cs i fm h0 n0 Z0 O0 V_u hbd hi hl S4 hfm S_ad S_hi S_lo) hby d32_21 e5 pd_493 0 (by rw [hml]; rfl) rfl rfl rfl rfl (by decide) (by decide) fun _ T6 Lc6 X6 hQ6 => ?_
    obtain ⟨rfl, N6q, e6q⟩ := hQ6
    have N6 := Fr.app N4 N6q
    refine gout (v := some (.int (nar .char (cs.getD i 0)))) X6 Bd.notSynchronized (fun h => by rw [Bd.returns] at h; cases h) (by decide) (by decide) ?_ (fun fs hr => retN X6 hx (t := .char) Bd.returns (by simp) (hb hby d32_24) hr)
    rw [e6q]
    exact ⟨congrArg (fun q => some (Value.int q)) (jJ (jG cs T_x.b16 hi)), N6, rfl⟩
abbrev oc33 := jdk_68_method_71_code
theorem d33_0 : decode oc33 0 = .ok (.getstatic 18, 3) := by decide +kernel
theorem d33_3 : decode oc33 3 = .ok (.ifCond .eq 18, 3) := by decide +kernel
theorem d33_6 : decode oc33 6 = .ok (.aload_n 0, 1) := by decide +kernel
theorem d33_7 : decode oc33 7 = .ok (.getfield 22, 3) := by decide +kernel
theorem d33_10 : decode oc33 10 = .ok (.aload_n 1, 1) := by decide +kernel
theorem d33_11 : decode oc33 11 = .ok (.invokevirtual 40, 3) := by decide +kernel
theorem d33_14 : decode oc33 14 = .ok (.if_icmp .eq 7, 3) := by decide +kernel
theorem d33_21 : decode oc33 21 = .ok (.return_, 1) := by decide +kernel
theorem rm_inn0 (l : Launch) (Z : State) (a0 : Array Value) (hw : HW Z a0) (ws : List Jvm.Cond) (b : Addr) (x : Addr) (z : Int32) (h0 : Heap) (n0 : Nat) (Z0 : n0 ≤ h0.size) (O0 : Old Z n0 h0) (E_b : Exa Z h0 b "java/lang/StringBuilder") (F_c : Fld Z h0 b "java/lang/AbstractStringBuilder" "coder" "B" (.int (0 : Int32))) (E_x : Exa Z h0 x "java/lang/String") (F_cx : Fld Z h0 x "java/lang/String" "coder" "B" (.int (0 : Int32))) (S0 : PS3 Z (.int z)) (hz : ¬ z = 0) :
    Ctr l Z my14 jdk_68_method_71_code 2 ((Option.none : Option Jvm.ClassFile.FieldType)) ws (⟨1, 0, 0, 13⟩ : Room) #[(.ref b), (.ref x)] h0 (fun v h L => v = none ∧ Fr n0 L ∧ h = h0) := by
  refine Ctr.go (plainFor_of_name pn_98) fun p e s m below meth c s₁ Bd hx hby hml hZ hown hnm X0 e0 => ?_
  have N0 := Fr.nil n0
  have K0 := Keep.refl h0 []
  refine gs (S' := s₁.setTop (mkF m 0 #[rv b, rv x] [])) (fun tg kg => castTop (ef_16 m b x) kg) ?_
  refine gS X0 hx hZ hown (host := "") (Or.inl (ow hw 68 rfl)) Via.refl e0 (S0.ext O0.2) hby d33_0 fun T1 X1 e1 => ?_
  refine gs (fun _ k => jn X1 hx hby d33_3 ((if0 _ _).trans (feq hz).1) (ja X1 hx hby d33_6 rfl rfl k)) ?_
  refine gF X1 hx hZ hown (host := "") (Or.inl (ow hw 71 rfl)) Via.refl e1 F_c hby d33_7 fun T2 X2 e2 => ?_
  refine gs (fun _ k => ja X2 hx hby d33_10 rfl rfl k) ?_
  refine cV (rest := [(.int (0 : Int32))]) X2 hx hZ hown (ow hw 150 rfl) (ow hw 54 rfl) (nfs hZ (ow hw 56 rfl)) (ow hw 56 rfl) (ow hw 55 rfl) (ow hw 6 rfl) (ow hw 57 rfl) (rm_cod0 l Z a0 hw [] x z h0 n0 Z0 O0 F_cx S0 hz) hby d33_11 e2 pd_469 1 (by rw [hml]; rfl) E_x rfl rfl rfl rfl (by decide) (by decide) fun _ T3 Lc3 X3 hQ3 => ?_
  obtain ⟨rfl, N3q, e3q⟩ := hQ3
  have N3 := Fr.app N0 N3q
  refine gs (fun _ k => jh (pc' := 21) X3 hx hby d33_14 (teq (by decide : (0 : Int32) = (0 : Int32))).1 k) ?_
  refine gout (v := none) X3 Bd.notSynchronized (fun _ => rfl) (by decide) (by decide) ?_ (fun fs hr => X3.returnOut hx Bd.returns (hb hby d33_21) hr)
  rw [e3q]
  exact ⟨rfl, N3, rfl⟩
theorem d33_17 : decode oc33 17 = .ok (.aload_n 0, 1) := by decide +kernel
theorem d33_18 : decode oc33 18 = .ok (.invokevirtual 195, 3) := by decide +kernel
theorem rm_inn1 (l : Launch) (Z : State) (a0 : Array Value) (hw : HW Z a0) (ws : List Jvm.Cond) (b : Addr) (x : Addr) (z : Int32) (h0 : Heap) (n0 : Nat) (Z0 : n0 ≤ h0.size) (O0 : Old Z n0 h0) (E_b : Exa Z h0 b "java/lang/StringBuilder") (F_c : Fld Z h0 b "java/lang/AbstractStringBuilder" "coder" "B" (.int (1 : Int32))) (E_x : Exa Z h0 x "java/lang/String") (F_cx : Fld Z h0 x "java/lang/String" "coder" "B" (.int (0 : Int32))) (S0 : PS3 Z (.int z)) (hz : ¬ z = 0) :
    Ctr l Z my14 jdk_68_method_71_code 2 ((Option.none : Option Jvm.ClassFile.FieldType)) ws (⟨2, 0, 0, 25⟩ : Room) #[(.ref b), (.ref x)] h0 (fun v h L => v = none ∧ Fr n0 L ∧ h = h0) := by
  refine Ctr.go (plainFor_of_name pn_98) fun p e s m below meth c s₁ Bd hx hby hml hZ hown hnm X0 e0 => ?_
  have N0 := Fr.nil n0
  have K0 := Keep.refl h0 []
  refine gs (S' := s₁.setTop (mkF m 0 #[rv b, rv x] [])) (fun tg kg => castTop (ef_16 m b x) kg) ?_
  refine gS X0 hx hZ hown (host := "") (Or.inl (ow hw 68 rfl)) Via.refl e0 (S0.ext O0.2) hby d33_0 fun T1 X1 e1 => ?_
  refine gs (fun _ k => jn X1 hx hby d33_3 ((if0 _ _).trans (feq hz).1) (ja X1 hx hby d33_6 rfl rfl k)) ?_
  refine gF X1 hx hZ hown (host := "") (Or.inl (ow hw 71 rfl)) Via.refl e1 F_c hby d33_7 fun T2 X2 e2 => ?_
  refine gs (fun _ k => ja X2 hx hby d33_10 rfl rfl k) ?_
  refine cV (rest := [(.int (1 : Int32))]) X2 hx hZ hown (ow hw 150 rfl) (ow hw 54 rfl) (nfs hZ (ow hw 56 rfl)) (ow hw 56 rfl) (ow hw 55 rfl) (ow hw 6 rfl) (ow hw 57 rfl) (rm_cod0 l Z a0 hw [] x z h0 n0 Z0 O0 F_cx S0 hz) hby d33_11 e2 pd_469 1 (by rw [hml]; rfl) E_x rfl rfl rfl rfl (by decide) (by decide) fun _ T3 Lc3 X3 hQ3 => ?_
  obtain ⟨rfl, N3q, e3q⟩ := hQ3
  have N3 := Fr.app N0 N3q
  refine gs (fun _ k => ji X3 hx hby d33_14 (feq (by decide : ¬ ((1 : Int32) = (0 : Int32)))).1 (ja X3 hx hby d33_17 rfl rfl k)) ?_
  refine cV (rest := []) X3 hx hZ hown (ow hw 276 rfl) (jH (ow hw 277 rfl) (ow hw 280 rfl)) (nfs hZ (ow hw 279 rfl)) (ow hw 279 rfl) (ow hw 277 rfl) (ow hw 65 rfl) (ow hw 280 rfl) (rm_inf1 l Z a0 hw [] b z h0 n0 Z0 O0 E_b F_c S0 hz) hby d33_18 e3q pd_404 0 (by rw [hml]; rfl) E_b rfl rfl rfl rfl (by decide) (by decide) fun _ T4 Lc4 X4 hQ4 => ?_
  obtain ⟨rfl, N4q, e4q⟩ := hQ4
  have N4 := Fr.app N3 N4q
  refine gout (v := none) X4 Bd.notSynchronized (fun _ => rfl) (by decide) (by decide) ?_ (fun fs hr => X4.returnOut hx Bd.returns (hb hby d33_21) hr)
  rw [e4q]
  exact ⟨rfl, N4, rfl⟩
theorem ef_523 (m : MethodId) (x0 : Addr) (x1 : Addr) (x2 : Int32) (x3 : Int32) : entryFrame m #[(.ref x0), (.ref x1), (.int x2), (.int x3)] 4 = mkF m 0 #[.val (.ref x0), .val (.ref x1), .val (.int x2), .val (.int x3)] [] := by first | (simp [entryFrame, mkF, argsToLocals, Value.category]; done) | rfl
abbrev oc34 := jdk_42_method_147_code
theorem d34_0 : decode oc34 0 = .ok (.aload_n 0, 1) := by decide +kernel
theorem d34_1 : decode oc34 1 = .ok (.invokevirtual 335, 3) := by decide +kernel
theorem d34_4 : decode oc34 4 = .ok (.iload_n 3, 1) := by decide +kernel
theorem d34_5 : decode oc34 5 = .ok (.if_icmp .ne 23, 3) := by decide +kernel
theorem d34_8 : decode oc34 8 = .ok (.aload_n 0, 1) := by decide +kernel
theorem d34_9 : decode oc34 9 = .ok (.getfield 9, 3) := by decide +kernel
theorem d34_12 : decode oc34 12 = .ok (.iconst 0, 1) := by decide +kernel
theorem d34_13 : decode oc34 13 = .ok (.aload_n 1, 1) := by decide +kernel
theorem d34_14 : decode oc34 14 = .ok (.iload_n 2, 1) := by decide +kernel
theorem d34_15 : decode oc34 15 = .ok (.iload_n 3, 1) := by decide +kernel
theorem d34_16 : decode oc34 16 = .ok (.ishl, 1) := by decide +kernel
theorem d34_17 : decode oc34 17 = .ok (.aload_n 0, 1) := by decide +kernel
theorem d34_18 : decode oc34 18 = .ok (.getfield 9, 3) := by decide +kernel
theorem d34_21 : decode oc34 21 = .ok (.arraylength, 1) := by decide +kernel
theorem d34_22 : decode oc34 22 = .ok (.invokestatic 212, 3) := by decide +kernel
theorem d34_25 : decode oc34 25 = .ok (.goto 18, 3) := by decide +kernel
theorem d34_43 : decode oc34 43 = .ok (.return_, 1) := by decide +kernel
theorem rm_gb0 (l : Launch) (Z : State) (a0 : Array Value) (hw : HW Z a0) (ws : List Jvm.Cond) (x : Addr) (u : Addr) (ku : ClassId) (ds : List Int32) (t : Addr) (kb : ClassId) (cs : List Int32) (N : Nat) (z : Int32) (h0 : Heap) (n0 : Nat) (Z0 : n0 ≤ h0.size) (O0 : Old Z n0 h0) (E_x : Exa Z h0 x "java/lang/String") (F_cx : Fld Z h0 x "java/lang/String" "coder" "B" (.int (0 : Int32))) (F_vx : Fld Z h0 x "java/lang/String" "value" "[B" (.ref u)) (V_u : Arv Z h0 u ku .byte (oI ds.length) (jC ds) (.int (0 : Int32))) (hbx : ∀ c ∈ ds, ¬ c < 0 ∧ ¬ (255 : Int32) < c) (V_t : Arv Z h0 t kb .byte (oI N) (jC cs) (.int (0 : Int32))) (g_t : n0 ≤ t) (hfit : cs.length + ds.length ≤ N) (hN : N ≤ 100) (S0 : PS3 Z (.int z)) (hz : ¬ z = 0) :
    Ctr l Z my15 jdk_42_method_147_code 4 ((Option.none : Option Jvm.ClassFile.FieldType)) ws (⟨1, 0, 0, 18⟩ : Room) #[(.ref x), (.ref t), (.int (oI cs.length)), (.int (0 : Int32))] h0 (fun v h L => v = none ∧ Fr n0 L ∧ Keep h0 h [t] ∧ Arv Z h t kb .byte (oI N) (jC (cs ++ ds)) (.int (0 : Int32))) := by
  refine Ctr.go (plainFor_of_name pn_15) fun p e s m below meth c s₁ Bd hx hby hml hZ hown hnm X0 e0 => ?_
  have N0 := Fr.nil n0
  have K0 := Keep.refl h0 [t]
  refine gs (S' := s₁.setTop (mkF m 0 #[rv x, rv t, iv (oI cs.length), iv (0 : Int32)] [])) (fun tg kg => castTop (ef_523 m x t (oI cs.length) (0 : Int32)) kg) ?_
  refine gs (fun _ k => ja X0 hx hby d34_0 rfl rfl k) ?_
  refine cV (rest := []) X0 hx hZ hown (ow hw 53 rfl) (ow hw 54 rfl) (nfs hZ (ow hw 56 rfl)) (ow hw 56 rfl) (ow hw 55 rfl) (ow hw 6 rfl) (ow hw 57 rfl) (rm_cod0 l Z a0 hw [] x z h0 n0 Z0 O0 F_cx S0 hz) hby d34_1 e0 pd_469 0 (by rw [hml]; rfl) E_x rfl rfl rfl rfl (by decide) (by decide) fun _ T1 Lc1 X1 hQ1 => ?_
  obtain ⟨rfl, N1q, e1q⟩ := hQ1
  have N1 := Fr.app N0 N1q
  refine gs (fun _ k => jb X1 hx hby d34_4 rfl (ji X1 hx hby d34_5 (teq (by decide : (0 : Int32) = (0 : Int32))).2 (ja X1 hx hby d34_8 rfl rfl k))) ?_
  refine gF X1 hx hZ hown (host := "") (Or.inl (ow hw 32 rfl)) Via.refl e1q F_vx hby d34_9 fun T2 X2 e2 => ?_
  refine gs (fun _ k => je (v := (0 : Int32)) X2 hx hby d34_12 (ja X2 hx hby d34_13 rfl rfl (jb X2 hx hby d34_14 rfl (jb X2 hx hby d34_15 rfl (o_ishl X2 hx hby d34_16 (ja X2 hx hby d34_17 rfl rfl k)))))) ?_
  refine gF X2 hx hZ hown (host := "") (Or.inl (ow hw 32 rfl)) Via.refl e2 F_vx hby d34_18 fun T3 X3 e3 => ?_
  obtain ⟨cl4, A4, a4q, a4S, a4N, a4H, a4G⟩ := id V_u
  refine gs (S' := T3.setTop (mkF m 22 #[rv x, rv t, iv (oI cs.length), iv (0 : Int32)] [(.int (oI ds.length)), (.int ((oI cs.length) <<< ((0 : Int32) &&& 31))), (.ref t), (.int (0 : Int32)), (.ref u)])) (fun _ k => by refine X3.arraylength hx (by rw [e3]; exact A4.1) (State.isArrayOf_alike hZ.alike A4.2.1) (g := (mkF m 21 #[rv x, rv t, iv (oI cs.length), iv (0 : Int32)] [(.ref u), (.int ((oI cs.length) <<< ((0 : Int32) &&& 31))), (.ref t), (.int (0 : Int32)), (.ref u)])) rfl rfl (hb hby d34_21) _ ?_; rw [len_of a4S a4N]; exact k) ?_
  obtain ⟨T5, h5, L5, X5, e5, N5, K5q, V5, st5⟩ := own_cpv X3 hx hZ hown (ow hw 156 rfl) (ow hw 139 rfl) (ow hw 137 rfl) (ow hw 138 rfl) e3 V_u V_t ds.length N ds.length rfl rfl rfl ((own_shl0 _).trans (by rw [own_bvl])) (by omega) (by omega) (Nat.le_of_eq (own_bvl ds)) (Nat.le_refl _) (by rw [own_bvl]; omega) N1 g_t (g := (mkF m 22 #[rv x, rv t, iv (oI cs.length), iv (0 : Int32)] [(.int (oI ds.length)), (.int ((oI cs.length) <<< ((0 : Int32) &&& 31))), (.ref t), (.int (0 : Int32)), (.ref u)])) rfl (by rw [hml]; rfl) rfl (hb hby d34_22) (by decide) (W := 0) (jK rfl) (by decide)
  have Z6 := nt Z0 K5q.1
  have O6 := O0.keep K5q (allS g_t all0)
  have K6 := K0.trans K5q (allS (Or.inl (List.mem_of_getElem? (i := 0) rfl)) all0)
  refine gs (S' := T5.setTop (mkF m 25 #[rv x, rv t, iv (oI cs.length), iv (0 : Int32)] [])) st5 ?_
  refine gs (fun _ k => jl (pc' := 43) X5 hx hby d34_25 k) ?_
  refine gout (v := none) X5 Bd.notSynchronized (fun _ => rfl) (by decide) (by decide) ?_ (fun fs hr => X5.returnOut hx Bd.returns (hb hby d34_43) hr)
  rw [e5]
  exact ⟨rfl, N5, K6, by rw [own_bva]; exact V5⟩
theorem d34_28 : decode oc34 28 = .ok (.aload_n 0, 1) := by decide +kernel
theorem d34_29 : decode oc34 29 = .ok (.getfield 9, 3) := by decide +kernel
theorem d34_32 : decode oc34 32 = .ok (.iconst 0, 1) := by decide +kernel
theorem d34_33 : decode oc34 33 = .ok (.aload_n 1, 1) := by decide +kernel
theorem d34_34 : decode oc34 34 = .ok (.iload_n 2, 1) := by decide +kernel
theorem d34_35 : decode oc34 35 = .ok (.aload_n 0, 1) := by decide +kernel
theorem d34_36 : decode oc34 36 = .ok (.getfield 9, 3) := by decide +kernel
theorem d34_39 : decode oc34 39 = .ok (.arraylength, 1) := by decide +kernel
theorem d34_40 : decode oc34 40 = .ok (.invokestatic 106, 3) := by decide +kernel
theorem rm_gb1 (l : Launch) (Z : State) (a0 : Array Value) (hw : HW Z a0) (ws : List Jvm.Cond) (x : Addr) (u : Addr) (ku : ClassId) (ds : List Int32) (t : Addr) (kb : ClassId) (cs : List Int32) (N : Nat) (z : Int32) (fm : Value) (h0 : Heap) (n0 : Nat) (Z0 : n0 ≤ h0.size) (O0 : Old Z n0 h0) (E_x : Exa Z h0 x "java/lang/String") (F_cx : Fld Z h0 x "java/lang/String" "coder" "B" (.int (0 : Int32))) (F_vx : Fld Z h0 x "java/lang/String" "value" "[B" (.ref u)) (V_u : Arv Z h0 u ku .byte (oI ds.length) (jC ds) (.int (0 : Int32))) (hbx : ∀ c ∈ ds, ¬ c < 0 ∧ ¬ (255 : Int32) < c) (V_t : Arv Z h0 t kb .byte (oI (2 * N)) (jq cs) (.int (0 : Int32))) (g_t : n0 ≤ t) (hut : u ≠ t) (hfit : cs.length + ds.length ≤ N) (hN : N ≤ 100) (S0 : PS3 Z (.int z)) (hz : ¬ z = 0) (S4 : PS4 Z fm) (hfm : fm.isRef = true) (S_ad : PS0 Z (.int (1 : Int32))) (S_hi : PS1 Z (.int (0 : Int32))) (S_lo : PS2 Z (.int (8 : Int32))) :
    Ctr l Z my15 jdk_42_method_147_code 4 ((Option.none : Option Jvm.ClassFile.FieldType)) ws (⟨5, 0, 0, 76⟩ : Room) #[(.ref x), (.ref t), (.int (oI cs.length)), (.int (1 : Int32))] h0 (fun v h L => v = none ∧ Fr n0 L ∧ Keep h0 h [t] ∧ Arv Z h t kb .byte (oI (2 * N)) (jq (cs ++ ds)) (.int (0 : Int32))) := by
  refine Ctr.go (plainFor_of_name pn_15) fun p e s m below meth c s₁ Bd hx hby hml hZ hown hnm X0 e0 => ?_
  have N0 := Fr.nil n0
  have K0 := Keep.refl h0 [t]
  refine gs (S' := s₁.setTop (mkF m 0 #[rv x, rv t, iv (oI cs.length), iv (1 : Int32)] [])) (fun tg kg => castTop (ef_523 m x t (oI cs.length) (1 : Int32)) kg) ?_
  refine gs (fun _ k => ja X0 hx hby d34_0 rfl rfl k) ?_
  refine cV (rest := []) X0 hx hZ hown (ow hw 53 rfl) (ow hw 54 rfl) (nfs hZ (ow hw 56 rfl)) (ow hw 56 rfl) (ow hw 55 rfl) (ow hw 6 rfl) (ow hw 57 rfl) (rm_cod0 l Z a0 hw [] x z h0 n0 Z0 O0 F_cx S0 hz) hby d34_1 e0 pd_469 0 (by rw [hml]; rfl) E_x rfl rfl rfl rfl (by decide) (by decide) fun _ T1 Lc1 X1 hQ1 => ?_
  obtain ⟨rfl, N1q, e1q⟩ := hQ1
  have N1 := Fr.app N0 N1q
  refine gs (fun _ k => jb X1 hx hby d34_4 rfl (jh (pc' := 28) X1 hx hby d34_5 (feq (by decide : ¬ ((0 : Int32) = (1 : Int32)))).2 (ja X1 hx hby d34_28 rfl rfl k))) ?_
  refine gF X1 hx hZ hown (host := "") (Or.inl (ow hw 32 rfl)) Via.refl e1q F_vx hby d34_29 fun T2 X2 e2 => ?_
  refine gs (fun _ k => je (v := (0 : Int32)) X2 hx hby d34_32 (ja X2 hx hby d34_33 rfl rfl (jb X2 hx hby d34_34 rfl (ja X2 hx hby d34_35 rfl rfl k)))) ?_
  refine gF X2 hx hZ hown (host := "") (Or.inl (ow hw 32 rfl)) Via.refl e2 F_vx hby d34_36 fun T3 X3 e3 => ?_
  obtain ⟨cl4, A4, a4q, a4S, a4N, a4H, a4G⟩ := id V_u
  refine gs (S' := T3.setTop (mkF m 40 #[rv x, rv t, iv (oI cs.length), iv (1 : Int32)] [(.int (oI ds.length)), (.int (oI cs.length)), (.ref t), (.int (0 : Int32)), (.ref u)])) (fun _ k => by refine X3.arraylength hx (by rw [e3]; exact A4.1) (State.isArrayOf_alike hZ.alike A4.2.1) (g := (mkF m 39 #[rv x, rv t, iv (oI cs.length), iv (1 : Int32)] [(.ref u), (.int (oI cs.length)), (.ref t), (.int (0 : Int32)), (.ref u)])) rfl rfl (hb hby d34_39) _ ?_; rw [len_of a4S a4N]; exact k) ?_
  refine cS (rest := []) X3 hx hZ hown (ow hw 304 rfl) (ow hw 283 rfl) (ow hw 85 rfl) (ow hw 284 rfl) (rm_li l Z a0 hw [] u ku ds ds.length t kb cs N fm h0 n0 Z0 O0 V_u hbx (Nat.le_refl _) (by omega) V_t g_t hut hfit hN S4 hfm S_ad S_hi S_lo) hby d34_40 e3 pd_335 0 (by rw [hml]; rfl) rfl rfl rfl rfl (by decide) (by decide) fun _ T5 Lc5 X5 hQ5 => ?_
  obtain ⟨rfl, N5q, K5q, V5q⟩ := hQ5
  have N5 := Fr.app N1 N5q
  have Z6 := nt Z0 K5q.1
  have O6 := O0.keep K5q (allS g_t all0)
  have K6 := K0.trans K5q (allS (Or.inl (List.mem_of_getElem? (i := 0) rfl)) all0)
  refine gout (v := none) X5 Bd.notSynchronized (fun _ => rfl) (by decide) (by decide) ?_ (fun fs hr => X5.returnOut hx Bd.returns (hb hby d34_43) hr)
  exact ⟨rfl, N5, K6, V5q⟩
theorem ef_552 (m : MethodId) (x0 : Addr) (x1 : Int32) (x2 : Addr) : entryFrame m #[(.ref x0), (.int x1), (.ref x2)] 3 = mkF m 0 #[.val (.ref x0), .val (.int x1), .val (.ref x2)] [] := by first | (simp [entryFrame, mkF, argsToLocals, Value.category]; done) | rfl
abbrev oc35 := jdk_68_method_73_code
theorem d35_0 : decode oc35 0 = .ok (.aload_n 0, 1) := by decide +kernel
theorem d35_1 : decode oc35 1 = .ok (.aload_n 2, 1) := by decide +kernel
theorem d35_2 : decode oc35 2 = .ok (.invokevirtual 397, 3) := by decide +kernel
theorem pd_557 : parseMethodDescriptor "(Ljava/lang/String;)V" = some ⟨[(.object "java/lang/String")], none⟩ := by decide +kernel
theorem d35_5 : decode oc35 5 = .ok (.aload_n 2, 1) := by decide +kernel
theorem d35_6 : decode oc35 6 = .ok (.aload_n 0, 1) := by decide +kernel
theorem d35_7 : decode oc35 7 = .ok (.getfield 15, 3) := by decide +kernel
theorem d35_10 : decode oc35 10 = .ok (.iload_n 1, 1) := by decide +kernel
theorem d35_11 : decode oc35 11 = .ok (.aload_n 0, 1) := by decide +kernel
theorem d35_12 : decode oc35 12 = .ok (.getfield 22, 3) := by decide +kernel
theorem d35_15 : decode oc35 15 = .ok (.invokevirtual 399, 3) := by decide +kernel
theorem pd_565 : parseMethodDescriptor "([BIB)V" = some ⟨[(.array .byte), .int, .byte], none⟩ := by decide +kernel
theorem d35_18 : decode oc35 18 = .ok (.return_, 1) := by decide +kernel
theorem rm_pa (l : Launch) (Z : State) (a0 : Array Value) (hw : HW Z a0) (ws : List Jvm.Cond) (b : Addr) (t : Addr) (kb : ClassId) (vs : List Value) (cd : Int32) (nv : Int32) (N : Nat) (cs : List Int32) (x : Addr) (u : Addr) (ku : ClassId) (ds : List Int32) (z : Int32) (fm : Value) (h0 : Heap) (n0 : Nat) (Z0 : n0 ≤ h0.size) (O0 : Old Z n0 h0) (B0 : BB Z h0 b t kb cd nv (oI (jk cd N)) vs) (hE : Enc cd vs cs) (hN : N ≤ 36) (g_t : n0 ≤ t) (E_x : Exa Z h0 x "java/lang/String") (F_cx : Fld Z h0 x "java/lang/String" "coder" "B" (.int (0 : Int32))) (F_vx : Fld Z h0 x "java/lang/String" "value" "[B" (.ref u)) (V_u : Arv Z h0 u ku .byte (oI ds.length) (jC ds) (.int (0 : Int32))) (hbx : ∀ c ∈ ds, ¬ c < 0 ∧ ¬ (255 : Int32) < c) (hut : u ≠ t) (hfit : cs.length + ds.length ≤ N) (S0 : PS3 Z (.int z)) (hz : ¬ z = 0) (S4 : PS4 Z fm) (hfm : fm.isRef = true) (S_ad : PS0 Z (.int (1 : Int32))) (S_hi : PS1 Z (.int (0 : Int32))) (S_lo : PS2 Z (.int (8 : Int32))) :
    Ctr l Z (⟨"java/lang/AbstractStringBuilder", "putStringAt", "(ILjava/lang/String;)V"⟩ : MethodName) jdk_68_method_73_code 3 ((Option.none : Option Jvm.ClassFile.FieldType)) ws (⟨6, 0, 0, 91⟩ : Room) #[(.ref b), (.int (oI cs.length)), (.ref x)] h0 (fun v h L => ∃ us : List Value, v = none ∧ Fr n0 L ∧ Keep h0 h [t] ∧ Arv Z h t kb .byte (oI (jk cd N)) us (.int (0 : Int32)) ∧ Enc cd us (cs ++ ds)) := by
  refine Ctr.go (plainFor_of_name pn_98) fun p e s m below meth c s₁ Bd hx hby hml hZ hown hnm X0 e0 => ?_
  have N0 := Fr.nil n0
  have K0 := Keep.refl h0 [t]
  refine gs (S' := s₁.setTop (mkF m 0 #[rv b, iv (oI cs.length), rv x] [])) (fun tg kg => castTop (ef_552 m b (oI cs.length) x) kg) ?_
  rcases id hE with ⟨rfl, rfl, hbd⟩ | ⟨rfl, rfl, hbd⟩
  · obtain ⟨E_b, F_v, F_c, F_n, F_m, E_t, V_t⟩ := id B0
    have V1 := V_t
    rw [jy] at V1
    refine gs (fun _ k => ja X0 hx hby d35_0 rfl rfl (ja X0 hx hby d35_1 rfl rfl k)) ?_
    refine cV (rest := []) X0 hx hZ hown (ow hw 145 rfl) (jH (ow hw 146 rfl) (ow hw 149 rfl)) (nfs hZ (ow hw 148 rfl)) (ow hw 148 rfl) (ow hw 146 rfl) (ow hw 65 rfl) (ow hw 149 rfl) (rm_inn0 l Z a0 hw [] b x z h0 n0 Z0 O0 E_b F_c E_x F_cx S0 hz) hby d35_2 e0 pd_557 0 (by rw [hml]; rfl) E_b rfl rfl rfl rfl (by decide) (by decide) fun _ T1 Lc1 X1 hQ1 => ?_
    obtain ⟨rfl, N1q, e1q⟩ := hQ1
    have N1 := Fr.app N0 N1q
    refine gs (fun _ k => ja X1 hx hby d35_5 rfl rfl (ja X1 hx hby d35_6 rfl rfl k)) ?_
    refine gF X1 hx hZ hown (host := "") (Or.inl (ow hw 69 rfl)) Via.refl e1q F_v hby d35_7 fun T2 X2 e2 => ?_
    refine gs (fun _ k => jb X2 hx hby d35_10 rfl (ja X2 hx hby d35_11 rfl rfl k)) ?_
    refine gF X2 hx hZ hown (host := "") (Or.inl (ow hw 71 rfl)) Via.refl e2 F_c hby d35_12 fun T3 X3 e3 => ?_
    refine cV (rest := []) X3 hx hZ hown (ow hw 151 rfl) (ow hw 152 rfl) (nfs hZ (ow hw 154 rfl)) (ow hw 154 rfl) (ow hw 153 rfl) (ow hw 6 rfl) (ow hw 155 rfl) (rm_gb0 l Z a0 hw [] x u ku ds t kb cs N z h0 n0 Z0 O0 E_x F_cx F_vx V_u hbx V1 g_t hfit (by omega) S0 hz) hby d35_15 e3 pd_565 0 (by rw [hml]; rfl) E_x rfl rfl rfl rfl (by decide) (by decide) fun _ T4 Lc4 X4 hQ4 => ?_
    obtain ⟨rfl, N4q, K4q, V4q⟩ := hQ4
    have N4 := Fr.app N1 N4q
    have Z5 := nt Z0 K4q.1
    have O5 := O0.keep K4q (allS g_t all0)
    have K5 := K0.trans K4q (allS (Or.inl (List.mem_of_getElem? (i := 0) rfl)) all0)
    refine gout (v := none) X4 Bd.notSynchronized (fun _ => rfl) (by decide) (by decide) ?_ (fun fs hr => X4.returnOut hx Bd.returns (hb hby d35_18) hr)
    exact ⟨_, rfl, N4, K5, by rw [jy]; exact V4q, Or.inl ⟨rfl, rfl, own_two hbd hbx⟩⟩
  · obtain ⟨E_b, F_v, F_c, F_n, F_m, E_t, V_t⟩ := id B0
    have V1 := V_t
    rw [jA] at V1
    refine gs (fun _ k => ja X0 hx hby d35_0 rfl rfl (ja X0 hx hby d35_1 rfl rfl k)) ?_
    refine cV (rest := []) X0 hx hZ hown (ow hw 145 rfl) (jH (ow hw 146 rfl) (ow hw 149 rfl)) (nfs hZ (ow hw 148 rfl)) (ow hw 148 rfl) (ow hw 146 rfl) (ow hw 65 rfl) (ow hw 149 rfl) (rm_inn1 l Z a0 hw [] b x z h0 n0 Z0 O0 E_b F_c E_x F_cx S0 hz) hby d35_2 e0 pd_557 0 (by rw [hml]; rfl) E_b rfl rfl rfl rfl (by decide) (by decide) fun _ T6 Lc6 X6 hQ6 => ?_
    obtain ⟨rfl, N6q, e6q⟩ := hQ6
    have N6 := Fr.app N0 N6q
    refine gs (fun _ k => ja X6 hx hby d35_5 rfl rfl (ja X6 hx hby d35_6 rfl rfl k)) ?_
    refine gF X6 hx hZ hown (host := "") (Or.inl (ow hw 69 rfl)) Via.refl e6q F_v hby d35_7 fun T7 X7 e7 => ?_
    refine gs (fun _ k => jb X7 hx hby d35_10 rfl (ja X7 hx hby d35_11 rfl rfl k)) ?_
    refine gF X7 hx hZ hown (host := "") (Or.inl (ow hw 71 rfl)) Via.refl e7 F_c hby d35_12 fun T8 X8 e8 => ?_
    refine cV (rest := []) X8 hx hZ hown (ow hw 151 rfl) (ow hw 152 rfl) (nfs hZ (ow hw 154 rfl)) (ow hw 154 rfl) (ow hw 153 rfl) (ow hw 6 rfl) (ow hw 155 rfl) (rm_gb1 l Z a0 hw [] x u ku ds t kb cs N z fm h0 n0 Z0 O0 E_x F_cx F_vx V_u hbx V1 g_t hut hfit (by omega) S0 hz S4 hfm S_ad S_hi S_lo) hby d35_15 e8 pd_565 0 (by rw [hml]; rfl) E_x rfl rfl rfl rfl (by decide) (by decide) fun _ T9 Lc9 X9 hQ9 => ?_
    obtain ⟨rfl, N9q, K9q, V9q⟩ := hQ9
    have N9 := Fr.app N6 N9q
    have Z10 := nt Z0 K9q.1
    have O10 := O0.keep K9q (allS g_t all0)
    have K10 := K0.trans K9q (allS (Or.inl (List.mem_of_getElem? (i := 0) rfl)) all0)
    refine gout (v := none) X9 Bd.notSynchronized (fun _ => rfl) (by decide) (by decide) ?_ (fun fs hr => X9.returnOut hx Bd.returns (hb hby d35_18) hr)
    exact ⟨_, rfl, N9, K10, by rw [jA]; exact V9q, Or.inr ⟨rfl, rfl, own_two hbd (fun c hc => own_up1 (hbx c hc))⟩⟩
theorem ef_567 (m : MethodId) (x0 : Addr) (x1 : Addr) : entryFrame m #[(.ref x0), (.ref x1)] 3 = mkF m 0 #[.val (.ref x0), .val (.ref x1), .unset] [] := by first | (simp [entryFrame, mkF, argsToLocals, Value.category]; done) | rfl
abbrev oc36 := jdk_68_method_22_code
theorem d36_0 : decode oc36 0 = .ok (.aload_n 1, 1) := by decide +kernel
theorem d36_1 : decode oc36 1 = .ok (.ifnonnull 8, 3) := by decide +kernel
theorem d36_9 : decode oc36 9 = .ok (.aload_n 1, 1) := by decide +kernel
theorem d36_10 : decode oc36 10 = .ok (.invokevirtual 32, 3) := by decide +kernel
theorem pd_573 : parseMethodDescriptor "()I" = some ⟨[], some .int⟩ := by decide +kernel
theorem d36_13 : decode oc36 13 = .ok (.istore_n 2, 1) := by decide +kernel
theorem d36_14 : decode oc36 14 = .ok (.aload_n 0, 1) := by decide +kernel
theorem d36_15 : decode oc36 15 = .ok (.aload_n 0, 1) := by decide +kernel
theorem d36_16 : decode oc36 16 = .ok (.getfield 79, 3) := by decide +kernel
theorem d36_19 : decode oc36 19 = .ok (.iload_n 2, 1) := by decide +kernel
theorem d36_20 : decode oc36 20 = .ok (.iadd, 1) := by decide +kernel
theorem d36_21 : decode oc36 21 = .ok (.invokevirtual 100, 3) := by decide +kernel
theorem d36_24 : decode oc36 24 = .ok (.aload_n 0, 1) := by decide +kernel
theorem d36_25 : decode oc36 25 = .ok (.aload_n 0, 1) := by decide +kernel
theorem d36_26 : decode oc36 26 = .ok (.getfield 79, 3) := by decide +kernel
theorem d36_29 : decode oc36 29 = .ok (.aload_n 1, 1) := by decide +kernel
theorem d36_30 : decode oc36 30 = .ok (.invokevirtual 208, 3) := by decide +kernel
theorem pd_586 : parseMethodDescriptor "(ILjava/lang/String;)V" = some ⟨[.int, (.object "java/lang/String")], none⟩ := by decide +kernel
theorem d36_33 : decode oc36 33 = .ok (.aload_n 0, 1) := by decide +kernel
theorem d36_34 : decode oc36 34 = .ok (.dup, 1) := by decide +kernel
theorem d36_35 : decode oc36 35 = .ok (.getfield 79, 3) := by decide +kernel
theorem d36_38 : decode oc36 38 = .ok (.iload_n 2, 1) := by decide +kernel
theorem d36_39 : decode oc36 39 = .ok (.iadd, 1) := by decide +kernel
theorem d36_40 : decode oc36 40 = .ok (.putfield 79, 3) := by decide +kernel
theorem d36_43 : decode oc36 43 = .ok (.aload_n 0, 1) := by decide +kernel
theorem d36_44 : decode oc36 44 = .ok (.areturn, 1) := by decide +kernel
theorem rm_aa (l : Launch) (Z : State) (a0 : Array Value) (hw : HW Z a0) (ws : List Jvm.Cond) (b : Addr) (t : Addr) (cs : List Int32) (x : Addr) (u : Addr) (ku : ClassId) (ds : List Int32) (z : Int32) (fm : Value) (h0 : Heap) (n0 : Nat) (Z0 : n0 ≤ h0.size) (O0 : Old Z n0 h0) (B0 : BG Z h0 b t cs) (g_b : n0 ≤ b) (g_t : n0 ≤ t) (E_x : Exa Z h0 x "java/lang/String") (F_cx : Fld Z h0 x "java/lang/String" "coder" "B" (.int (0 : Int32))) (F_vx : Fld Z h0 x "java/lang/String" "value" "[B" (.ref u)) (V_u : Arv Z h0 u ku .byte (oI ds.length) (jC ds) (.int (0 : Int32))) (hbx : ∀ c ∈ ds, ¬ c < 0 ∧ ¬ (255 : Int32) < c) (hut : u ≠ t) (hKb : cs.length + ds.length ≤ 18) (S0 : PS3 Z (.int z)) (hz : ¬ z = 0) (S4 : PS4 Z fm) (hfm : fm.isRef = true) (S_ad : PS0 Z (.int (1 : Int32))) (S_hi : PS1 Z (.int (0 : Int32))) (S_lo : PS2 Z (.int (8 : Int32))) :
    Ctr l Z (⟨"java/lang/AbstractStringBuilder", "append", "(Ljava/lang/String;)Ljava/lang/AbstractStringBuilder;"⟩ : MethodName) jdk_68_method_22_code 3 ((Option.some (Jvm.ClassFile.FieldType.object "java/lang/AbstractStringBuilder"))) ws (⟨7, 1, 200, 105⟩ : Room) #[(.ref b), (.ref x)] h0 (fun v h L => ∃ t1 : Addr, v = some (.ref b) ∧ Fr n0 L ∧ Keep h0 h [b, t] ∧ (t1 = t ∨ h0.size ≤ t1) ∧ BG Z h b t1 (cs ++ ds)) := by
  refine Ctr.go (plainFor_of_name pn_98) fun p e s m below meth c s₁ Bd hx hby hml hZ hown hnm X0 e0 => ?_
  have N0 := Fr.nil n0
  have K0 := Keep.refl h0 [b, t]
  refine gs (S' := s₁.setTop (mkF m 0 #[rv b, rv x, uu] [])) (fun tg kg => castTop (ef_567 m b x) kg) ?_
  obtain ⟨kb, N, cd, vs, hN, hcN, B1, hE⟩ := id B0
  have hvl := hE.len
  have hle := own_scle (cd := cd) hcN
  have hbu := jL (cd := cd) N
  obtain ⟨E_b, F_v, F_c, F_n, F_m, E_t, V_t⟩ := id B1
  have T_x : SG Z h0 x ds := ⟨u, ku, 0, _, E_x, F_cx, F_vx, by rw [jy]; exact V_u, Or.inl ⟨rfl, rfl, hbx⟩⟩
  refine gs (fun _ k => ja X0 hx hby d36_0 rfl rfl (o_ifnonnullYes (pc' := 9) X0 hx hby d36_1 (ja X0 hx hby d36_9 rfl rfl k))) ?_
  refine cV (rest := []) X0 hx hZ hown (ow hw 106 rfl) (ow hw 49 rfl) (nfs hZ (ow hw 51 rfl)) (ow hw 51 rfl) (ow hw 50 rfl) (ow hw 6 rfl) (ow hw 52 rfl) (rm_len l Z a0 hw [] x ds z h0 n0 Z0 O0 T_x (by omega) S0 hz) hby d36_10 e0 pd_573 0 (by rw [hml]; rfl) E_x rfl rfl rfl rfl (by decide) (by decide) fun _ T1 Lc1 X1 hQ1 => ?_
  obtain ⟨rfl, N1q, e1q⟩ := hQ1
  have N1 := Fr.app N0 N1q
  refine gs (fun _ k => jF X1 hx hby d36_13 rfl (ja X1 hx hby d36_14 rfl rfl (ja X1 hx hby d36_15 rfl rfl k))) ?_
  refine gF X1 hx hZ hown (host := "") (Or.inl (ow hw 107 rfl)) Via.refl e1q F_n hby d36_16 fun T2 X2 e2 => ?_
  refine gs (fun _ k => jb X2 hx hby d36_19 rfl (jI X2 hx hby d36_20 k)) ?_
  show OwnGo p e below s _ _ _ (T2.setTop (mkF m 21 #[rv b, rv x, iv (oI ds.length)] [(.int ((oI cs.length) + (oI ds.length))), (.ref b)]))
  rw [own_add32 cs.length ds.length]
  by_cases hc3 : (cs.length + ds.length) ≤ N
  · refine cV (rest := []) X2 hx hZ hown (ow hw 109 rfl) (jH (ow hw 110 rfl) (ow hw 113 rfl)) (nfs hZ (ow hw 112 rfl)) (ow hw 112 rfl) (ow hw 110 rfl) (ow hw 65 rfl) (ow hw 113 rfl) (rm_enR l Z a0 hw [] b t kb vs cd (oI cs.length) N (cs.length + ds.length) h0 n0 Z0 O0 ⟨E_b, F_v, F_c, F_n, F_m, E_t, V_t⟩ hE.cdq hN hKb hc3) hby d36_21 e2 pd_391 0 (by rw [hml]; rfl) E_b rfl rfl rfl rfl (by decide) (by decide) fun _ T4 Lc4 X4 hQ4 => ?_
    obtain ⟨rfl, N4q, e4q⟩ := hQ4
    have N4 := Fr.app N1 N4q
    refine gs (fun _ k => ja X4 hx hby d36_24 rfl rfl (ja X4 hx hby d36_25 rfl rfl k)) ?_
    refine gF X4 hx hZ hown (host := "") (Or.inl (ow hw 107 rfl)) Via.refl e4q F_n hby d36_26 fun T5 X5 e5 => ?_
    refine gs (fun _ k => ja X5 hx hby d36_29 rfl rfl k) ?_
    refine cV (rest := []) X5 hx hZ hown (ow hw 140 rfl) (jH (ow hw 141 rfl) (ow hw 144 rfl)) (nfs hZ (ow hw 143 rfl)) (ow hw 143 rfl) (ow hw 141 rfl) (ow hw 65 rfl) (ow hw 144 rfl) (rm_pa l Z a0 hw [] b t kb vs cd (oI cs.length) N cs x u ku ds z fm h0 n0 Z0 O0 ⟨E_b, F_v, F_c, F_n, F_m, E_t, V_t⟩ hE hN g_t E_x F_cx F_vx V_u hbx hut hc3 S0 hz S4 hfm S_ad S_hi S_lo) hby d36_30 e5 pd_586 0 (by rw [hml]; rfl) E_b rfl rfl rfl rfl (by decide) (by decide) fun _ T6 Lc6 X6 hQ6 => ?_
    obtain ⟨us6, rfl, N6q, K6q, V6q, E6c⟩ := hQ6
    have N6 := Fr.app N4 N6q
    have Z7 := nt Z0 K6q.1
    have O7 := O0.keep K6q (allS g_t all0)
    have K7 := K0.trans K6q (allS (Or.inl (List.mem_of_getElem? (i := 1) rfl)) all0)
    refine gs (fun _ k => ja X6 hx hby d36_33 rfl rfl (jP X6 hx hby d36_34 rfl k)) ?_
    have f8 := (F_n.keep K6q (ninS (Exa.ne E_b E_t (by decide)) nin0))
    refine gF X6 hx hZ hown (host := "") (Or.inl (ow hw 107 rfl)) Via.refl rfl f8 hby d36_35 fun T9 X9 e9 => ?_
    refine gs (fun _ k => jb X9 hx hby d36_38 rfl (jI X9 hx hby d36_39 k)) ?_
    have f10 := (E_b.keep K6q)
    obtain ⟨T11, h11, X11, e11, W11, st11⟩ := putF X9 hx hZ hown (host := "") (Or.inl (ow hw 107 rfl)) Via.refl e9 f8 f10 (Or.inl (ow hw 108 rfl)) (ow hw 46 rfl) (ty := .int) (by decide) rfl rfl (g := (mkF m 40 #[rv b, rv x, iv (oI ds.length)] [(.int ((oI cs.length) + (oI ds.length))), (.ref b)])) rfl rfl (hb hby d36_40)
    have N11 := Fr.snoc X11 N6 g_b
    have Fw11 := f8.same W11
    have Z12 := nt Z7 (Keep.of_wr W11).1
    have O12 := O7.wr W11 g_b
    have K12 := K7.wr W11 (Or.inl (List.mem_of_getElem? (i := 0) rfl))
    refine gs (S' := T11.setTop (mkF m 43 #[rv b, rv x, iv (oI ds.length)] [])) st11 ?_
    refine gs (fun _ k => ja X11 hx hby d36_43 rfl rfl k) ?_
    have Fn := Fw11
    rw [own_lenapp] at Fn
    have f13 := (f10.wr W11)
    have f14 := ((F_v.keep K6q (ninS (Exa.ne E_b E_t (by decide)) nin0)).other W11 (Or.inr (slot_ne (Or.inl (ow hw 70 rfl)) (Or.inl (ow hw 108 rfl)) (by decide) (t := (.array .byte)) (t' := .int) (by decide) (by decide))))
    have f15 := ((F_c.keep K6q (ninS (Exa.ne E_b E_t (by decide)) nin0)).other W11 (Or.inr (slot_ne (Or.inl (ow hw 72 rfl)) (Or.inl (ow hw 108 rfl)) (by decide) (t := .byte) (t' := .int) (by decide) (by decide))))
    have f16 := ((F_m.keep K6q (ninS (Exa.ne E_b E_t (by decide)) nin0)).other W11 (Or.inr (slot_ne (Or.inl (ow hw 301 rfl)) (Or.inl (ow hw 108 rfl)) (by decide) (t := .boolean) (t' := .int) (by decide) (by decide))))
    have f17 := ((E_t.keep K6q).wr W11)
    have f18 := (V6q.other W11 (Ne.symm (Exa.ne E_b E_t (by decide))))
    refine gout (v := some (.ref b)) X11 Bd.notSynchronized (fun h => by rw [Bd.returns] at h; cases h) (by decide) (by decide) ?_ (fun fs hr => retOut X11 hx Bd.returns rfl (Or.inr (Or.inr (Or.inr (Or.inr ⟨rfl, rfl, rfl⟩)))) (hb hby d36_44) hr)
    rw [e11]
    exact ⟨_, rfl, N11, K12, Or.inl rfl, kb, N, cd, _, hN, (by rw [List.length_append]; exact hc3), ⟨f13, f14, f15, Fn, f16, f17, f18⟩, E6c⟩
  · have gb := own_gr36 hKb hc3
    refine cV (rest := []) X2 hx hZ hown (ow hw 109 rfl) (jH (ow hw 110 rfl) (ow hw 113 rfl)) (nfs hZ (ow hw 112 rfl)) (ow hw 112 rfl) (ow hw 110 rfl) (ow hw 65 rfl) (ow hw 113 rfl) (rm_enG l Z a0 hw [] b t kb vs cd (oI cs.length) N (cs.length + ds.length) h0 n0 Z0 O0 ⟨E_b, F_v, F_c, F_n, F_m, E_t, V_t⟩ hE.cdq hN hKb hc3 g_b (hvl ▸ hle)) hby d36_21 e2 pd_391 0 (by rw [hml]; rfl) E_b rfl rfl rfl rfl (by decide) (by decide) fun _ T19 Lc19 X19 hQ19 => ?_
    obtain ⟨t19, kb19, rfl, N19q, K19q, g19t, B19q⟩ := hQ19
    have N19 := Fr.app N1 N19q
    have g_t19 : n0 ≤ t19 := nt Z0 g19t
    have sz_t19 : h0.size ≤ t19 := nt K0.1 g19t
    have Z20 := nt Z0 K19q.1
    have O20 := O0.keep K19q (allS g_b all0)
    have K20 := K0.trans K19q (allS (Or.inl (List.mem_of_getElem? (i := 0) rfl)) all0)
    obtain ⟨E19b, F19v, F19c, F19n, F19m, E19t, V19q⟩ := B19q
    refine gs (fun _ k => ja X19 hx hby d36_24 rfl rfl (ja X19 hx hby d36_25 rfl rfl k)) ?_
    refine gF X19 hx hZ hown (host := "") (Or.inl (ow hw 107 rfl)) Via.refl rfl F19n hby d36_26 fun T21 X21 e21 => ?_
    refine gs (fun _ k => ja X21 hx hby d36_29 rfl rfl k) ?_
    have f22 := (E_x.keep K19q)
    have f23 := (F_cx.keep K19q (ninS (Exa.ne E_x E_b (by decide)) nin0))
    have f24 := (F_vx.keep K19q (ninS (Exa.ne E_x E_b (by decide)) nin0))
    have f25 := (V_u.keep K19q (ninS (Ne.symm (Exa.neArv E_b V_u (ow hw 46 rfl))) nin0))
    refine cV (rest := []) X21 hx hZ hown (ow hw 140 rfl) (jH (ow hw 141 rfl) (ow hw 144 rfl)) (nfs hZ (ow hw 143 rfl)) (ow hw 143 rfl) (ow hw 141 rfl) (ow hw 65 rfl) (ow hw 144 rfl) (rm_pa l Z a0 hw [] b t19 kb19 vs cd (oI cs.length) (jz N (cs.length + ds.length)) cs x u ku ds z fm T19.heap n0 Z20 O20 ⟨E19b, F19v, F19c, F19n, F19m, E19t, V19q⟩ hE gb.1 g_t19 f22 f23 f24 f25 hbx (nw (nu (nu V_u.lt (Nat.le_refl _)) g19t)) gb.2.1 S0 hz S4 hfm S_ad S_hi S_lo) hby d36_30 e21 pd_586 0 (by rw [hml]; rfl) E19b rfl rfl rfl rfl (by decide) (by decide) fun _ T26 Lc26 X26 hQ26 => ?_
    obtain ⟨us26, rfl, N26q, K26q, V26q, E26c⟩ := hQ26
    have N26 := Fr.app N19 N26q
    have Z27 := nt Z20 K26q.1
    have O27 := O20.keep K26q (allS g_t19 all0)
    have K27 := K20.trans K26q (allS (Or.inr sz_t19) all0)
    refine gs (fun _ k => ja X26 hx hby d36_33 rfl rfl (jP X26 hx hby d36_34 rfl k)) ?_
    have f28 := (F19n.keep K26q (ninS (nw (nu (nu E_b.lt (Nat.le_refl _)) g19t)) nin0))
    refine gF X26 hx hZ hown (host := "") (Or.inl (ow hw 107 rfl)) Via.refl rfl f28 hby d36_35 fun T29 X29 e29 => ?_
    refine gs (fun _ k => jb X29 hx hby d36_38 rfl (jI X29 hx hby d36_39 k)) ?_
    have f30 := (E19b.keep K26q)
    obtain ⟨T31, h31, X31, e31, W31, st31⟩ := putF X29 hx hZ hown (host := "") (Or.inl (ow hw 107 rfl)) Via.refl e29 f28 f30 (Or.inl (ow hw 108 rfl)) (ow hw 46 rfl) (ty := .int) (by decide) rfl rfl (g := (mkF m 40 #[rv b, rv x, iv (oI ds.length)] [(.int ((oI cs.length) + (oI ds.length))), (.ref b)])) rfl rfl (hb hby d36_40)
    have N31 := Fr.snoc X31 N26 g_b
    have Fw31 := f28.same W31
    have Z32 := nt Z27 (Keep.of_wr W31).1
    have O32 := O27.wr W31 g_b
    have K32 := K27.wr W31 (Or.inl (List.mem_of_getElem? (i := 0) rfl))
    refine gs (S' := T31.setTop (mkF m 43 #[rv b, rv x, iv (oI ds.length)] [])) st31 ?_
    refine gs (fun _ k => ja X31 hx hby d36_43 rfl rfl k) ?_
    have Fn := Fw31
    rw [own_lenapp] at Fn
    have f33 := (f30.wr W31)
    have f34 := ((F19v.keep K26q (ninS (nw (nu (nu E_b.lt (Nat.le_refl _)) g19t)) nin0)).other W31 (Or.inr (slot_ne (Or.inl (ow hw 70 rfl)) (Or.inl (ow hw 108 rfl)) (by decide) (t := (.array .byte)) (t' := .int) (by decide) (by decide))))
    have f35 := ((F19c.keep K26q (ninS (nw (nu (nu E_b.lt (Nat.le_refl _)) g19t)) nin0)).other W31 (Or.inr (slot_ne (Or.inl (ow hw 72 rfl)) (Or.inl (ow hw 108 rfl)) (by decide) (t := .byte) (t' := .int) (by decide) (by decide))))
    have f36 := ((F19m.keep K26q (ninS (nw (nu (nu E_b.lt (Nat.le_refl _)) g19t)) nin0)).other W31 (Or.inr (slot_ne (Or.inl (ow hw 301 rfl)) (Or.inl (ow hw 108 rfl)) (by decide) (t := .boolean) (t' := .int) (by decide) (by decide))))
    have f37 := ((E19t.keep K26q).wr W31)
    have f38 := (V26q.other W31 (Ne.symm (nw (nu (nu E_b.lt (Nat.le_refl _)) g19t))))
    refine gout (v := some (.ref b)) X31 Bd.notSynchronized (fun h => by rw [Bd.returns] at h; cases h) (by decide) (by decide) ?_ (fun fs hr => retOut X31 hx Bd.returns rfl (Or.inr (Or.inr (Or.inr (Or.inr ⟨rfl, rfl, rfl⟩)))) (hb hby d36_44) hr)
    rw [e31]
    exact ⟨_, rfl, N31, K32, Or.inr sz_t19, kb19, (jz N (cs.length + ds.length)), cd, _, gb.1, (by rw [List.length_append]; exact gb.2.1), ⟨f33, f34, f35, Fn, f36, f37, f38⟩, E26c⟩
abbrev oc37 := jdk_67_method_7_code
theorem d37_0 : decode oc37 0 = .ok (.aload_n 0, 1) := by decide +kernel
theorem d37_1 : decode oc37 1 = .ok (.aload_n 1, 1) := by decide +kernel
theorem d37_2 : decode oc37 2 = .ok (.invokespecial 29, 3) := by decide +kernel
theorem pd_600 : parseMethodDescriptor "(Ljava/lang/String;)Ljava/lang/AbstractStringBuilder;" = some ⟨[(.object "java/lang/String")], some (.object "java/lang/AbstractStringBuilder")⟩ := by decide +kernel
theorem d37_5 : decode oc37 5 = .ok (.pop, 1) := by decide +kernel
theorem d37_6 : decode oc37 6 = .ok (.aload_n 0, 1) := by decide +kernel
theorem d37_7 : decode oc37 7 = .ok (.areturn, 1) := by decide +kernel
theorem rm_sa (l : Launch) (Z : State) (a0 : Array Value) (hw : HW Z a0) (ws : List Jvm.Cond) (b : Addr) (t : Addr) (cs : List Int32) (x : Addr) (u : Addr) (ku : ClassId) (ds : List Int32) (z : Int32) (fm : Value) (h0 : Heap) (n0 : Nat) (Z0 : n0 ≤ h0.size) (O0 : Old Z n0 h0) (B0 : BG Z h0 b t cs) (g_b : n0 ≤ b) (g_t : n0 ≤ t) (E_x : Exa Z h0 x "java/lang/String") (F_cx : Fld Z h0 x "java/lang/String" "coder" "B" (.int (0 : Int32))) (F_vx : Fld Z h0 x "java/lang/String" "value" "[B" (.ref u)) (V_u : Arv Z h0 u ku .byte (oI ds.length) (jC ds) (.int (0 : Int32))) (hbx : ∀ c ∈ ds, ¬ c < 0 ∧ ¬ (255 : Int32) < c) (hut : u ≠ t) (hKb : cs.length + ds.length ≤ 18) (S0 : PS3 Z (.int z)) (hz : ¬ z = 0) (S4 : PS4 Z fm) (hfm : fm.isRef = true) (S_ad : PS0 Z (.int (1 : Int32))) (S_hi : PS1 Z (.int (0 : Int32))) (S_lo : PS2 Z (.int (8 : Int32))) :
    Ctr l Z (⟨"java/lang/StringBuilder", "append", "(Ljava/lang/String;)Ljava/lang/StringBuilder;"⟩ : MethodName) jdk_67_method_7_code 2 ((Option.some (Jvm.ClassFile.FieldType.object "java/lang/StringBuilder"))) ws (⟨8, 1, 200, 119⟩ : Room) #[(.ref b), (.ref x)] h0 (fun v h L => ∃ t1 : Addr, v = some (.ref b) ∧ Fr n0 L ∧ Keep h0 h [b, t] ∧ (t1 = t ∨ h0.size ≤ t1) ∧ BG Z h b t1 (cs ++ ds)) := by
  refine Ctr.go (plainFor_of_name pn_440) fun p e s m below meth c s₁ Bd hx hby hml hZ hown hnm X0 e0 => ?_
  have N0 := Fr.nil n0
  have K0 := Keep.refl h0 [b, t]
  refine gs (S' := s₁.setTop (mkF m 0 #[rv b, rv x] [])) (fun tg kg => castTop (ef_16 m b x) kg) ?_
  have E_b := B0.exa
  refine gs (fun _ k => ja X0 hx hby d37_0 rfl rfl (ja X0 hx hby d37_1 rfl rfl k)) ?_
  refine cP (rest := []) X0 hx hZ hown (ow hw 101 rfl) (own_same (ow hw 112 rfl) (ow hw 102 rfl) (by decide) rfl) (ow hw 102 rfl) (ow hw 103 rfl) (ow hw 65 rfl) (ow hw 105 rfl) (rm_aa l Z a0 hw [] b t cs x u ku ds z fm h0 n0 Z0 O0 B0 g_b g_t E_x F_cx F_vx V_u hbx hut hKb S0 hz S4 hfm S_ad S_hi S_lo) hby d37_2 e0 pd_600 0 (by rw [hml]; rfl) E_b rfl rfl rfl rfl (by decide) (by decide) fun _ T1 Lc1 X1 hQ1 => ?_
  obtain ⟨t1, rfl, N1q, K1q, o1t, B1q⟩ := hQ1
  have N1 := Fr.app N0 N1q
  have Z2 := nt Z0 K1q.1
  have O2 := O0.keep K1q (allS g_b (allS g_t all0))
  have K2 := K0.trans K1q (allS (Or.inl (List.mem_of_getElem? (i := 0) rfl)) (allS (Or.inl (List.mem_of_getElem? (i := 1) rfl)) all0))
  refine gs (fun _ k => jR X1 hx hby d37_5 rfl (ja X1 hx hby d37_6 rfl rfl k)) ?_
  refine gout (v := some (.ref b)) X1 Bd.notSynchronized (fun h => by rw [Bd.returns] at h; cases h) (by decide) (by decide) ?_ (fun fs hr => retOut X1 hx Bd.returns rfl (Or.inr (Or.inr (Or.inr (Or.inr ⟨rfl, rfl, rfl⟩)))) (hb hby d37_7) hr)
  exact ⟨_, rfl, N1, K2, o1t, B1q⟩
abbrev oc38 := jdk_68_method_2_code
theorem d38_0 : decode oc38 0 = .ok (.aload_n 0, 1) := by decide +kernel
theorem d38_1 : decode oc38 1 = .ok (.invokespecial 3, 3) := by decide +kernel
theorem d38_4 : decode oc38 4 = .ok (.getstatic 18, 3) := by decide +kernel
theorem d38_7 : decode oc38 7 = .ok (.ifCond .eq 18, 3) := by decide +kernel
theorem d38_10 : decode oc38 10 = .ok (.aload_n 0, 1) := by decide +kernel
theorem d38_11 : decode oc38 11 = .ok (.iload_n 1, 1) := by decide +kernel
theorem d38_12 : decode oc38 12 = .ok (.newarray .byte, 2) := by decide +kernel
theorem d38_14 : decode oc38 14 = .ok (.putfield 15, 3) := by decide +kernel
theorem d38_17 : decode oc38 17 = .ok (.aload_n 0, 1) := by decide +kernel
theorem d38_18 : decode oc38 18 = .ok (.iconst 0, 1) := by decide +kernel
theorem d38_19 : decode oc38 19 = .ok (.putfield 22, 3) := by decide +kernel
theorem d38_22 : decode oc38 22 = .ok (.goto 16, 3) := by decide +kernel
theorem d38_38 : decode oc38 38 = .ok (.return_, 1) := by decide +kernel
theorem rm_asb (l : Launch) (Z : State) (a0 : Array Value) (hw : HW Z a0) (ws : List Jvm.Cond) (b : Addr) (n : Nat) (z : Int32) (h0 : Heap) (n0 : Nat) (Z0 : n0 ≤ h0.size) (O0 : Old Z n0 h0) (E_b : Exa Z h0 b "java/lang/StringBuilder") (F_v : Fld Z h0 b "java/lang/AbstractStringBuilder" "value" "[B" .null) (F_c : Fld Z h0 b "java/lang/AbstractStringBuilder" "coder" "B" (.int (0 : Int32))) (F_n : Fld Z h0 b "java/lang/AbstractStringBuilder" "count" "I" (.int (0 : Int32))) (F_m : Fld Z h0 b "java/lang/AbstractStringBuilder" "maybeLatin1" "Z" (.int (0 : Int32))) (g_b : n0 ≤ b) (hn : n ≤ 3) (S0 : PS3 Z (.int z)) (hz : ¬ z = 0) :
    Ctr l Z (⟨"java/lang/AbstractStringBuilder", "<init>", "(I)V"⟩ : MethodName) jdk_68_method_2_code 2 ((Option.none : Option Jvm.ClassFile.FieldType)) ws (⟨1, 1, 8, 12⟩ : Room) #[(.ref b), (.int (oI n))] h0 (fun v h L => ∃ t : Addr, v = none ∧ Fr n0 L ∧ Keep h0 h [b] ∧ h0.size ≤ t ∧ BG Z h b t []) := by
  refine Ctr.go (plainFor_of_name pn_98) fun p e s m below meth c s₁ Bd hx hby hml hZ hown hnm X0 e0 => ?_
  have N0 := Fr.nil n0
  have K0 := Keep.refl h0 [b]
  refine gs (S' := s₁.setTop (mkF m 0 #[rv b, iv (oI n)] [])) (fun tg kg => castTop (ef_196 m b (oI n)) kg) ?_
  refine gs (fun _ k => ja X0 hx hby d38_0 rfl rfl k) ?_
  obtain ⟨T1, X1, e1, st1⟩ := initO X0 hx hZ hown (ow hw 67 rfl) (ow hw 16 rfl) (ow hw 17 rfl) e0 (g := (mkF m 1 #[rv b, iv (oI n)] [(.ref b)])) rfl (by rw [hml]; rfl) rfl (hb hby d38_1) (by decide) (W := 0) (jK rfl) (by decide)
  refine gs (S' := T1.setTop (mkF m 4 #[rv b, iv (oI n)] [])) st1 ?_
  refine gS X1 hx hZ hown (host := "") (Or.inl (ow hw 68 rfl)) Via.refl e1 (S0.ext O0.2) hby d38_4 fun T2 X2 e2 => ?_
  refine gs (fun _ k => jn X2 hx hby d38_7 ((if0 _ _).trans (feq hz).1) (ja X2 hx hby d38_10 rfl rfl (jb X2 hx hby d38_11 rfl k))) ?_
  obtain ⟨T3, h3, k3, X3, e3, E3, A3, Ex3, st3⟩ := newPE X2 hx hZ (ow hw 23 rfl) e2 (g := (mkF m 12 #[rv b, iv (oI n)] [(.int (oI n)), (.ref b)])) rfl (hb hby d38_12) rfl (js (by omega)) (cap := 8) (own_nc (by omega) (by omega)) (by decide) (by decide) (by decide) (ad := "[B") rfl
  obtain ⟨b3, q3⟩ : ∃ z, z = h0.size := ⟨_, rfl⟩
  rw [← q3] at A3 st3 Ex3
  have g_b3 : n0 ≤ b3 := nt Z0 (Nat.le_of_eq q3.symm)
  have sz_b3 : h0.size ≤ b3 := nt K0.1 (Nat.le_of_eq q3.symm)
  have Z4 := nt Z0 E3.1
  have O4 := O0.ext E3
  have K4 := K0.ext E3
  have V3 : Arv Z h3 b3 k3 .byte (oI n) [] (.int (0 : Int32)) := Arv.new A3 (js (by omega))
  refine gs (S' := T3.setTop (mkF m 14 #[rv b, iv (oI n)] [(.ref b3), (.ref b)])) st3 ?_
  have f5 := (F_v.ext E3)
  have f6 := (E_b.ext E3)
  obtain ⟨T7, h7, X7, e7, W7, st7⟩ := putF X3 hx hZ hown (host := "") (Or.inl (ow hw 69 rfl)) Via.refl e3 f5 f6 (Or.inl (ow hw 70 rfl)) (ow hw 46 rfl) (ty := (.array .byte)) (by decide) rfl rfl (g := (mkF m 14 #[rv b, iv (oI n)] [(.ref b3), (.ref b)])) rfl rfl (hb hby d38_14)
  have N7 := Fr.snoc X7 N0 g_b
  have Fw7 := f5.same W7
  have Z8 := nt Z4 (Keep.of_wr W7).1
  have O8 := O4.wr W7 g_b
  have K8 := K4.wr W7 (Or.inl (List.mem_of_getElem? (i := 0) rfl))
  refine gs (S' := T7.setTop (mkF m 17 #[rv b, iv (oI n)] [])) st7 ?_
  refine gs (fun _ k => ja X7 hx hby d38_17 rfl rfl (je (v := (0 : Int32)) X7 hx hby d38_18 k)) ?_
  have f9 := ((F_c.ext E3).other W7 (Or.inr (slot_ne (Or.inl (ow hw 72 rfl)) (Or.inl (ow hw 70 rfl)) (by decide) (t := .byte) (t' := (.array .byte)) (by decide) (by decide))))
  have f10 := (f6.wr W7)
  obtain ⟨T11, h11, X11, e11, W11, st11⟩ := putFN X7 hx hZ hown (ow hw 71 rfl) Via.refl e7 f9 f10 (Or.inl (ow hw 72 rfl)) (ow hw 46 rfl) (ty := .byte) (v' := (.int (0 : Int32))) (by decide) rfl rfl (g := (mkF m 19 #[rv b, iv (oI n)] [(.int (0 : Int32)), (.ref b)])) rfl rfl (hb hby d38_19)
  have N11 := Fr.snoc X11 N7 g_b
  have Fw11 := f9.same W11
  have Z12 := nt Z8 (Keep.of_wr W11).1
  have O12 := O8.wr W11 g_b
  have K12 := K8.wr W11 (Or.inl (List.mem_of_getElem? (i := 0) rfl))
  refine gs (S' := T11.setTop (mkF m 22 #[rv b, iv (oI n)] [])) st11 ?_
  refine gs (fun _ k => jl (pc' := 38) X11 hx hby d38_22 k) ?_
  have f13 := (f10.wr W11)
  have f14 := (Fw7.other W11 (Or.inr (slot_ne (Or.inl (ow hw 70 rfl)) (Or.inl (ow hw 72 rfl)) (by decide) (t := (.array .byte)) (t' := .byte) (by decide) (by decide))))
  have f15 := (((F_n.ext E3).other W7 (Or.inr (slot_ne (Or.inl (ow hw 108 rfl)) (Or.inl (ow hw 70 rfl)) (by decide) (t := .int) (t' := (.array .byte)) (by decide) (by decide)))).other W11 (Or.inr (slot_ne (Or.inl (ow hw 108 rfl)) (Or.inl (ow hw 72 rfl)) (by decide) (t := .int) (t' := .byte) (by decide) (by decide))))
  have f16 := (((F_m.ext E3).other W7 (Or.inr (slot_ne (Or.inl (ow hw 301 rfl)) (Or.inl (ow hw 70 rfl)) (by decide) (t := .boolean) (t' := (.array .byte)) (by decide) (by decide)))).other W11 (Or.inr (slot_ne (Or.inl (ow hw 301 rfl)) (Or.inl (ow hw 72 rfl)) (by decide) (t := .boolean) (t' := .byte) (by decide) (by decide))))
  have f17 := ((Ex3.wr W7).wr W11)
  have f18 := ((V3.other W7 (Ne.symm (nw (nu (nu E_b.lt (Nat.le_refl _)) (Nat.le_of_eq q3.symm))))).other W11 (Ne.symm (nw (nu (nu E_b.lt (Nat.le_refl _)) (Nat.le_of_eq q3.symm)))))
  refine gout (v := none) X11 Bd.notSynchronized (fun _ => rfl) (by decide) (by decide) ?_ (fun fs hr => X11.returnOut hx Bd.returns (hb hby d38_38) hr)
  rw [e11]
  exact ⟨_, rfl, N11, K12, sz_b3, _, n, 0, _, by omega, Nat.zero_le _, ⟨f13, f14, Fw11, f15, f16, f17, by rw [jy]; exact f18⟩, Or.inl ⟨rfl, rfl, fun c hc => absurd hc (by simp)⟩⟩
abbrev oc39 := jdk_67_method_2_code
theorem d39_0 : decode oc39 0 = .ok (.aload_n 0, 1) := by decide +kernel
theorem d39_1 : decode oc39 1 = .ok (.iload_n 1, 1) := by decide +kernel
theorem d39_2 : decode oc39 2 = .ok (.invokespecial 1, 3) := by decide +kernel
theorem d39_5 : decode oc39 5 = .ok (.return_, 1) := by decide +kernel
theorem rm_sbi (l : Launch) (Z : State) (a0 : Array Value) (hw : HW Z a0) (ws : List Jvm.Cond) (b : Addr) (n : Nat) (z : Int32) (h0 : Heap) (n0 : Nat) (Z0 : n0 ≤ h0.size) (O0 : Old Z n0 h0) (E_b : Exa Z h0 b "java/lang/StringBuilder") (F_v : Fld Z h0 b "java/lang/AbstractStringBuilder" "value" "[B" .null) (F_c : Fld Z h0 b "java/lang/AbstractStringBuilder" "coder" "B" (.int (0 : Int32))) (F_n : Fld Z h0 b "java/lang/AbstractStringBuilder" "count" "I" (.int (0 : Int32))) (F_m : Fld Z h0 b "java/lang/AbstractStringBuilder" "maybeLatin1" "Z" (.int (0 : Int32))) (g_b : n0 ≤ b) (hn : n ≤ 3) (S0 : PS3 Z (.int z)) (hz : ¬ z = 0) :
    Ctr l Z (⟨"java/lang/StringBuilder", "<init>", "(I)V"⟩ : MethodName) jdk_67_method_2_code 2 ((Option.none : Option Jvm.ClassFile.FieldType)) ws (⟨2, 1, 8, 25⟩ : Room) #[(.ref b), (.int (oI n))] h0 (fun v h L => ∃ t : Addr, v = none ∧ Fr n0 L ∧ Keep h0 h [b] ∧ h0.size ≤ t ∧ BG Z h b t []) := by
  refine Ctr.go (plainFor_of_name pn_440) fun p e s m below meth c s₁ Bd hx hby hml hZ hown hnm X0 e0 => ?_
  have N0 := Fr.nil n0
  have K0 := Keep.refl h0 [b]
  refine gs (S' := s₁.setTop (mkF m 0 #[rv b, iv (oI n)] [])) (fun tg kg => castTop (ef_196 m b (oI n)) kg) ?_
  refine gs (fun _ k => ja X0 hx hby d39_0 rfl rfl (jb X0 hx hby d39_1 rfl k)) ?_
  refine cI (rest := []) X0 hx hZ hown rfl (ow hw 61 rfl) (ow hw 62 rfl) (ow hw 65 rfl) (ow hw 66 rfl) (rm_asb l Z a0 hw [] b n z h0 n0 Z0 O0 E_b F_v F_c F_n F_m g_b hn S0 hz) hby d39_2 e0 pd_391 0 (by rw [hml]; rfl) rfl rfl rfl rfl (by decide) (by decide) fun _ T1 Lc1 X1 hQ1 => ?_
  obtain ⟨t1, rfl, N1q, K1q, g1t, B1q⟩ := hQ1
  have N1 := Fr.app N0 N1q
  have g_t1 : n0 ≤ t1 := nt Z0 g1t
  have sz_t1 : h0.size ≤ t1 := nt K0.1 g1t
  have Z2 := nt Z0 K1q.1
  have O2 := O0.keep K1q (allS g_b all0)
  have K2 := K0.trans K1q (allS (Or.inl (List.mem_of_getElem? (i := 0) rfl)) all0)
  refine gout (v := none) X1 Bd.notSynchronized (fun _ => rfl) (by decide) (by decide) ?_ (fun fs hr => X1.returnOut hx Bd.returns (hb hby d39_5) hr)
  exact ⟨_, rfl, N1, K2, g1t, B1q⟩
abbrev oc40 := jdk_68_method_64_code
theorem d40_0 : decode oc40 0 = .ok (.aload_n 0, 1) := by decide +kernel
theorem d40_1 : decode oc40 1 = .ok (.getfield 15, 3) := by decide +kernel
theorem d40_4 : decode oc40 4 = .ok (.areturn, 1) := by decide +kernel
theorem rm_gv (l : Launch) (Z : State) (a0 : Array Value) (hw : HW Z a0) (ws : List Jvm.Cond) (b : Addr) (t : Addr) (h0 : Heap) (n0 : Nat) (Z0 : n0 ≤ h0.size) (O0 : Old Z n0 h0) (F_v : Fld Z h0 b "java/lang/AbstractStringBuilder" "value" "[B" (.ref t)) :
    Ctr l Z (⟨"java/lang/AbstractStringBuilder", "getValue", "()[B"⟩ : MethodName) jdk_68_method_64_code 1 ((Option.some (Jvm.ClassFile.FieldType.array Jvm.ClassFile.FieldType.byte))) ws (⟨0, 0, 0, 0⟩ : Room) #[(.ref b)] h0 (fun v h L => v = some (.ref t) ∧ Fr n0 L ∧ h = h0) := by
  refine Ctr.go (plainFor_of_name pn_98) fun p e s m below meth c s₁ Bd hx hby hml hZ hown hnm X0 e0 => ?_
  have N0 := Fr.nil n0
  have K0 := Keep.refl h0 []
  refine gs (S' := s₁.setTop (mkF m 0 #[rv b] [])) (fun tg kg => castTop (ef_148 m b) kg) ?_
  refine gs (fun _ k => ja X0 hx hby d40_0 rfl rfl k) ?_
  refine gF X0 hx hZ hown (host := "") (Or.inl (ow hw 69 rfl)) Via.refl e0 F_v hby d40_1 fun T1 X1 e1 => ?_
  refine gout (v := some (.ref t)) X1 Bd.notSynchronized (fun h => by rw [Bd.returns] at h; cases h) (by decide) (by decide) ?_ (fun fs hr => retOut X1 hx Bd.returns rfl (Or.inr (Or.inr (Or.inr (Or.inr ⟨rfl, rfl, rfl⟩)))) (hb hby d40_4) hr)
  rw [e1]
  exact ⟨rfl, N0, rfl⟩
abbrev oc41 := jdk_68_method_6_code
theorem d41_0 : decode oc41 0 = .ok (.aload_n 0, 1) := by decide +kernel
theorem d41_1 : decode oc41 1 = .ok (.getfield 79, 3) := by decide +kernel
theorem d41_4 : decode oc41 4 = .ok (.ireturn, 1) := by decide +kernel
theorem rm_al (l : Launch) (Z : State) (a0 : Array Value) (hw : HW Z a0) (ws : List Jvm.Cond) (b : Addr) (nv : Int32) (h0 : Heap) (n0 : Nat) (Z0 : n0 ≤ h0.size) (O0 : Old Z n0 h0) (E_b : Exa Z h0 b "java/lang/StringBuilder") (F_n : Fld Z h0 b "java/lang/AbstractStringBuilder" "count" "I" (.int nv)) :
    Ctr l Z (⟨"java/lang/AbstractStringBuilder", "length", "()I"⟩ : MethodName) jdk_68_method_6_code 1 ((Option.some Jvm.ClassFile.FieldType.int)) ws (⟨0, 0, 0, 0⟩ : Room) #[(.ref b)] h0 (fun v h L => v = some (.int nv) ∧ Fr n0 L ∧ h = h0) := by
  refine Ctr.go (plainFor_of_name pn_98) fun p e s m below meth c s₁ Bd hx hby hml hZ hown hnm X0 e0 => ?_
  have N0 := Fr.nil n0
  have K0 := Keep.refl h0 []
  refine gs (S' := s₁.setTop (mkF m 0 #[rv b] [])) (fun tg kg => castTop (ef_148 m b) kg) ?_
  refine gs (fun _ k => ja X0 hx hby d41_0 rfl rfl k) ?_
  refine gF X0 hx hZ hown (host := "") (Or.inl (ow hw 107 rfl)) Via.refl e0 F_n hby d41_1 fun T1 X1 e1 => ?_
  refine gout (v := some (.int nv)) X1 Bd.notSynchronized (fun h => by rw [Bd.returns] at h; cases h) (by decide) (by decide) ?_ (fun fs hr => retI X1 hx Bd.returns (hb hby d41_4) hr)
  rw [e1]
  exact ⟨rfl, N0, rfl⟩
abbrev oc42 := jdk_67_method_93_code
theorem d42_0 : decode oc42 0 = .ok (.aload_n 0, 1) := by decide +kernel
theorem d42_1 : decode oc42 1 = .ok (.invokespecial 343, 3) := by decide +kernel
theorem d42_4 : decode oc42 4 = .ok (.ireturn, 1) := by decide +kernel
theorem rm_sl (l : Launch) (Z : State) (a0 : Array Value) (hw : HW Z a0) (ws : List Jvm.Cond) (b : Addr) (nv : Int32) (h0 : Heap) (n0 : Nat) (Z0 : n0 ≤ h0.size) (O0 : Old Z n0 h0) (E_b : Exa Z h0 b "java/lang/StringBuilder") (F_n : Fld Z h0 b "java/lang/AbstractStringBuilder" "count" "I" (.int nv)) :
    Ctr l Z (⟨"java/lang/StringBuilder", "length", "()I"⟩ : MethodName) jdk_67_method_93_code 1 ((Option.some Jvm.ClassFile.FieldType.int)) ws (⟨1, 0, 0, 12⟩ : Room) #[(.ref b)] h0 (fun v h L => v = some (.int nv) ∧ Fr n0 L ∧ h = h0) := by
  refine Ctr.go (plainFor_of_name pn_440) fun p e s m below meth c s₁ Bd hx hby hml hZ hown hnm X0 e0 => ?_
  have N0 := Fr.nil n0
  have K0 := Keep.refl h0 []
  refine gs (S' := s₁.setTop (mkF m 0 #[rv b] [])) (fun tg kg => castTop (ef_148 m b) kg) ?_
  refine gs (fun _ k => ja X0 hx hby d42_0 rfl rfl k) ?_
  refine cP (rest := []) X0 hx hZ hown (ow hw 180 rfl) (own_same (ow hw 112 rfl) (ow hw 176 rfl) (by decide) rfl) (ow hw 176 rfl) (ow hw 103 rfl) (ow hw 65 rfl) (ow hw 181 rfl) (rm_al l Z a0 hw [] b nv h0 n0 Z0 O0 E_b F_n) hby d42_1 e0 pd_573 0 (by rw [hml]; rfl) E_b rfl rfl rfl rfl (by decide) (by decide) fun _ T1 Lc1 X1 hQ1 => ?_
  obtain ⟨rfl, N1q, e1q⟩ := hQ1
  have N1 := Fr.app N0 N1q
  refine gout (v := some (.int nv)) X1 Bd.notSynchronized (fun h => by rw [Bd.returns] at h; cases h) (by decide) (by decide) ?_ (fun fs hr => retI X1 hx Bd.returns (hb hby d42_4) hr)
  rw [e1q]
  exact ⟨rfl, N1, rfl⟩
abbrev oc43 := jdk_65_method_131_code
theorem d43_0 : decode oc43 0 = .ok (.iload_n 1, 1) := by decide +kernel
theorem d43_1 : decode oc43 1 = .ok (.iload_n 0, 1) := by decide +kernel
theorem d43_2 : decode oc43 2 = .ok (.if_icmp .ge 35, 3) := by decide +kernel
theorem d43_37 : decode oc43 37 = .ok (.return_, 1) := by decide +kernel
theorem rm_cl (l : Launch) (Z : State) (a0 : Array Value) (hw : HW Z a0) (ws : List Jvm.Cond) (E : Nat) (h0 : Heap) (n0 : Nat) (Z0 : n0 ≤ h0.size) (O0 : Old Z n0 h0) (hE : E ≤ 200) :
    Ctr l Z (⟨"java/util/Arrays", "checkLength", "(II)V"⟩ : MethodName) jdk_65_method_131_code 2 ((Option.none : Option Jvm.ClassFile.FieldType)) ws (⟨0, 0, 0, 0⟩ : Room) #[(.int (0 : Int32)), (.int (oI E))] h0 (fun v h L => v = none ∧ Fr n0 L ∧ h = h0) := by
  refine Ctr.go (plainFor_of_name pn_119) fun p e s m below meth c s₁ Bd hx hby hml hZ hown hnm X0 e0 => ?_
  have N0 := Fr.nil n0
  have K0 := Keep.refl h0 []
  refine gs (S' := s₁.setTop (mkF m 0 #[iv (0 : Int32), iv (oI E)] [])) (fun tg kg => castTop (ef_27 m (0 : Int32) (oI E)) kg) ?_
  refine gs (fun _ k => jb X0 hx hby d43_0 rfl (jb X0 hx hby d43_1 rfl (jh (pc' := 37) X0 hx hby d43_2 (flt (js (by omega))).2.1 k))) ?_
  refine gout (v := none) X0 Bd.notSynchronized (fun _ => rfl) (by decide) (by decide) ?_ (fun fs hr => X0.returnOut hx Bd.returns (hb hby d43_37) hr)
  rw [e0]
  exact ⟨rfl, N0, rfl⟩
theorem ef_646 (m : MethodId) (x0 : Addr) (x1 : Int32) (x2 : Int32) : entryFrame m #[(.ref x0), (.int x1), (.int x2)] 5 = mkF m 0 #[.val (.ref x0), .val (.int x1), .val (.int x2), .unset, .unset] [] := by first | (simp [entryFrame, mkF, argsToLocals, Value.category]; done) | rfl
abbrev oc44 := jdk_65_method_133_code
theorem d44_0 : decode oc44 0 = .ok (.iload_n 1, 1) := by decide +kernel
theorem d44_1 : decode oc44 1 = .ok (.iload_n 2, 1) := by decide +kernel
theorem d44_2 : decode oc44 2 = .ok (.invokestatic 343, 3) := by decide +kernel
theorem d44_5 : decode oc44 5 = .ok (.iload_n 2, 1) := by decide +kernel
theorem d44_6 : decode oc44 6 = .ok (.iload_n 1, 1) := by decide +kernel
theorem d44_7 : decode oc44 7 = .ok (.isub, 1) := by decide +kernel
theorem d44_8 : decode oc44 8 = .ok (.istore_n 3, 1) := by decide +kernel
theorem d44_9 : decode oc44 9 = .ok (.iload_n 3, 1) := by decide +kernel
theorem d44_10 : decode oc44 10 = .ok (.newarray .byte, 2) := by decide +kernel
theorem d44_12 : decode oc44 12 = .ok (.astore 4, 2) := by decide +kernel
theorem d44_14 : decode oc44 14 = .ok (.aload_n 0, 1) := by decide +kernel
theorem d44_15 : decode oc44 15 = .ok (.iload_n 1, 1) := by decide +kernel
theorem d44_16 : decode oc44 16 = .ok (.aload 4, 2) := by decide +kernel
theorem d44_18 : decode oc44 18 = .ok (.iconst 0, 1) := by decide +kernel
theorem d44_19 : decode oc44 19 = .ok (.aload_n 0, 1) := by decide +kernel
theorem d44_20 : decode oc44 20 = .ok (.arraylength, 1) := by decide +kernel
theorem d44_21 : decode oc44 21 = .ok (.iload_n 1, 1) := by decide +kernel
theorem d44_22 : decode oc44 22 = .ok (.isub, 1) := by decide +kernel
theorem d44_23 : decode oc44 23 = .ok (.iload_n 3, 1) := by decide +kernel
theorem d44_24 : decode oc44 24 = .ok (.invokestatic 304, 3) := by decide +kernel
theorem d44_27 : decode oc44 27 = .ok (.invokestatic 150, 3) := by decide +kernel
theorem d44_30 : decode oc44 30 = .ok (.aload 4, 2) := by decide +kernel
theorem d44_32 : decode oc44 32 = .ok (.areturn, 1) := by decide +kernel
theorem rm_cb (l : Launch) (Z : State) (a0 : Array Value) (hw : HW Z a0) (ws : List Jvm.Cond) (t : Addr) (kb : ClassId) (vs : List Value) (M : Nat) (E : Nat) (h0 : Heap) (n0 : Nat) (Z0 : n0 ≤ h0.size) (O0 : Old Z n0 h0) (V_t : Arv Z h0 t kb .byte (oI M) vs (.int (0 : Int32))) (hvl : vs.length ≤ E) (hEM : E ≤ M) (hM : M ≤ 200) (hne : ¬ E = M) :
    Ctr l Z (⟨"java/util/Arrays", "copyOfRangeByte", "([BII)[B"⟩ : MethodName) jdk_65_method_133_code 5 ((Option.some (Jvm.ClassFile.FieldType.array Jvm.ClassFile.FieldType.byte))) ws (⟨1, 1, 200, 18⟩ : Room) #[(.ref t), (.int (0 : Int32)), (.int (oI E))] h0 (fun v h L => ∃ (t1 : Addr) (k1 : ClassId), v = some (.ref t1) ∧ Fr n0 L ∧ Keep h0 h [] ∧ h0.size ≤ t1 ∧ Arv Z h t1 k1 .byte (oI E) vs (.int (0 : Int32))) := by
  refine Ctr.go (plainFor_of_name pn_119) fun p e s m below meth c s₁ Bd hx hby hml hZ hown hnm X0 e0 => ?_
  have N0 := Fr.nil n0
  have K0 := Keep.refl h0 []
  refine gs (S' := s₁.setTop (mkF m 0 #[rv t, iv (0 : Int32), iv (oI E), uu, uu] [])) (fun tg kg => castTop (ef_646 m t (0 : Int32) (oI E)) kg) ?_
  refine gs (fun _ k => jb X0 hx hby d44_0 rfl (jb X0 hx hby d44_1 rfl k)) ?_
  refine cS (rest := []) X0 hx hZ hown (ow hw 214 rfl) (ow hw 215 rfl) (ow hw 131 rfl) (ow hw 216 rfl) (rm_cl l Z a0 hw [] E h0 n0 Z0 O0 (by omega)) hby d44_2 e0 pd_255 0 (by rw [hml]; rfl) rfl rfl rfl rfl (by decide) (by decide) fun _ T1 Lc1 X1 hQ1 => ?_
  obtain ⟨rfl, N1q, e1q⟩ := hQ1
  have N1 := Fr.app N0 N1q
  refine gs (fun _ k => jb X1 hx hby d44_5 rfl (jb X1 hx hby d44_6 rfl (jO X1 hx hby d44_7 k))) ?_
  show OwnGo p e below s _ _ _ (T1.setTop (mkF m 8 #[rv t, iv (0 : Int32), iv (oI E), uu, uu] [(.int ((oI E) - (0 : Int32)))]))
  rw [own_sub0]
  refine gs (fun _ k => jF X1 hx hby d44_8 rfl (jb X1 hx hby d44_9 rfl k)) ?_
  obtain ⟨T2, h2, k2, X2, e2, E2, A2, st2⟩ := newP X1 hx hZ (ow hw 23 rfl) e1q (g := (mkF m 10 #[rv t, iv (0 : Int32), iv (oI E), iv (oI E), uu] [(.int (oI E))])) rfl (hb hby d44_10) rfl (js (by omega)) (cap := 200) (own_nc (by omega) (by omega)) (by decide) (by decide) (by decide)
  obtain ⟨b2, q2⟩ : ∃ z, z = h0.size := ⟨_, rfl⟩
  rw [← q2] at A2 st2
  have g_b2 : n0 ≤ b2 := nt Z0 (Nat.le_of_eq q2.symm)
  have sz_b2 : h0.size ≤ b2 := nt K0.1 (Nat.le_of_eq q2.symm)
  have Z3 := nt Z0 E2.1
  have O3 := O0.ext E2
  have K3 := K0.ext E2
  have V2 : Arv Z h2 b2 k2 .byte (oI E) [] (.int (0 : Int32)) := Arv.new A2 (js (by omega))
  refine gs (S' := T2.setTop (mkF m 12 #[rv t, iv (0 : Int32), iv (oI E), iv (oI E), uu] [(.ref b2)])) st2 ?_
  refine gs (fun _ k => jo X2 hx hby d44_12 rfl rfl (ja X2 hx hby d44_14 rfl rfl (jb X2 hx hby d44_15 rfl (jf X2 hx hby d44_16 rfl rfl (je (v := (0 : Int32)) X2 hx hby d44_18 (ja X2 hx hby d44_19 rfl rfl k)))))) ?_
  have f4 := (V_t.ext E2)
  obtain ⟨cl5, A5, a5q, a5S, a5N, a5H, a5G⟩ := id f4
  refine gs (S' := T2.setTop (mkF m 21 #[rv t, iv (0 : Int32), iv (oI E), iv (oI E), rv b2] [(.int (oI M)), (.int (0 : Int32)), (.ref b2), (.int (0 : Int32)), (.ref t)])) (fun _ k => by refine X2.arraylength hx (by rw [e2]; exact A5.1) (State.isArrayOf_alike hZ.alike A5.2.1) (g := (mkF m 20 #[rv t, iv (0 : Int32), iv (oI E), iv (oI E), rv b2] [(.ref t), (.int (0 : Int32)), (.ref b2), (.int (0 : Int32)), (.ref t)])) rfl rfl (hb hby d44_20) _ ?_; rw [len_of a5S a5N]; exact k) ?_
  refine gs (fun _ k => jb X2 hx hby d44_21 rfl (jO X2 hx hby d44_22 k)) ?_
  show OwnGo p e below s _ _ _ (T2.setTop (mkF m 23 #[rv t, iv (0 : Int32), iv (oI E), iv (oI E), rv b2] [(.int ((oI M) - (0 : Int32))), (.int (0 : Int32)), (.ref b2), (.int (0 : Int32)), (.ref t)]))
  rw [own_sub0]
  refine gs (fun _ k => jb X2 hx hby d44_23 rfl k) ?_
  refine cS (rest := [(.int (0 : Int32)), (.ref b2), (.int (0 : Int32)), (.ref t)]) X2 hx hZ hown (ow hw 133 rfl) (ow hw 134 rfl) (ow hw 125 rfl) (ow hw 135 rfl) (rm_m2 l Z a0 hw [] (oI M) (oI E) h2 n0 Z3 O3 (jM (by omega) (by omega))) hby d44_24 e2 pd_52 4 (by rw [hml]; rfl) rfl rfl rfl rfl (by decide) (by decide) fun _ T6 Lc6 X6 hQ6 => ?_
  obtain ⟨rfl, N6q, e6q⟩ := hQ6
  have N6 := Fr.app N1 N6q
  obtain ⟨T7, h7, L7, X7, e7, N7, K7q, V7, st7⟩ := own_cpv X6 hx hZ hown (ow hw 136 rfl) (ow hw 139 rfl) (ow hw 137 rfl) (ow hw 138 rfl) e6q f4 V2 M E E rfl rfl rfl rfl (by omega) (by omega) hvl hEM (by show 0 + E ≤ E; omega) N6 g_b2 (g := (mkF m 27 #[rv t, iv (0 : Int32), iv (oI E), iv (oI E), rv b2] [(.int (oI E)), (.int (0 : Int32)), (.ref b2), (.int (0 : Int32)), (.ref t)])) rfl (by rw [hml]; rfl) rfl (hb hby d44_27) (by decide) (W := 0) (jK rfl) (by decide)
  have Z8 := nt Z3 K7q.1
  have O8 := O3.keep K7q (allS g_b2 all0)
  have K8 := K3.trans K7q (allS (Or.inr sz_b2) all0)
  refine gs (S' := T7.setTop (mkF m 30 #[rv t, iv (0 : Int32), iv (oI E), iv (oI E), rv b2] [])) st7 ?_
  refine gs (fun _ k => jf X7 hx hby d44_30 rfl rfl k) ?_
  refine gout (v := some (.ref b2)) X7 Bd.notSynchronized (fun h => by rw [Bd.returns] at h; cases h) (by decide) (by decide) ?_ (fun fs hr => retOut X7 hx Bd.returns rfl (Or.inr (Or.inr (Or.inr (Or.inr ⟨rfl, rfl, rfl⟩)))) (hb hby d44_32) hr)
  rw [e7]
  exact ⟨_, _, rfl, N7, K8, sz_b2, V7⟩
abbrev oc45 := jdk_65_method_132_code
theorem d45_0 : decode oc45 0 = .ok (.iload_n 1, 1) := by decide +kernel
theorem d45_1 : decode oc45 1 = .ok (.ifCond .ne 9, 3) := by decide +kernel
theorem d45_4 : decode oc45 4 = .ok (.iload_n 2, 1) := by decide +kernel
theorem d45_5 : decode oc45 5 = .ok (.aload_n 0, 1) := by decide +kernel
theorem d45_6 : decode oc45 6 = .ok (.arraylength, 1) := by decide +kernel
theorem d45_7 : decode oc45 7 = .ok (.if_icmp .eq 10, 3) := by decide +kernel
theorem d45_17 : decode oc45 17 = .ok (.aload_n 0, 1) := by decide +kernel
theorem d45_18 : decode oc45 18 = .ok (.invokevirtual 310, 3) := by decide +kernel
theorem d45_21 : decode oc45 21 = .ok (.checkcast 311, 3) := by decide +kernel
theorem d45_24 : decode oc45 24 = .ok (.areturn, 1) := by decide +kernel
theorem d45_10 : decode oc45 10 = .ok (.aload_n 0, 1) := by decide +kernel
theorem d45_11 : decode oc45 11 = .ok (.iload_n 1, 1) := by decide +kernel
theorem d45_12 : decode oc45 12 = .ok (.iload_n 2, 1) := by decide +kernel
theorem d45_13 : decode oc45 13 = .ok (.invokestatic 339, 3) := by decide +kernel
theorem pd_687 : parseMethodDescriptor "([BII)[B" = some ⟨[(.array .byte), .int, .int], some (.array .byte)⟩ := by decide +kernel
theorem d45_16 : decode oc45 16 = .ok (.areturn, 1) := by decide +kernel
theorem rm_cr (l : Launch) (Z : State) (a0 : Array Value) (hw : HW Z a0) (ws : List Jvm.Cond) (t : Addr) (kb : ClassId) (vs : List Value) (M : Nat) (E : Nat) (h0 : Heap) (n0 : Nat) (Z0 : n0 ≤ h0.size) (O0 : Old Z n0 h0) (E_t : Exa Z h0 t "[B") (V_t : Arv Z h0 t kb .byte (oI M) vs (.int (0 : Int32))) (hvl : vs.length ≤ E) (hEM : E ≤ M) (hM : M ≤ 200) :
    Ctr l Z (⟨"java/util/Arrays", "copyOfRange", "([BII)[B"⟩ : MethodName) jdk_65_method_132_code 3 ((Option.some (Jvm.ClassFile.FieldType.array Jvm.ClassFile.FieldType.byte))) ws (⟨2, 1, 200, 34⟩ : Room) #[(.ref t), (.int (0 : Int32)), (.int (oI E))] h0 (fun v h L => ∃ (t1 : Addr) (k1 : ClassId), v = some (.ref t1) ∧ Fr n0 L ∧ Keep h0 h [] ∧ h0.size ≤ t1 ∧ Arv Z h t1 k1 .byte (oI E) vs (.int (0 : Int32))) := by
  refine Ctr.go (plainFor_of_name pn_119) fun p e s m below meth c s₁ Bd hx hby hml hZ hown hnm X0 e0 => ?_
  have N0 := Fr.nil n0
  have K0 := Keep.refl h0 []
  refine gs (S' := s₁.setTop (mkF m 0 #[rv t, iv (0 : Int32), iv (oI E)] [])) (fun tg kg => castTop (ef_171 m t (0 : Int32) (oI E)) kg) ?_
  refine gs (fun _ k => jb X0 hx hby d45_0 rfl (jn X0 hx hby d45_1 ((if0 _ _).trans (teq (by decide : (0 : Int32) = (0 : Int32))).2) (jb X0 hx hby d45_4 rfl (ja X0 hx hby d45_5 rfl rfl k)))) ?_
  obtain ⟨cl1, A1, a1q, a1S, a1N, a1H, a1G⟩ := id V_t
  refine gs (S' := s₁.setTop (mkF m 7 #[rv t, iv (0 : Int32), iv (oI E)] [(.int (oI M)), (.int (oI E))])) (fun _ k => by refine X0.arraylength hx (by rw [e0]; exact A1.1) (State.isArrayOf_alike hZ.alike A1.2.1) (g := (mkF m 6 #[rv t, iv (0 : Int32), iv (oI E)] [(.ref t), (.int (oI E))])) rfl rfl (hb hby d45_6) _ ?_; rw [len_of a1S a1N]; exact k) ?_
  by_cases hc2 : (oI E) = (oI M)
  · refine gs (fun _ k => jh (pc' := 17) X0 hx hby d45_7 (teq hc2).1 (ja X0 hx hby d45_17 rfl rfl k)) ?_
    obtain ⟨T3, h3, X3, e3, E3, V3, Ex3, st3⟩ := own_cl X0 hx hZ hown (ow hw 190 rfl) (ow hw 191 rfl) (ow hw 195 rfl) (ow hw 193 rfl) (ow hw 194 rfl) (ow hw 196 rfl) e0 V_t E_t (g := (mkF m 18 #[rv t, iv (0 : Int32), iv (oI E)] [(.ref t)])) rfl (by rw [hml]; rfl) rfl (hb hby d45_18) (by decide) (W := 0) (cap := 200) (jK rfl) (by decide) (own_nc hM (by omega)) (by decide) (by decide)
    obtain ⟨b3, q3⟩ : ∃ z, z = h0.size := ⟨_, rfl⟩
    rw [← q3] at V3 Ex3 st3
    have g_b3 : n0 ≤ b3 := nt Z0 (Nat.le_of_eq q3.symm)
    have sz_b3 : h0.size ≤ b3 := nt K0.1 (Nat.le_of_eq q3.symm)
    have Z4 := nt Z0 E3.1
    have O4 := O0.ext E3
    have K4 := K0.ext E3
    refine gs (S' := T3.setTop (mkF m 21 #[rv t, iv (0 : Int32), iv (oI E)] [(.ref b3)])) st3 ?_
    obtain ⟨T5, X5, e5, st5⟩ := castY X3 hx hZ hown (ow hw 197 rfl) e3 (Ins.self Ex3) (g := (mkF m 21 #[rv t, iv (0 : Int32), iv (oI E)] [(.ref b3)])) rfl rfl (hb hby d45_21)
    refine gs (S' := T5.setTop (mkF m 24 #[rv t, iv (0 : Int32), iv (oI E)] [(.ref b3)])) st5 ?_
    refine gout (v := some (.ref b3)) X5 Bd.notSynchronized (fun h => by rw [Bd.returns] at h; cases h) (by decide) (by decide) ?_ (fun fs hr => retOut X5 hx Bd.returns rfl (Or.inr (Or.inr (Or.inr (Or.inr ⟨rfl, rfl, rfl⟩)))) (hb hby d45_24) hr)
    rw [e5]
    exact ⟨_, _, rfl, N0, K4, sz_b3, by rw [hc2]; exact V3⟩
  · refine gs (fun _ k => ji X0 hx hby d45_7 (feq hc2).1 (ja X0 hx hby d45_10 rfl rfl (jb X0 hx hby d45_11 rfl (jb X0 hx hby d45_12 rfl k)))) ?_
    refine cS (rest := []) X0 hx hZ hown (ow hw 211 rfl) (ow hw 212 rfl) (ow hw 131 rfl) (ow hw 213 rfl) (rm_cb l Z a0 hw [] t kb vs M E h0 n0 Z0 O0 V_t hvl hEM hM (fun q => hc2 (congrArg oI q))) hby d45_13 e0 pd_687 0 (by rw [hml]; rfl) rfl rfl rfl rfl (by decide) (by decide) fun _ T6 Lc6 X6 hQ6 => ?_
    obtain ⟨t6, kb6, rfl, N6q, K6q, g6t, V6q⟩ := hQ6
    have N6 := Fr.app N0 N6q
    have g_t6 : n0 ≤ t6 := nt Z0 g6t
    have sz_t6 : h0.size ≤ t6 := nt K0.1 g6t
    have Z7 := nt Z0 K6q.1
    have O7 := O0.keep K6q all0
    have K7 := K0.trans K6q all0
    refine gout (v := some (.ref t6)) X6 Bd.notSynchronized (fun h => by rw [Bd.returns] at h; cases h) (by decide) (by decide) ?_ (fun fs hr => retOut X6 hx Bd.returns rfl (Or.inr (Or.inr (Or.inr (Or.inr ⟨rfl, rfl, rfl⟩)))) (hb hby d45_16) hr)
    exact ⟨_, _, rfl, N6, K7, sz_t6, V6q⟩
theorem ef_689 (m : MethodId) (x0 : Addr) (x1 : Addr) : entryFrame m #[(.ref x0), (.ref x1), .null] 5 = mkF m 0 #[.val (.ref x0), .val (.ref x1), .val .null, .unset, .unset] [] := by first | (simp [entryFrame, mkF, argsToLocals, Value.category]; done) | rfl
abbrev oc46 := jdk_42_method_150_code
theorem d46_0 : decode oc46 0 = .ok (.aload_n 0, 1) := by decide +kernel
theorem d46_1 : decode oc46 1 = .ok (.invokespecial 1, 3) := by decide +kernel
theorem d46_4 : decode oc46 4 = .ok (.aload_n 1, 1) := by decide +kernel
theorem d46_5 : decode oc46 5 = .ok (.invokevirtual 552, 3) := by decide +kernel
theorem pd_695 : parseMethodDescriptor "()[B" = some ⟨[], some (.array .byte)⟩ := by decide +kernel
theorem d46_8 : decode oc46 8 = .ok (.astore_n 3, 1) := by decide +kernel
theorem d46_9 : decode oc46 9 = .ok (.aload_n 1, 1) := by decide +kernel
theorem d46_10 : decode oc46 10 = .ok (.invokevirtual 549, 3) := by decide +kernel
theorem d46_13 : decode oc46 13 = .ok (.istore 4, 2) := by decide +kernel
theorem d46_15 : decode oc46 15 = .ok (.aload_n 1, 1) := by decide +kernel
theorem d46_16 : decode oc46 16 = .ok (.invokevirtual 1047, 3) := by decide +kernel
theorem d46_19 : decode oc46 19 = .ok (.ifCond .eq 22, 3) := by decide +kernel
theorem d46_22 : decode oc46 22 = .ok (.aload_n 0, 1) := by decide +kernel
theorem d46_23 : decode oc46 23 = .ok (.iconst 0, 1) := by decide +kernel
theorem d46_24 : decode oc46 24 = .ok (.putfield 15, 3) := by decide +kernel
theorem d46_27 : decode oc46 27 = .ok (.aload_n 0, 1) := by decide +kernel
theorem d46_28 : decode oc46 28 = .ok (.aload_n 3, 1) := by decide +kernel
theorem d46_29 : decode oc46 29 = .ok (.iconst 0, 1) := by decide +kernel
theorem d46_30 : decode oc46 30 = .ok (.iload 4, 2) := by decide +kernel
theorem d46_32 : decode oc46 32 = .ok (.invokestatic 54, 3) := by decide +kernel
theorem d46_35 : decode oc46 35 = .ok (.putfield 9, 3) := by decide +kernel
theorem d46_38 : decode oc46 38 = .ok (.goto 59, 3) := by decide +kernel
theorem d46_97 : decode oc46 97 = .ok (.return_, 1) := by decide +kernel
theorem d46_41 : decode oc46 41 = .ok (.getstatic 38, 3) := by decide +kernel
theorem d46_44 : decode oc46 44 = .ok (.ifCond .eq 35, 3) := by decide +kernel
theorem d46_47 : decode oc46 47 = .ok (.aload_n 1, 1) := by decide +kernel
theorem d46_48 : decode oc46 48 = .ok (.getfield 1048, 3) := by decide +kernel
theorem d46_51 : decode oc46 51 = .ok (.ifCond .eq 28, 3) := by decide +kernel
theorem d46_79 : decode oc46 79 = .ok (.aload_n 0, 1) := by decide +kernel
theorem d46_80 : decode oc46 80 = .ok (.iconst 1, 1) := by decide +kernel
theorem d46_81 : decode oc46 81 = .ok (.putfield 15, 3) := by decide +kernel
theorem d46_84 : decode oc46 84 = .ok (.aload_n 0, 1) := by decide +kernel
theorem d46_85 : decode oc46 85 = .ok (.aload_n 3, 1) := by decide +kernel
theorem d46_86 : decode oc46 86 = .ok (.iconst 0, 1) := by decide +kernel
theorem d46_87 : decode oc46 87 = .ok (.iload 4, 2) := by decide +kernel
theorem d46_89 : decode oc46 89 = .ok (.iconst 1, 1) := by decide +kernel
theorem d46_90 : decode oc46 90 = .ok (.ishl, 1) := by decide +kernel
theorem d46_91 : decode oc46 91 = .ok (.invokestatic 54, 3) := by decide +kernel
theorem d46_94 : decode oc46 94 = .ok (.putfield 9, 3) := by decide +kernel
theorem rm_ia (l : Launch) (Z : State) (a0 : Array Value) (hw : HW Z a0) (ws : List Jvm.Cond) (a : Addr) (b : Addr) (t : Addr) (cs : List Int32) (z : Int32) (h0 : Heap) (n0 : Nat) (Z0 : n0 ≤ h0.size) (O0 : Old Z n0 h0) (E_a : Exa Z h0 a "java/lang/String") (F_va : Fld Z h0 a "java/lang/String" "value" "[B" .null) (F_ca : Fld Z h0 a "java/lang/String" "coder" "B" (.int (0 : Int32))) (g_a : n0 ≤ a) (B0 : BG Z h0 b t cs) (hc18 : cs.length ≤ 18) (S0 : PS3 Z (.int z)) (hz : ¬ z = 0) :
    Ctr l Z (⟨"java/lang/String", "<init>", "(Ljava/lang/AbstractStringBuilder;Ljava/lang/Void;)V"⟩ : MethodName) jdk_42_method_150_code 5 ((Option.none : Option Jvm.ClassFile.FieldType)) ws (⟨3, 1, 200, 49⟩ : Room) #[(.ref a), (.ref b), .null] h0 (fun v h L => v = none ∧ Fr n0 L ∧ Keep h0 h [a] ∧ SG Z h a cs) := by
  refine Ctr.go (plainFor_of_name pn_15) fun p e s m below meth c s₁ Bd hx hby hml hZ hown hnm X0 e0 => ?_
  have N0 := Fr.nil n0
  have K0 := Keep.refl h0 [a]
  refine gs (S' := s₁.setTop (mkF m 0 #[rv a, rv b, .val .null, uu, uu] [])) (fun tg kg => castTop (ef_689 m a b) kg) ?_
  obtain ⟨kb, N, cd, vs, hN, hcN, B1, hE⟩ := id B0
  have hvl := hE.len
  have hle := own_scle (cd := cd) hcN
  rcases id hE with ⟨rfl, rfl, hbd⟩ | ⟨rfl, rfl, hbd⟩
  · obtain ⟨E_b, F_v, F_c, F_n, F_m, E_t, V_t⟩ := id B1
    have hbu := jL (cd := (0 : Int32)) N
    have hl18 : jk (0 : Int32) cs.length ≤ jk (0 : Int32) N := hle
    have hEl : cs.length ≤ jk (0 : Int32) N := by rw [jy]; omega
    refine gs (fun _ k => ja X0 hx hby d46_0 rfl rfl k) ?_
    obtain ⟨T1, X1, e1, st1⟩ := initO X0 hx hZ hown (ow hw 15 rfl) (ow hw 16 rfl) (ow hw 17 rfl) e0 (g := (mkF m 1 #[rv a, rv b, .val .null, uu, uu] [(.ref a)])) rfl (by rw [hml]; rfl) rfl (hb hby d46_1) (by decide) (W := 0) (jK rfl) (by decide)
    refine gs (S' := T1.setTop (mkF m 4 #[rv a, rv b, .val .null, uu, uu] [])) st1 ?_
    refine gs (fun _ k => ja X1 hx hby d46_4 rfl rfl k) ?_
    refine cV (rest := []) X1 hx hZ hown (ow hw 169 rfl) (ow hw 170 rfl) (nfs hZ (ow hw 172 rfl)) (ow hw 172 rfl) (ow hw 171 rfl) (ow hw 65 rfl) (ow hw 173 rfl) (rm_gv l Z a0 hw [] b t h0 n0 Z0 O0 F_v) hby d46_5 e1 pd_695 0 (by rw [hml]; rfl) E_b rfl rfl rfl rfl (by decide) (by decide) fun _ T2 Lc2 X2 hQ2 => ?_
    obtain ⟨rfl, N2q, e2q⟩ := hQ2
    have N2 := Fr.app N0 N2q
    refine gs (fun _ k => jw X2 hx hby d46_8 rfl rfl (ja X2 hx hby d46_9 rfl rfl k)) ?_
    refine cV (rest := []) X2 hx hZ hown (ow hw 174 rfl) (ow hw 175 rfl) (own_nf (a0 := #[]) (mvT hZ (ow hw 112 rfl)) rfl) (ow hw 177 rfl) (ow hw 178 rfl) (ow hw 47 rfl) (ow hw 179 rfl) (rm_sl l Z a0 hw [] b (oI cs.length) h0 n0 Z0 O0 E_b F_n) hby d46_10 e2q pd_573 0 (by rw [hml]; rfl) E_b rfl rfl rfl rfl (by decide) (by decide) fun _ T3 Lc3 X3 hQ3 => ?_
    obtain ⟨rfl, N3q, e3q⟩ := hQ3
    have N3 := Fr.app N2 N3q
    refine gs (fun _ k => jj X3 hx hby d46_13 rfl (ja X3 hx hby d46_15 rfl rfl k)) ?_
    refine cV (rest := []) X3 hx hZ hown (ow hw 182 rfl) (ow hw 183 rfl) (nfs hZ (ow hw 185 rfl)) (ow hw 185 rfl) (ow hw 184 rfl) (ow hw 65 rfl) (ow hw 186 rfl) (rm_il0 l Z a0 hw [] b z h0 n0 Z0 O0 E_b F_c S0 hz) hby d46_16 e3q pd_358 0 (by rw [hml]; rfl) E_b rfl rfl rfl rfl (by decide) (by decide) fun _ T4 Lc4 X4 hQ4 => ?_
    obtain ⟨rfl, N4q, e4q⟩ := hQ4
    have N4 := Fr.app N3 N4q
    refine gs (fun _ k => jn X4 hx hby d46_19 ((if0 _ _).trans (feq (by decide : ¬ ((1 : Int32) = (0 : Int32)))).1) (ja X4 hx hby d46_22 rfl rfl (je (v := (0 : Int32)) X4 hx hby d46_23 k))) ?_
    obtain ⟨T5, h5, X5, e5, W5, st5⟩ := putFN X4 hx hZ hown (ow hw 30 rfl) Via.refl e4q F_ca E_a (Or.inr ⟨(ow hw 31 rfl), rfl, hnm⟩) (ow hw 5 rfl) (ty := .byte) (v' := (.int (0 : Int32))) (by decide) rfl rfl (g := (mkF m 24 #[rv a, rv b, .val .null, rv t, iv (oI cs.length)] [(.int (0 : Int32)), (.ref a)])) rfl rfl (hb hby d46_24)
    have N5 := Fr.snoc X5 N4 g_a
    have Fw5 := F_ca.same W5
    have Z6 := nt Z0 (Keep.of_wr W5).1
    have O6 := O0.wr W5 g_a
    have K6 := K0.wr W5 (Or.inl (List.mem_of_getElem? (i := 0) rfl))
    refine gs (S' := T5.setTop (mkF m 27 #[rv a, rv b, .val .null, rv t, iv (oI cs.length)] [])) st5 ?_
    refine gs (fun _ k => ja X5 hx hby d46_27 rfl rfl (ja X5 hx hby d46_28 rfl rfl (je (v := (0 : Int32)) X5 hx hby d46_29 (jd X5 hx hby d46_30 rfl k)))) ?_
    have f7 := (E_t.wr W5)
    have f8 := (V_t.other W5 (Ne.symm (Exa.ne E_a E_t (by decide))))
    refine cS (rest := [(.ref a)]) X5 hx hZ hown (ow hw 187 rfl) (ow hw 188 rfl) (ow hw 131 rfl) (ow hw 189 rfl) (rm_cr l Z a0 hw [] t kb (jC cs) (jk (0 : Int32) N) cs.length h5 n0 Z6 O6 f7 f8 (Nat.le_of_eq (own_bvl cs)) hEl (by omega)) hby d46_32 e5 pd_687 1 (by rw [hml]; rfl) rfl rfl rfl rfl (by decide) (by decide) fun _ T9 Lc9 X9 hQ9 => ?_
    obtain ⟨t9, kb9, rfl, N9q, K9q, g9t, V9q⟩ := hQ9
    have N9 := Fr.app N5 N9q
    have g_t9 : n0 ≤ t9 := nt Z6 g9t
    have sz_t9 : h0.size ≤ t9 := nt K6.1 g9t
    have Z10 := nt Z6 K9q.1
    have O10 := O6.keep K9q all0
    have K10 := K6.trans K9q all0
    have f11 := ((F_va.other W5 (Or.inr (slot_ne (Or.inr (ow hw 33 rfl)) (Or.inr (ow hw 31 rfl)) (by decide) (t := (.array .byte)) (t' := .byte) (by decide) (by decide)))).keep K9q nin0)
    have f12 := ((E_a.wr W5).keep K9q)
    obtain ⟨T13, h13, X13, e13, W13, st13⟩ := putF X9 hx hZ hown (host := "") (Or.inl (ow hw 32 rfl)) Via.refl rfl f11 f12 (Or.inr ⟨(ow hw 33 rfl), rfl, hnm⟩) (ow hw 5 rfl) (ty := (.array .byte)) (by decide) rfl rfl (g := (mkF m 35 #[rv a, rv b, .val .null, rv t, iv (oI cs.length)] [(.ref t9), (.ref a)])) rfl rfl (hb hby d46_35)
    have N13 := Fr.snoc X13 N9 g_a
    have Fw13 := f11.same W13
    have Z14 := nt Z10 (Keep.of_wr W13).1
    have O14 := O10.wr W13 g_a
    have K14 := K10.wr W13 (Or.inl (List.mem_of_getElem? (i := 0) rfl))
    refine gs (S' := T13.setTop (mkF m 38 #[rv a, rv b, .val .null, rv t, iv (oI cs.length)] [])) st13 ?_
    refine gs (fun _ k => jl (pc' := 97) X13 hx hby d46_38 k) ?_
    have f15 := (f12.wr W13)
    have f16 := ((Fw5.keep K9q nin0).other W13 (Or.inr (slot_ne (Or.inr (ow hw 31 rfl)) (Or.inr (ow hw 33 rfl)) (by decide) (t := .byte) (t' := (.array .byte)) (by decide) (by decide))))
    have f17 := (V9q.other W13 (Ne.symm (nw (nu (nu E_a.lt (Keep.of_wr W5).1) g9t))))
    refine gout (v := none) X13 Bd.notSynchronized (fun _ => rfl) (by decide) (by decide) ?_ (fun fs hr => X13.returnOut hx Bd.returns (hb hby d46_97) hr)
    rw [e13]
    exact ⟨rfl, N13, K14, _, _, 0, _, f15, f16, Fw13, by rw [jy]; exact f17, Or.inl ⟨rfl, rfl, hbd⟩⟩
  · obtain ⟨E_b, F_v, F_c, F_n, F_m, E_t, V_t⟩ := id B1
    have hbu := jL (cd := (1 : Int32)) N
    have hl18 : jk (1 : Int32) cs.length ≤ jk (1 : Int32) N := hle
    have hEl : (2 * cs.length) ≤ jk (1 : Int32) N := by rw [jA]; omega
    refine gs (fun _ k => ja X0 hx hby d46_0 rfl rfl k) ?_
    obtain ⟨T18, X18, e18, st18⟩ := initO X0 hx hZ hown (ow hw 15 rfl) (ow hw 16 rfl) (ow hw 17 rfl) e0 (g := (mkF m 1 #[rv a, rv b, .val .null, uu, uu] [(.ref a)])) rfl (by rw [hml]; rfl) rfl (hb hby d46_1) (by decide) (W := 0) (jK rfl) (by decide)
    refine gs (S' := T18.setTop (mkF m 4 #[rv a, rv b, .val .null, uu, uu] [])) st18 ?_
    refine gs (fun _ k => ja X18 hx hby d46_4 rfl rfl k) ?_
    refine cV (rest := []) X18 hx hZ hown (ow hw 169 rfl) (ow hw 170 rfl) (nfs hZ (ow hw 172 rfl)) (ow hw 172 rfl) (ow hw 171 rfl) (ow hw 65 rfl) (ow hw 173 rfl) (rm_gv l Z a0 hw [] b t h0 n0 Z0 O0 F_v) hby d46_5 e18 pd_695 0 (by rw [hml]; rfl) E_b rfl rfl rfl rfl (by decide) (by decide) fun _ T19 Lc19 X19 hQ19 => ?_
    obtain ⟨rfl, N19q, e19q⟩ := hQ19
    have N19 := Fr.app N0 N19q
    refine gs (fun _ k => jw X19 hx hby d46_8 rfl rfl (ja X19 hx hby d46_9 rfl rfl k)) ?_
    refine cV (rest := []) X19 hx hZ hown (ow hw 174 rfl) (ow hw 175 rfl) (own_nf (a0 := #[]) (mvT hZ (ow hw 112 rfl)) rfl) (ow hw 177 rfl) (ow hw 178 rfl) (ow hw 47 rfl) (ow hw 179 rfl) (rm_sl l Z a0 hw [] b (oI cs.length) h0 n0 Z0 O0 E_b F_n) hby d46_10 e19q pd_573 0 (by rw [hml]; rfl) E_b rfl rfl rfl rfl (by decide) (by decide) fun _ T20 Lc20 X20 hQ20 => ?_
    obtain ⟨rfl, N20q, e20q⟩ := hQ20
    have N20 := Fr.app N19 N20q
    refine gs (fun _ k => jj X20 hx hby d46_13 rfl (ja X20 hx hby d46_15 rfl rfl k)) ?_
    refine cV (rest := []) X20 hx hZ hown (ow hw 182 rfl) (ow hw 183 rfl) (nfs hZ (ow hw 185 rfl)) (ow hw 185 rfl) (ow hw 184 rfl) (ow hw 65 rfl) (ow hw 186 rfl) (rm_il1 l Z a0 hw [] b z h0 n0 Z0 O0 E_b F_c S0 hz) hby d46_16 e20q pd_358 0 (by rw [hml]; rfl) E_b rfl rfl rfl rfl (by decide) (by decide) fun _ T21 Lc21 X21 hQ21 => ?_
    obtain ⟨rfl, N21q, e21q⟩ := hQ21
    have N21 := Fr.app N20 N21q
    refine gs (fun _ k => jt (pc' := 41) X21 hx hby d46_19 ((if0 _ _).trans (teq (by decide : (0 : Int32) = (0 : Int32))).1) k) ?_
    refine gS X21 hx hZ hown (host := "") (Or.inl (ow hw 18 rfl)) Via.refl e21q (S0.ext O0.2) hby d46_41 fun T22 X22 e22 => ?_
    refine gs (fun _ k => jn X22 hx hby d46_44 ((if0 _ _).trans (feq hz).1) (ja X22 hx hby d46_47 rfl rfl k)) ?_
    refine gF X22 hx hZ hown (host := "") (Or.inl (ow hw 300 rfl)) Via.refl e22 F_m hby d46_48 fun T23 X23 e23 => ?_
    refine gs (fun _ k => jt (pc' := 79) X23 hx hby d46_51 ((if0 _ _).trans (teq (by decide : (0 : Int32) = (0 : Int32))).1) (ja X23 hx hby d46_79 rfl rfl (je (v := (1 : Int32)) X23 hx hby d46_80 k))) ?_
    obtain ⟨T24, h24, X24, e24, W24, st24⟩ := putFN X23 hx hZ hown (ow hw 30 rfl) Via.refl e23 F_ca E_a (Or.inr ⟨(ow hw 31 rfl), rfl, hnm⟩) (ow hw 5 rfl) (ty := .byte) (v' := (.int (1 : Int32))) (by decide) rfl rfl (g := (mkF m 81 #[rv a, rv b, .val .null, rv t, iv (oI cs.length)] [(.int (1 : Int32)), (.ref a)])) rfl rfl (hb hby d46_81)
    have N24 := Fr.snoc X24 N21 g_a
    have Fw24 := F_ca.same W24
    have Z25 := nt Z0 (Keep.of_wr W24).1
    have O25 := O0.wr W24 g_a
    have K25 := K0.wr W24 (Or.inl (List.mem_of_getElem? (i := 0) rfl))
    refine gs (S' := T24.setTop (mkF m 84 #[rv a, rv b, .val .null, rv t, iv (oI cs.length)] [])) st24 ?_
    refine gs (fun _ k => ja X24 hx hby d46_84 rfl rfl (ja X24 hx hby d46_85 rfl rfl (je (v := (0 : Int32)) X24 hx hby d46_86 (jd X24 hx hby d46_87 rfl (je (v := (1 : Int32)) X24 hx hby d46_89 (o_ishl X24 hx hby d46_90 k)))))) ?_
    show OwnGo p e below s _ _ _ (T24.setTop (mkF m 91 #[rv a, rv b, .val .null, rv t, iv (oI cs.length)] [(.int ((oI cs.length) <<< ((1 : Int32) &&& 31))), (.int (0 : Int32)), (.ref t), (.ref a)]))
    rw [own_shl1 (n := cs.length) (by omega)]
    have f26 := (E_t.wr W24)
    have f27 := (V_t.other W24 (Ne.symm (Exa.ne E_a E_t (by decide))))
    refine cS (rest := [(.ref a)]) X24 hx hZ hown (ow hw 187 rfl) (ow hw 188 rfl) (ow hw 131 rfl) (ow hw 189 rfl) (rm_cr l Z a0 hw [] t kb (jq cs) (jk (1 : Int32) N) (2 * cs.length) h24 n0 Z25 O25 f26 f27 (Nat.le_of_eq (own_bsl cs)) hEl (by omega)) hby d46_91 e24 pd_687 1 (by rw [hml]; rfl) rfl rfl rfl rfl (by decide) (by decide) fun _ T28 Lc28 X28 hQ28 => ?_
    obtain ⟨t28, kb28, rfl, N28q, K28q, g28t, V28q⟩ := hQ28
    have N28 := Fr.app N24 N28q
    have g_t28 : n0 ≤ t28 := nt Z25 g28t
    have sz_t28 : h0.size ≤ t28 := nt K25.1 g28t
    have Z29 := nt Z25 K28q.1
    have O29 := O25.keep K28q all0
    have K29 := K25.trans K28q all0
    have f30 := ((F_va.other W24 (Or.inr (slot_ne (Or.inr (ow hw 33 rfl)) (Or.inr (ow hw 31 rfl)) (by decide) (t := (.array .byte)) (t' := .byte) (by decide) (by decide)))).keep K28q nin0)
    have f31 := ((E_a.wr W24).keep K28q)
    obtain ⟨T32, h32, X32, e32, W32, st32⟩ := putF X28 hx hZ hown (host := "") (Or.inl (ow hw 32 rfl)) Via.refl rfl f30 f31 (Or.inr ⟨(ow hw 33 rfl), rfl, hnm⟩) (ow hw 5 rfl) (ty := (.array .byte)) (by decide) rfl rfl (g := (mkF m 94 #[rv a, rv b, .val .null, rv t, iv (oI cs.length)] [(.ref t28), (.ref a)])) rfl rfl (hb hby d46_94)
    have N32 := Fr.snoc X32 N28 g_a
    have Fw32 := f30.same W32
    have Z33 := nt Z29 (Keep.of_wr W32).1
    have O33 := O29.wr W32 g_a
    have K33 := K29.wr W32 (Or.inl (List.mem_of_getElem? (i := 0) rfl))
    refine gs (S' := T32.setTop (mkF m 97 #[rv a, rv b, .val .null, rv t, iv (oI cs.length)] [])) st32 ?_
    have f34 := (f31.wr W32)
    have f35 := ((Fw24.keep K28q nin0).other W32 (Or.inr (slot_ne (Or.inr (ow hw 31 rfl)) (Or.inr (ow hw 33 rfl)) (by decide) (t := .byte) (t' := (.array .byte)) (by decide) (by decide))))
    have f36 := (V28q.other W32 (Ne.symm (nw (nu (nu E_a.lt (Keep.of_wr W24).1) g28t))))
    refine gout (v := none) X32 Bd.notSynchronized (fun _ => rfl) (by decide) (by decide) ?_ (fun fs hr => X32.returnOut hx Bd.returns (hb hby d46_97) hr)
    rw [e32]
    exact ⟨rfl, N32, K33, _, _, 1, _, f34, f35, Fw32, by rw [jA]; exact f36, Or.inr ⟨rfl, rfl, hbd⟩⟩
abbrev oc47 := jdk_42_method_53_code
theorem d47_0 : decode oc47 0 = .ok (.aload_n 0, 1) := by decide +kernel
theorem d47_1 : decode oc47 1 = .ok (.aload_n 1, 1) := by decide +kernel
theorem d47_2 : decode oc47 2 = .ok (.aconst_null, 1) := by decide +kernel
theorem d47_3 : decode oc47 3 = .ok (.invokespecial 489, 3) := by decide +kernel
theorem pd_736 : parseMethodDescriptor "(Ljava/lang/AbstractStringBuilder;Ljava/lang/Void;)V" = some ⟨[(.object "java/lang/AbstractStringBuilder"), (.object "java/lang/Void")], none⟩ := by decide +kernel
theorem d47_6 : decode oc47 6 = .ok (.return_, 1) := by decide +kernel
theorem rm_is (l : Launch) (Z : State) (a0 : Array Value) (hw : HW Z a0) (ws : List Jvm.Cond) (a : Addr) (b : Addr) (t : Addr) (cs : List Int32) (z : Int32) (h0 : Heap) (n0 : Nat) (Z0 : n0 ≤ h0.size) (O0 : Old Z n0 h0) (E_a : Exa Z h0 a "java/lang/String") (F_va : Fld Z h0 a "java/lang/String" "value" "[B" .null) (F_ca : Fld Z h0 a "java/lang/String" "coder" "B" (.int (0 : Int32))) (g_a : n0 ≤ a) (B0 : BG Z h0 b t cs) (hc18 : cs.length ≤ 18) (S0 : PS3 Z (.int z)) (hz : ¬ z = 0) :
    Ctr l Z (⟨"java/lang/String", "<init>", "(Ljava/lang/StringBuilder;)V"⟩ : MethodName) jdk_42_method_53_code 2 ((Option.none : Option Jvm.ClassFile.FieldType)) ws (⟨4, 1, 200, 65⟩ : Room) #[(.ref a), (.ref b)] h0 (fun v h L => v = none ∧ Fr n0 L ∧ Keep h0 h [a] ∧ SG Z h a cs) := by
  refine Ctr.go (plainFor_of_name pn_15) fun p e s m below meth c s₁ Bd hx hby hml hZ hown hnm X0 e0 => ?_
  have N0 := Fr.nil n0
  have K0 := Keep.refl h0 [a]
  refine gs (S' := s₁.setTop (mkF m 0 #[rv a, rv b] [])) (fun tg kg => castTop (ef_16 m a b) kg) ?_
  have E_b := B0.exa
  refine gs (fun _ k => ja X0 hx hby d47_0 rfl rfl (ja X0 hx hby d47_1 rfl rfl (o_aconstNull X0 hx hby d47_2 k))) ?_
  refine cI (rest := []) X0 hx hZ hown rfl (ow hw 166 rfl) (ow hw 167 rfl) (ow hw 6 rfl) (ow hw 168 rfl) (rm_ia l Z a0 hw [] a b t cs z h0 n0 Z0 O0 E_a F_va F_ca g_a B0 hc18 S0 hz) hby d47_3 e0 pd_736 0 (by rw [hml]; rfl) rfl rfl rfl rfl (by decide) (by decide) fun _ T1 Lc1 X1 hQ1 => ?_
  obtain ⟨rfl, N1q, K1q, T1q⟩ := hQ1
  have N1 := Fr.app N0 N1q
  have Z2 := nt Z0 K1q.1
  have O2 := O0.keep K1q (allS g_a all0)
  have K2 := K0.trans K1q (allS (Or.inl (List.mem_of_getElem? (i := 0) rfl)) all0)
  refine gout (v := none) X1 Bd.notSynchronized (fun _ => rfl) (by decide) (by decide) ?_ (fun fs hr => X1.returnOut hx Bd.returns (hb hby d47_6) hr)
  exact ⟨rfl, N1, K2, T1q⟩
abbrev oc48 := jdk_67_method_42_code
theorem d48_0 : decode oc48 0 = .ok (.new 18, 3) := by decide +kernel
theorem d48_3 : decode oc48 3 = .ok (.dup, 1) := by decide +kernel
theorem d48_4 : decode oc48 4 = .ok (.aload_n 0, 1) := by decide +kernel
theorem d48_5 : decode oc48 5 = .ok (.invokespecial 137, 3) := by decide +kernel
theorem pd_744 : parseMethodDescriptor "(Ljava/lang/StringBuilder;)V" = some ⟨[(.object "java/lang/StringBuilder")], none⟩ := by decide +kernel
theorem d48_8 : decode oc48 8 = .ok (.areturn, 1) := by decide +kernel
theorem rm_ts (l : Launch) (Z : State) (a0 : Array Value) (hw : HW Z a0) (ws : List Jvm.Cond) (b : Addr) (t : Addr) (cs : List Int32) (z : Int32) (h0 : Heap) (n0 : Nat) (Z0 : n0 ≤ h0.size) (O0 : Old Z n0 h0) (B0 : BG Z h0 b t cs) (hc18 : cs.length ≤ 18) (S0 : PS3 Z (.int z)) (hz : ¬ z = 0) :
    Ctr l Z (⟨"java/lang/StringBuilder", "toString", "()Ljava/lang/String;"⟩ : MethodName) jdk_67_method_42_code 1 ((Option.some (Jvm.ClassFile.FieldType.object "java/lang/String"))) ws (⟨5, 2, 204, 79⟩ : Room) #[(.ref b)] h0 (fun v h L => ∃ a : Addr, v = some (.ref a) ∧ Fr n0 L ∧ Keep h0 h [] ∧ SG Z h a cs) := by
  refine Ctr.go (plainFor_of_name pn_440) fun p e s m below meth c s₁ Bd hx hby hml hZ hown hnm X0 e0 => ?_
  have N0 := Fr.nil n0
  have K0 := Keep.refl h0 []
  refine gs (S' := s₁.setTop (mkF m 0 #[rv b] [])) (fun tg kg => castTop (ef_148 m b) kg) ?_
  have E_b := B0.exa
  obtain ⟨T1, h1, X1, e1, E1, A1, D1, -, st1⟩ := newO X0 hx hZ hown (ow hw 162 rfl) (ow hw 5 rfl) (ow hw 6 rfl) e0 (g := (mkF m 0 #[rv b] [])) rfl (hb hby d48_0) (by decide) (by decide)
  obtain ⟨b1, q1⟩ : ∃ z, z = h0.size := ⟨_, rfl⟩
  rw [← q1] at A1 D1 st1
  have g_b1 : n0 ≤ b1 := nt Z0 (Nat.le_of_eq q1.symm)
  have sz_b1 : h0.size ≤ b1 := nt K0.1 (Nat.le_of_eq q1.symm)
  have Z2 := nt Z0 E1.1
  have O2 := O0.ext E1
  have K2 := K0.ext E1
  have F_coder_b1 : Fld Z h1 b1 "java/lang/String" "coder" "B" (.int (0 : Int32)) := D1 (Or.inr (ow hw 31 rfl)) (ty := .byte) (by decide)
  have F_value_b1 : Fld Z h1 b1 "java/lang/String" "value" "[B" .null := D1 (Or.inr (ow hw 33 rfl)) (ty := (.array .byte)) (by decide)
  refine gs (S' := T1.setTop (mkF m 3 #[rv b] [(.ref b1)])) st1 ?_
  refine gs (fun _ k => jP X1 hx hby d48_3 rfl (ja X1 hx hby d48_4 rfl rfl k)) ?_
  have f3 := (B0.ext E1)
  refine cI (rest := [(.ref b1)]) X1 hx hZ hown rfl (ow hw 163 rfl) (ow hw 164 rfl) (ow hw 6 rfl) (ow hw 165 rfl) (rm_is l Z a0 hw [] b1 b t cs z h1 n0 Z2 O2 A1 F_value_b1 F_coder_b1 g_b1 f3 hc18 S0 hz) hby d48_5 e1 pd_744 1 (by rw [hml]; rfl) rfl rfl rfl rfl (by decide) (by decide) fun _ T4 Lc4 X4 hQ4 => ?_
  obtain ⟨rfl, N4q, K4q, T4q⟩ := hQ4
  have N4 := Fr.app N0 N4q
  have Z5 := nt Z2 K4q.1
  have O5 := O2.keep K4q (allS g_b1 all0)
  have K5 := K2.trans K4q (allS (Or.inr sz_b1) all0)
  refine gout (v := some (.ref b1)) X4 Bd.notSynchronized (fun h => by rw [Bd.returns] at h; cases h) (by decide) (by decide) ?_ (fun fs hr => retOut X4 hx Bd.returns rfl (Or.inr (Or.inr (Or.inr (Or.inr ⟨rfl, rfl, rfl⟩)))) (hb hby d48_8) hr)
  exact ⟨_, rfl, N4, K5, T4q⟩
abbrev oc49 := jdk_52_method_14_code
theorem d49_0 : decode oc49 0 = .ok (.iload_n 2, 1) := by decide +kernel
theorem d49_1 : decode oc49 1 = .ok (.invokestatic 107, 3) := by decide +kernel
theorem d49_4 : decode oc49 4 = .ok (.astore_n 3, 1) := by decide +kernel
theorem d49_5 : decode oc49 5 = .ok (.iconst 0, 1) := by decide +kernel
theorem d49_6 : decode oc49 6 = .ok (.istore 4, 2) := by decide +kernel
theorem d49_8 : decode oc49 8 = .ok (.iload 4, 2) := by decide +kernel
theorem d49_10 : decode oc49 10 = .ok (.iload_n 2, 1) := by decide +kernel
theorem d49_11 : decode oc49 11 = .ok (.if_icmp .ge 21, 3) := by decide +kernel
theorem d49_14 : decode oc49 14 = .ok (.aload_n 3, 1) := by decide +kernel
theorem d49_15 : decode oc49 15 = .ok (.iload 4, 2) := by decide +kernel
theorem d49_17 : decode oc49 17 = .ok (.aload_n 0, 1) := by decide +kernel
theorem d49_18 : decode oc49 18 = .ok (.iload_n 1, 1) := by decide +kernel
theorem d49_19 : decode oc49 19 = .ok (.caload, 1) := by decide +kernel
theorem d49_20 : decode oc49 20 = .ok (.invokestatic 111, 3) := by decide +kernel
theorem d49_23 : decode oc49 23 = .ok (.iinc 1 1, 3) := by decide +kernel
theorem d49_26 : decode oc49 26 = .ok (.iinc 4 1, 3) := by decide +kernel
theorem d49_29 : decode oc49 29 = .ok (.goto (-21), 3) := by decide +kernel
theorem d49_32 : decode oc49 32 = .ok (.aload_n 3, 1) := by decide +kernel
theorem d49_33 : decode oc49 33 = .ok (.areturn, 1) := by decide +kernel
theorem rm_tb16_1 (l : Launch) (Z : State) (a0 : Array Value) (hw : HW Z a0) (ws : List Jvm.Cond) (b : Addr) (kc : ClassId) (ch0 : Int32) (h0 : Heap) (n0 : Nat) (Z0 : n0 ≤ h0.size) (O0 : Old Z n0 h0) (V_b : Arv Z h0 b kc .char (1 : Int32) [(.int ch0)] (.int (0 : Int32))) (S_ad : PS0 Z (.int (1 : Int32))) (S_hi : PS1 Z (.int (0 : Int32))) (S_lo : PS2 Z (.int (8 : Int32))) :
    Ctr l Z my6 jdk_52_method_14_code 5 ((Option.some (Jvm.ClassFile.FieldType.array Jvm.ClassFile.FieldType.byte))) ws (⟨2, 1, 200, 24⟩ : Room) #[(.ref b), (.int (0 : Int32)), (.int (1 : Int32))] h0 (fun v h L => ∃ (t1 : Addr) (k1 : ClassId), v = some (.ref t1) ∧ Fr n0 L ∧ Keep h0 h [] ∧ h0.size ≤ t1 ∧ Exa Z h t1 "[B" ∧ Arv Z h t1 k1 .byte (oI 2) (jq [ch0]) (.int (0 : Int32))) := by
  refine Ctr.go (plainFor_of_name pn_195) fun p e s m below meth c s₁ Bd hx hby hml hZ hown hnm X0 e0 => ?_
  have N0 := Fr.nil n0
  have K0 := Keep.refl h0 []
  refine gs (S' := s₁.setTop (mkF m 0 #[rv b, iv (0 : Int32), iv (1 : Int32), uu, uu] [])) (fun tg kg => castTop (ef_646 m b (0 : Int32) (1 : Int32)) kg) ?_
  refine gs (fun _ k => jb X0 hx hby d49_0 rfl k) ?_
  refine cS (rest := []) X0 hx hZ hown (ow hw 247 rfl) (ow hw 248 rfl) (ow hw 21 rfl) (ow hw 249 rfl) (rm_nbf l Z a0 hw [] 1 h0 n0 Z0 O0 (by decide)) hby d49_1 e0 pd_364 0 (by rw [hml]; rfl) rfl rfl rfl rfl (by decide) (by decide) fun _ T1 Lc1 X1 hQ1 => ?_
  obtain ⟨t1, kb1, rfl, N1q, K1q, g1t, E1t, V1q⟩ := hQ1
  have N1 := Fr.app N0 N1q
  have g_t1 : n0 ≤ t1 := nt Z0 g1t
  have sz_t1 : h0.size ≤ t1 := nt K0.1 g1t
  have Z2 := nt Z0 K1q.1
  have O2 := O0.keep K1q all0
  have K2 := K0.trans K1q all0
  refine gs (fun _ k => jw X1 hx hby d49_4 rfl rfl (je (v := (0 : Int32)) X1 hx hby d49_5 (jj X1 hx hby d49_6 rfl (jd X1 hx hby d49_8 rfl (jb X1 hx hby d49_10 rfl (ji X1 hx hby d49_11 (tlt (by decide : (0 : Int32) < (1 : Int32))).2.1 (ja X1 hx hby d49_14 rfl rfl (jd X1 hx hby d49_15 rfl (ja X1 hx hby d49_17 rfl rfl (jb X1 hx hby d49_18 rfl k)))))))))) ?_
  have f3 := (V_b.keep K1q nin0)
  obtain ⟨cl4, A4, a4q, a4S, a4N, a4H, a4G⟩ := id f3
  have hi4 := inb_of a4S (j := (0 : Int32)) ⟨by decide, by decide⟩
  refine gs (fun _ k => X1.caload hx (j := (0 : Int32)) (v := (.int ch0)) A4.1 (State.isArrayOf_alike hZ.alike A4.2.1) A4.2.2 hi4 (Has.at a4H hi4 rfl) (g := (mkF m 19 #[rv b, iv (0 : Int32), iv (1 : Int32), rv t1, iv (0 : Int32)] [(.int (0 : Int32)), (.ref b), (.int (0 : Int32)), (.ref t1)])) rfl rfl (hb hby d49_19) _ k) ?_
  refine cS (rest := []) X1 hx hZ hown (ow hw 254 rfl) (ow hw 255 rfl) (ow hw 21 rfl) (ow hw 256 rfl) (rm_pc l Z a0 hw [] t1 kb1 ([] : List Int32) ch0 (0 : Int32) 2 T1.heap n0 Z2 O2 V1q g_t1 rfl (nb rfl) (by decide) S_ad S_hi S_lo) hby d49_20 rfl pd_267 0 (by rw [hml]; rfl) rfl rfl rfl rfl (by decide) (by decide) fun _ T5 Lc5 X5 hQ5 => ?_
  obtain ⟨rfl, N5q, K5q, V5q⟩ := hQ5
  have N5 := Fr.app N1 N5q
  have Z6 := nt Z2 K5q.1
  have O6 := O2.keep K5q (allS g_t1 all0)
  have K6 := K2.trans K5q (allS (Or.inr sz_t1) all0)
  refine gs (fun _ k => jm X5 hx hby d49_23 rfl rfl (jm X5 hx hby d49_26 rfl rfl (jl (pc' := 8) X5 hx hby d49_29 (jd X5 hx hby d49_8 rfl (jb X5 hx hby d49_10 rfl (jh (pc' := 32) X5 hx hby d49_11 (flt (by decide : ¬ ((1 : Int32) < (1 : Int32)))).2.1 (ja X5 hx hby d49_32 rfl rfl k))))))) ?_
  have f7 := (E1t.keep K5q)
  refine gout (v := some (.ref t1)) X5 Bd.notSynchronized (fun h => by rw [Bd.returns] at h; cases h) (by decide) (by decide) ?_ (fun fs hr => retOut X5 hx Bd.returns rfl (Or.inr (Or.inr (Or.inr (Or.inr ⟨rfl, rfl, rfl⟩)))) (hb hby d49_33) hr)
  exact ⟨_, _, rfl, N5, K6, sz_t1, f7, V5q⟩
theorem ef_767 (m : MethodId) (x0 : Addr) (x1 : Int32) (x2 : Addr) (x3 : Int32) (x4 : Int32) : entryFrame m #[(.ref x0), (.int x1), (.ref x2), (.int x3), (.int x4)] 7 = mkF m 0 #[.val (.ref x0), .val (.int x1), .val (.ref x2), .val (.int x3), .val (.int x4), .unset, .unset] [] := by first | (simp [entryFrame, mkF, argsToLocals, Value.category]; done) | rfl
abbrev oc50 := jdk_52_method_21_code
theorem d50_0 : decode oc50 0 = .ok (.iconst 0, 1) := by decide +kernel
theorem d50_1 : decode oc50 1 = .ok (.istore 5, 2) := by decide +kernel
theorem d50_3 : decode oc50 3 = .ok (.iload 5, 2) := by decide +kernel
theorem d50_5 : decode oc50 5 = .ok (.iload 4, 2) := by decide +kernel
theorem d50_7 : decode oc50 7 = .ok (.if_icmp .ge 37, 3) := by decide +kernel
theorem d50_10 : decode oc50 10 = .ok (.aload_n 0, 1) := by decide +kernel
theorem d50_11 : decode oc50 11 = .ok (.iload_n 1, 1) := by decide +kernel
theorem d50_12 : decode oc50 12 = .ok (.caload, 1) := by decide +kernel
theorem d50_13 : decode oc50 13 = .ok (.istore 6, 2) := by decide +kernel
theorem d50_15 : decode oc50 15 = .ok (.iload 6, 2) := by decide +kernel
theorem d50_17 : decode oc50 17 = .ok (.sipush 255, 3) := by decide +kernel
theorem d50_20 : decode oc50 20 = .ok (.if_icmp .le 6, 3) := by decide +kernel
theorem d50_23 : decode oc50 23 = .ok (.iload 5, 2) := by decide +kernel
theorem d50_25 : decode oc50 25 = .ok (.ireturn, 1) := by decide +kernel
theorem rm_cp5_10 (l : Launch) (Z : State) (a0 : Array Value) (hw : HW Z a0) (ws : List Jvm.Cond) (b : Addr) (kc : ClassId) (t : Addr) (kb : ClassId) (ch0 : Int32) (h0 : Heap) (n0 : Nat) (Z0 : n0 ≤ h0.size) (O0 : Old Z n0 h0) (V_b : Arv Z h0 b kc .char (1 : Int32) [(.int ch0)] (.int (0 : Int32))) (V_t : Arv Z h0 t kb .byte (1 : Int32) [(.int (0 : Int32))] (.int (0 : Int32))) (g_t : n0 ≤ t) (hbt : b ≠ t) (dq0 : (255 : Int32) < ch0) :
    Ctr l Z my1 jdk_52_method_21_code 7 ((Option.some Jvm.ClassFile.FieldType.int)) ws (⟨0, 0, 0, 0⟩ : Room) #[(.ref b), (.int (0 : Int32)), (.ref t), (.int (0 : Int32)), (.int (1 : Int32))] h0 (fun v h L => v = some (.int (0 : Int32)) ∧ Fr n0 L ∧ Keep h0 h [t]) := by
  refine Ctr.go (plainFor_of_name pn_195) fun p e s m below meth c s₁ Bd hx hby hml hZ hown hnm X0 e0 => ?_
  have N0 := Fr.nil n0
  have K0 := Keep.refl h0 [t]
  refine gs (S' := s₁.setTop (mkF m 0 #[rv b, iv (0 : Int32), rv t, iv (0 : Int32), iv (1 : Int32), uu, uu] [])) (fun tg kg => castTop (ef_767 m b (0 : Int32) t (0 : Int32) (1 : Int32)) kg) ?_
  refine gs (fun _ k => je (v := (0 : Int32)) X0 hx hby d50_0 (jj X0 hx hby d50_1 rfl (jd X0 hx hby d50_3 rfl (jd X0 hx hby d50_5 rfl (ji X0 hx hby d50_7 (tlt (by decide : (0 : Int32) < (1 : Int32))).2.1 (ja X0 hx hby d50_10 rfl rfl (jb X0 hx hby d50_11 rfl k))))))) ?_
  obtain ⟨cl1, A1, a1q, a1S, a1N, a1H, a1G⟩ := id V_b
  have hi1 := inb_of a1S (j := (0 : Int32)) ⟨by decide, by decide⟩
  refine gs (fun _ k => X0.caload hx (j := (0 : Int32)) (v := (.int ch0)) (by rw [e0]; exact A1.1) (State.isArrayOf_alike hZ.alike A1.2.1) A1.2.2 hi1 (Has.at a1H hi1 rfl) (g := (mkF m 12 #[rv b, iv (0 : Int32), rv t, iv (0 : Int32), iv (1 : Int32), iv (0 : Int32), uu] [(.int (0 : Int32)), (.ref b)])) rfl rfl (hb hby d50_12) _ (jj X0 hx hby d50_13 rfl (jd X0 hx hby d50_15 rfl (XS.sipush X0.here hx rfl (hb hby d50_17) (ji X0 hx hby d50_20 (tlt dq0).2.2.2 (jd X0 hx hby d50_23 rfl k)))))) ?_
  refine gout (v := some (.int (0 : Int32))) X0 Bd.notSynchronized (fun h => by rw [Bd.returns] at h; cases h) (by decide) (by decide) ?_ (fun fs hr => retI X0 hx Bd.returns (hb hby d50_25) hr)
  rw [e0]
  exact ⟨rfl, N0, K0⟩
theorem ef_783 (m : MethodId) (x0 : Addr) (x1 : Int32) (x2 : Int32) : entryFrame m #[(.ref x0), (.int x1), (.int x2)] 6 = mkF m 0 #[.val (.ref x0), .val (.int x1), .val (.int x2), .unset, .unset, .unset] [] := by first | (simp [entryFrame, mkF, argsToLocals, Value.category]; done) | rfl
abbrev oc51 := jdk_52_method_16_code
theorem d51_0 : decode oc51 0 = .ok (.iload_n 2, 1) := by decide +kernel
theorem d51_1 : decode oc51 1 = .ok (.newarray .byte, 2) := by decide +kernel
theorem d51_3 : decode oc51 3 = .ok (.astore_n 3, 1) := by decide +kernel
theorem d51_4 : decode oc51 4 = .ok (.aload_n 0, 1) := by decide +kernel
theorem d51_5 : decode oc51 5 = .ok (.iload_n 1, 1) := by decide +kernel
theorem d51_6 : decode oc51 6 = .ok (.aload_n 3, 1) := by decide +kernel
theorem d51_7 : decode oc51 7 = .ok (.iconst 0, 1) := by decide +kernel
theorem d51_8 : decode oc51 8 = .ok (.iload_n 2, 1) := by decide +kernel
theorem d51_9 : decode oc51 9 = .ok (.invokestatic 115, 3) := by decide +kernel
theorem pd_794 : parseMethodDescriptor "([CI[BII)I" = some ⟨[(.array .char), .int, (.array .byte), .int, .int], some .int⟩ := by decide +kernel
theorem d51_12 : decode oc51 12 = .ok (.istore 4, 2) := by decide +kernel
theorem d51_14 : decode oc51 14 = .ok (.iload 4, 2) := by decide +kernel
theorem d51_16 : decode oc51 16 = .ok (.iload_n 2, 1) := by decide +kernel
theorem d51_17 : decode oc51 17 = .ok (.if_icmp .eq 40, 3) := by decide +kernel
theorem d51_20 : decode oc51 20 = .ok (.aload_n 0, 1) := by decide +kernel
theorem d51_21 : decode oc51 21 = .ok (.iload_n 1, 1) := by decide +kernel
theorem d51_22 : decode oc51 22 = .ok (.iload_n 2, 1) := by decide +kernel
theorem d51_23 : decode oc51 23 = .ok (.invokestatic 119, 3) := by decide +kernel
theorem pd_803 : parseMethodDescriptor "([CII)[B" = some ⟨[(.array .char), .int, .int], some (.array .byte)⟩ := by decide +kernel
theorem d51_26 : decode oc51 26 = .ok (.astore 5, 2) := by decide +kernel
theorem d51_28 : decode oc51 28 = .ok (.aload 5, 2) := by decide +kernel
theorem d51_30 : decode oc51 30 = .ok (.iload 4, 2) := by decide +kernel
theorem d51_32 : decode oc51 32 = .ok (.invokestatic 71, 3) := by decide +kernel
theorem d51_35 : decode oc51 35 = .ok (.sipush 255, 3) := by decide +kernel
theorem d51_38 : decode oc51 38 = .ok (.if_icmp .gt 16, 3) := by decide +kernel
theorem d51_54 : decode oc51 54 = .ok (.aload 5, 2) := by decide +kernel
theorem d51_56 : decode oc51 56 = .ok (.areturn, 1) := by decide +kernel
theorem rm_cp3_10 (l : Launch) (Z : State) (a0 : Array Value) (hw : HW Z a0) (ws : List Jvm.Cond) (b : Addr) (kc : ClassId) (ch0 : Int32) (h0 : Heap) (n0 : Nat) (Z0 : n0 ≤ h0.size) (O0 : Old Z n0 h0) (V_b : Arv Z h0 b kc .char (1 : Int32) [(.int ch0)] (.int (0 : Int32))) (dq0 : (255 : Int32) < ch0) (bq0 : ¬ ch0 < 0 ∧ ¬ (65535 : Int32) < ch0) (S_ad : PS0 Z (.int (1 : Int32))) (S_hi : PS1 Z (.int (0 : Int32))) (S_lo : PS2 Z (.int (8 : Int32))) :
    Ctr l Z my2 jdk_52_method_16_code 6 ((Option.some (Jvm.ClassFile.FieldType.array Jvm.ClassFile.FieldType.byte))) ws (⟨3, 2, 201, 40⟩ : Room) #[(.ref b), (.int (0 : Int32)), (.int (1 : Int32))] h0 (fun v h L => ∃ (t1 : Addr) (k1 : ClassId), v = some (.ref t1) ∧ Fr n0 L ∧ Keep h0 h [] ∧ h0.size ≤ t1 ∧ Arv Z h t1 k1 .byte (2 : Int32) (jq [ch0]) (.int (0 : Int32))) := by
  refine Ctr.go (plainFor_of_name pn_195) fun p e s m below meth c s₁ Bd hx hby hml hZ hown hnm X0 e0 => ?_
  have N0 := Fr.nil n0
  have K0 := Keep.refl h0 []
  refine gs (S' := s₁.setTop (mkF m 0 #[rv b, iv (0 : Int32), iv (1 : Int32), uu, uu, uu] [])) (fun tg kg => castTop (ef_783 m b (0 : Int32) (1 : Int32)) kg) ?_
  refine gs (fun _ k => jb X0 hx hby d51_0 rfl k) ?_
  obtain ⟨T1, h1, k1, X1, e1, E1, A1, st1⟩ := newP X0 hx hZ (ow hw 23 rfl) e0 (g := (mkF m 1 #[rv b, iv (0 : Int32), iv (1 : Int32), uu, uu, uu] [(.int (1 : Int32))])) rfl (hb hby d51_1) rfl (by decide) (cap := 1) (by decide) (by decide) (by decide) (by decide)
  obtain ⟨b1, q1⟩ : ∃ z, z = h0.size := ⟨_, rfl⟩
  rw [← q1] at A1 st1
  have g_b1 : n0 ≤ b1 := nt Z0 (Nat.le_of_eq q1.symm)
  have sz_b1 : h0.size ≤ b1 := nt K0.1 (Nat.le_of_eq q1.symm)
  have Z2 := nt Z0 E1.1
  have O2 := O0.ext E1
  have K2 := K0.ext E1
  have V1 : Arv Z h1 b1 k1 .byte (1 : Int32) [(.int (0 : Int32))] (.int (0 : Int32)) := (Arv.new A1 (by decide)).pad (pad_rep [] (.int (0 : Int32)) 1)
  refine gs (S' := T1.setTop (mkF m 3 #[rv b, iv (0 : Int32), iv (1 : Int32), uu, uu, uu] [(.ref b1)])) st1 ?_
  refine gs (fun _ k => jw X1 hx hby d51_3 rfl rfl (ja X1 hx hby d51_4 rfl rfl (jb X1 hx hby d51_5 rfl (ja X1 hx hby d51_6 rfl rfl (je (v := (0 : Int32)) X1 hx hby d51_7 (jb X1 hx hby d51_8 rfl k)))))) ?_
  have f3 := (V_b.ext E1)
  refine cS (rest := []) X1 hx hZ hown (ow hw 24 rfl) (ow hw 25 rfl) (ow hw 21 rfl) (ow hw 26 rfl) (rm_cp5_10 l Z a0 hw [] b kc b1 k1 ch0 h1 n0 Z2 O2 f3 V1 g_b1 (nw (nu (nu V_b.lt (Nat.le_refl _)) (Nat.le_of_eq q1.symm))) dq0) hby d51_9 e1 pd_794 0 (by rw [hml]; rfl) rfl rfl rfl rfl (by decide) (by decide) fun _ T4 Lc4 X4 hQ4 => ?_
  obtain ⟨rfl, N4q, K4q⟩ := hQ4
  have N4 := Fr.app N0 N4q
  have Z5 := nt Z2 K4q.1
  have O5 := O2.keep K4q (allS g_b1 all0)
  have K5 := K2.trans K4q (allS (Or.inr sz_b1) all0)
  refine gs (fun _ k => jj X4 hx hby d51_12 rfl (jd X4 hx hby d51_14 rfl (jb X4 hx hby d51_16 rfl (ji X4 hx hby d51_17 (feq (by decide : ¬ ((0 : Int32) = (1 : Int32)))).1 (ja X4 hx hby d51_20 rfl rfl (jb X4 hx hby d51_21 rfl (jb X4 hx hby d51_22 rfl k))))))) ?_
  have f6 := (f3.keep K4q (ninS (nw (nu (nu V_b.lt (Nat.le_refl _)) (Nat.le_of_eq q1.symm))) nin0))
  refine cS (rest := []) X4 hx hZ hown (ow hw 244 rfl) (ow hw 245 rfl) (ow hw 21 rfl) (ow hw 246 rfl) (rm_tb16_1 l Z a0 hw [] b kc ch0 T4.heap n0 Z5 O5 f6 S_ad S_hi S_lo) hby d51_23 rfl pd_803 0 (by rw [hml]; rfl) rfl rfl rfl rfl (by decide) (by decide) fun _ T7 Lc7 X7 hQ7 => ?_
  obtain ⟨t7, kb7, rfl, N7q, K7q, g7t, E7t, V7q⟩ := hQ7
  have N7 := Fr.app N4 N7q
  have g_t7 : n0 ≤ t7 := nt Z5 g7t
  have sz_t7 : h0.size ≤ t7 := nt K5.1 g7t
  have Z8 := nt Z5 K7q.1
  have O8 := O5.keep K7q all0
  have K8 := K5.trans K7q all0
  refine gs (fun _ k => jo X7 hx hby d51_26 rfl rfl (jf X7 hx hby d51_28 rfl rfl (jd X7 hx hby d51_30 rfl k))) ?_
  refine cS (rest := []) X7 hx hZ hown (ow hw 260 rfl) (ow hw 261 rfl) (ow hw 21 rfl) (ow hw 262 rfl) (rm_gc l Z a0 hw [] t7 kb7 ([ch0] : List Int32) 0 2 T7.heap n0 Z8 O8 V7q (nb rfl) (nb rfl) (by decide) bq0 S_ad S_hi S_lo) hby d51_32 rfl pd_493 0 (by rw [hml]; rfl) rfl rfl rfl rfl (by decide) (by decide) fun _ T9 Lc9 X9 hQ9 => ?_
  obtain ⟨rfl, N9q, e9q⟩ := hQ9
  have N9 := Fr.app N7 N9q
  refine gs (fun _ k => XS.sipush X9.here hx rfl (hb hby d51_35) (jh (pc' := 54) X9 hx hby d51_38 (tlt dq0).2.2.1 (jf X9 hx hby d51_54 rfl rfl k))) ?_
  refine gout (v := some (.ref t7)) X9 Bd.notSynchronized (fun h => by rw [Bd.returns] at h; cases h) (by decide) (by decide) ?_ (fun fs hr => retOut X9 hx Bd.returns rfl (Or.inr (Or.inr (Or.inr (Or.inr ⟨rfl, rfl, rfl⟩)))) (hb hby d51_56) hr)
  rw [e9q]
  exact ⟨_, _, rfl, N9, K8, sz_t7, V7q⟩
abbrev oc52 := jdk_52_method_15_code
theorem d52_0 : decode oc52 0 = .ok (.iload_n 1, 1) := by decide +kernel
theorem d52_1 : decode oc52 1 = .ok (.aload_n 0, 1) := by decide +kernel
theorem d52_2 : decode oc52 2 = .ok (.arraylength, 1) := by decide +kernel
theorem d52_3 : decode oc52 3 = .ok (.isub, 1) := by decide +kernel
theorem d52_4 : decode oc52 4 = .ok (.bipush 31, 2) := by decide +kernel
theorem d52_6 : decode oc52 6 = .ok (.iushr, 1) := by decide +kernel
theorem d52_7 : decode oc52 7 = .ok (.i2b, 1) := by decide +kernel
theorem d52_8 : decode oc52 8 = .ok (.ireturn, 1) := by decide +kernel
theorem rm_cfl10 (l : Launch) (Z : State) (a0 : Array Value) (hw : HW Z a0) (ws : List Jvm.Cond) (t : Addr) (kb : ClassId) (vs : List Value) (h0 : Heap) (n0 : Nat) (Z0 : n0 ≤ h0.size) (O0 : Old Z n0 h0) (V_t : Arv Z h0 t kb .byte (2 : Int32) vs (.int (0 : Int32))) :
    Ctr l Z my3 jdk_52_method_15_code 2 ((Option.some Jvm.ClassFile.FieldType.byte)) ws (⟨0, 0, 0, 0⟩ : Room) #[(.ref t), (.int (1 : Int32))] h0 (fun v h L => v = some (.int (1 : Int32)) ∧ Fr n0 L ∧ h = h0) := by
  refine Ctr.go (plainFor_of_name pn_195) fun p e s m below meth c s₁ Bd hx hby hml hZ hown hnm X0 e0 => ?_
  have N0 := Fr.nil n0
  have K0 := Keep.refl h0 []
  refine gs (S' := s₁.setTop (mkF m 0 #[rv t, iv (1 : Int32)] [])) (fun tg kg => castTop (ef_196 m t (1 : Int32)) kg) ?_
  refine gs (fun _ k => jb X0 hx hby d52_0 rfl (ja X0 hx hby d52_1 rfl rfl k)) ?_
  obtain ⟨cl1, A1, a1q, a1S, a1N, a1H, a1G⟩ := id V_t
  refine gs (S' := s₁.setTop (mkF m 3 #[rv t, iv (1 : Int32)] [(.int (2 : Int32)), (.int (1 : Int32))])) (fun _ k => by refine X0.arraylength hx (by rw [e0]; exact A1.1) (State.isArrayOf_alike hZ.alike A1.2.1) (g := (mkF m 2 #[rv t, iv (1 : Int32)] [(.ref t), (.int (1 : Int32))])) rfl rfl (hb hby d52_2) _ ?_; rw [len_of a1S a1N]; exact k) ?_
  refine gs (fun _ k => jO X0 hx hby d52_3 (jr (v := (31 : Int32)) X0 hx hby d52_4 (o_iushr X0 hx hby d52_6 (jN X0 hx hby d52_7 k)))) ?_
  refine gout (v := some (.int (1 : Int32))) X0 Bd.notSynchronized (fun h => by rw [Bd.returns] at h; cases h) (by decide) (by decide) ?_ (fun fs hr => retN X0 hx (t := .byte) Bd.returns (by simp) (hb hby d52_8) hr)
  rw [e0]
  exact ⟨rfl, N0, rfl⟩
theorem d0_27 : decode oc0 27 = .ok (.getstatic 38, 3) := by decide +kernel
theorem d0_30 : decode oc0 30 = .ok (.ifCond .eq 28, 3) := by decide +kernel
theorem d0_33 : decode oc0 33 = .ok (.aload_n 1, 1) := by decide +kernel
theorem d0_34 : decode oc0 34 = .ok (.iload_n 2, 1) := by decide +kernel
theorem d0_35 : decode oc0 35 = .ok (.iload_n 3, 1) := by decide +kernel
theorem d0_36 : decode oc0 36 = .ok (.invokestatic 177, 3) := by decide +kernel
theorem d0_39 : decode oc0 39 = .ok (.astore 5, 2) := by decide +kernel
theorem d0_41 : decode oc0 41 = .ok (.aload_n 0, 1) := by decide +kernel
theorem d0_42 : decode oc0 42 = .ok (.aload 5, 2) := by decide +kernel
theorem d0_44 : decode oc0 44 = .ok (.iload_n 3, 1) := by decide +kernel
theorem d0_45 : decode oc0 45 = .ok (.invokestatic 47, 3) := by decide +kernel
theorem pd_834 : parseMethodDescriptor "([BI)B" = some ⟨[(.array .byte), .int], some .byte⟩ := by decide +kernel
theorem d0_48 : decode oc0 48 = .ok (.putfield 15, 3) := by decide +kernel
theorem d0_51 : decode oc0 51 = .ok (.aload_n 0, 1) := by decide +kernel
theorem d0_52 : decode oc0 52 = .ok (.aload 5, 2) := by decide +kernel
theorem d0_54 : decode oc0 54 = .ok (.putfield 9, 3) := by decide +kernel
theorem d0_57 : decode oc0 57 = .ok (.return_, 1) := by decide +kernel
theorem rm_si4_10 (l : Launch) (Z : State) (a0 : Array Value) (hw : HW Z a0) (ws : List Jvm.Cond) (a : Addr) (b : Addr) (kc : ClassId) (ch0 : Int32) (z : Int32) (h0 : Heap) (n0 : Nat) (Z0 : n0 ≤ h0.size) (O0 : Old Z n0 h0) (E_a : Exa Z h0 a "java/lang/String") (F_va : Fld Z h0 a "java/lang/String" "value" "[B" .null) (F_ca : Fld Z h0 a "java/lang/String" "coder" "B" (.int (0 : Int32))) (g_a : n0 ≤ a) (V_b : Arv Z h0 b kc .char (1 : Int32) [(.int ch0)] (.int (0 : Int32))) (dq0 : (255 : Int32) < ch0) (bq0 : ¬ ch0 < 0 ∧ ¬ (65535 : Int32) < ch0) (S_ad : PS0 Z (.int (1 : Int32))) (S_hi : PS1 Z (.int (0 : Int32))) (S_lo : PS2 Z (.int (8 : Int32))) (S0 : PS3 Z (.int z)) (hz : ¬ z = 0) :
    Ctr l Z my0 jdk_42_method_149_code 6 ((Option.none : Option Jvm.ClassFile.FieldType)) ws (⟨4, 2, 201, 57⟩ : Room) #[(.ref a), (.ref b), (.int (0 : Int32)), (.int (1 : Int32)), .null] h0 (fun v h L => v = none ∧ Fr n0 L ∧ Keep h0 h [a] ∧ SG Z h a [ch0]) := by
  refine Ctr.go (plainFor_of_name pn_15) fun p e s m below meth c s₁ Bd hx hby hml hZ hown hnm X0 e0 => ?_
  have N0 := Fr.nil n0
  have K0 := Keep.refl h0 [a]
  refine gs (S' := s₁.setTop (mkF m 0 #[rv a, rv b, iv (0 : Int32), iv (1 : Int32), .val .null, uu] [])) (fun tg kg => castTop (ef_0 m a b (0 : Int32) (1 : Int32)) kg) ?_
  refine gs (fun _ k => ja X0 hx hby d0_0 rfl rfl k) ?_
  obtain ⟨T1, X1, e1, st1⟩ := initO X0 hx hZ hown (ow hw 15 rfl) (ow hw 16 rfl) (ow hw 17 rfl) e0 (g := (mkF m 1 #[rv a, rv b, iv (0 : Int32), iv (1 : Int32), .val .null, uu] [(.ref a)])) rfl (by rw [hml]; rfl) rfl (hb hby d0_1) (by decide) (W := 0) (jK rfl) (by decide)
  refine gs (S' := T1.setTop (mkF m 4 #[rv a, rv b, iv (0 : Int32), iv (1 : Int32), .val .null, uu] [])) st1 ?_
  refine gs (fun _ k => jb X1 hx hby d0_4 rfl (jt (pc' := 27) X1 hx hby d0_5 ((if0 _ _).trans (feq (by decide : ¬ ((1 : Int32) = (0 : Int32)))).2) k)) ?_
  refine gS X1 hx hZ hown (host := "") (Or.inl (ow hw 18 rfl)) Via.refl e1 (S0.ext O0.2) hby d0_27 fun T2 X2 e2 => ?_
  refine gs (fun _ k => jn X2 hx hby d0_30 ((if0 _ _).trans (feq hz).1) (ja X2 hx hby d0_33 rfl rfl (jb X2 hx hby d0_34 rfl (jb X2 hx hby d0_35 rfl k)))) ?_
  refine cS (rest := []) X2 hx hZ hown (ow hw 19 rfl) (ow hw 20 rfl) (ow hw 21 rfl) (ow hw 22 rfl) (rm_cp3_10 l Z a0 hw [] b kc ch0 h0 n0 Z0 O0 V_b dq0 bq0 S_ad S_hi S_lo) hby d0_36 e2 pd_803 0 (by rw [hml]; rfl) rfl rfl rfl rfl (by decide) (by decide) fun _ T3 Lc3 X3 hQ3 => ?_
  obtain ⟨t3, kb3, rfl, N3q, K3q, g3t, V3q⟩ := hQ3
  have N3 := Fr.app N0 N3q
  have g_t3 : n0 ≤ t3 := nt Z0 g3t
  have sz_t3 : h0.size ≤ t3 := nt K0.1 g3t
  have Z4 := nt Z0 K3q.1
  have O4 := O0.keep K3q all0
  have K4 := K0.trans K3q all0
  refine gs (fun _ k => jo X3 hx hby d0_39 rfl rfl (ja X3 hx hby d0_41 rfl rfl (jf X3 hx hby d0_42 rfl rfl (jb X3 hx hby d0_44 rfl k)))) ?_
  refine cS (rest := [(.ref a)]) X3 hx hZ hown (ow hw 27 rfl) (ow hw 28 rfl) (ow hw 21 rfl) (ow hw 29 rfl) (rm_cfl10 l Z a0 hw [] t3 kb3 _ T3.heap n0 Z4 O4 V3q) hby d0_45 rfl pd_834 1 (by rw [hml]; rfl) rfl rfl rfl rfl (by decide) (by decide) fun _ T5 Lc5 X5 hQ5 => ?_
  obtain ⟨rfl, N5q, e5q⟩ := hQ5
  have N5 := Fr.app N3 N5q
  have f6 := (F_ca.keep K3q nin0)
  have f7 := (E_a.keep K3q)
  obtain ⟨T8, h8, X8, e8, W8, st8⟩ := putFN X5 hx hZ hown (ow hw 30 rfl) Via.refl e5q f6 f7 (Or.inr ⟨(ow hw 31 rfl), rfl, hnm⟩) (ow hw 5 rfl) (ty := .byte) (v' := (.int (1 : Int32))) (by decide) rfl rfl (g := (mkF m 48 #[rv a, rv b, iv (0 : Int32), iv (1 : Int32), .val .null, rv t3] [(.int (1 : Int32)), (.ref a)])) rfl rfl (hb hby d0_48)
  have N8 := Fr.snoc X8 N5 g_a
  have Fw8 := f6.same W8
  have Z9 := nt Z4 (Keep.of_wr W8).1
  have O9 := O4.wr W8 g_a
  have K9 := K4.wr W8 (Or.inl (List.mem_of_getElem? (i := 0) rfl))
  refine gs (S' := T8.setTop (mkF m 51 #[rv a, rv b, iv (0 : Int32), iv (1 : Int32), .val .null, rv t3] [])) st8 ?_
  refine gs (fun _ k => ja X8 hx hby d0_51 rfl rfl (jf X8 hx hby d0_52 rfl rfl k)) ?_
  have f10 := ((F_va.keep K3q nin0).other W8 (Or.inr (slot_ne (Or.inr (ow hw 33 rfl)) (Or.inr (ow hw 31 rfl)) (by decide) (t := (.array .byte)) (t' := .byte) (by decide) (by decide))))
  have f11 := (f7.wr W8)
  obtain ⟨T12, h12, X12, e12, W12, st12⟩ := putF X8 hx hZ hown (host := "") (Or.inl (ow hw 32 rfl)) Via.refl e8 f10 f11 (Or.inr ⟨(ow hw 33 rfl), rfl, hnm⟩) (ow hw 5 rfl) (ty := (.array .byte)) (by decide) rfl rfl (g := (mkF m 54 #[rv a, rv b, iv (0 : Int32), iv (1 : Int32), .val .null, rv t3] [(.ref t3), (.ref a)])) rfl rfl (hb hby d0_54)
  have N12 := Fr.snoc X12 N8 g_a
  have Fw12 := f10.same W12
  have Z13 := nt Z9 (Keep.of_wr W12).1
  have O13 := O9.wr W12 g_a
  have K13 := K9.wr W12 (Or.inl (List.mem_of_getElem? (i := 0) rfl))
  refine gs (S' := T12.setTop (mkF m 57 #[rv a, rv b, iv (0 : Int32), iv (1 : Int32), .val .null, rv t3] [])) st12 ?_
  have f14 := ((V3q.other W8 (Ne.symm (nw (nu (nu E_a.lt (Nat.le_refl _)) g3t)))).other W12 (Ne.symm (nw (nu (nu E_a.lt (Nat.le_refl _)) g3t))))
  have f15 := (f11.wr W12)
  have f16 := (Fw8.other W12 (Or.inr (slot_ne (Or.inr (ow hw 31 rfl)) (Or.inr (ow hw 33 rfl)) (by decide) (t := .byte) (t' := (.array .byte)) (by decide) (by decide))))
  refine gout (v := none) X12 Bd.notSynchronized (fun _ => rfl) (by decide) (by decide) ?_ (fun fs hr => X12.returnOut hx Bd.returns (hb hby d0_57) hr)
  rw [e12]
  exact ⟨rfl, N12, K13, _, _, 1, _, f15, f16, Fw12, by rw [jA]; exact f14, Or.inr ⟨rfl, rfl, (by intro c hc; simp only [List.mem_cons, List.not_mem_nil, or_false] at hc; rcases hc with rfl; exact bq0)⟩⟩
theorem d50_26 : decode oc50 26 = .ok (.aload_n 2, 1) := by decide +kernel
theorem d50_27 : decode oc50 27 = .ok (.iload_n 3, 1) := by decide +kernel
theorem d50_28 : decode oc50 28 = .ok (.iload 6, 2) := by decide +kernel
theorem d50_30 : decode oc50 30 = .ok (.i2b, 1) := by decide +kernel
theorem d50_31 : decode oc50 31 = .ok (.bastore, 1) := by decide +kernel
theorem d50_32 : decode oc50 32 = .ok (.iinc 1 1, 3) := by decide +kernel
theorem d50_35 : decode oc50 35 = .ok (.iinc 3 1, 3) := by decide +kernel
theorem d50_38 : decode oc50 38 = .ok (.iinc 5 1, 3) := by decide +kernel
theorem d50_41 : decode oc50 41 = .ok (.goto (-38), 3) := by decide +kernel
theorem d50_44 : decode oc50 44 = .ok (.iload 4, 2) := by decide +kernel
theorem d50_46 : decode oc50 46 = .ok (.ireturn, 1) := by decide +kernel
theorem rm_cp5_11 (l : Launch) (Z : State) (a0 : Array Value) (hw : HW Z a0) (ws : List Jvm.Cond) (b : Addr) (kc : ClassId) (t : Addr) (kb : ClassId) (ch0 : Int32) (h0 : Heap) (n0 : Nat) (Z0 : n0 ≤ h0.size) (O0 : Old Z n0 h0) (V_b : Arv Z h0 b kc .char (1 : Int32) [(.int ch0)] (.int (0 : Int32))) (V_t : Arv Z h0 t kb .byte (1 : Int32) [(.int (0 : Int32))] (.int (0 : Int32))) (g_t : n0 ≤ t) (hbt : b ≠ t) (dq0 : ¬ (255 : Int32) < ch0) :
    Ctr l Z my1 jdk_52_method_21_code 7 ((Option.some Jvm.ClassFile.FieldType.int)) ws (⟨0, 0, 0, 0⟩ : Room) #[(.ref b), (.int (0 : Int32)), (.ref t), (.int (0 : Int32)), (.int (1 : Int32))] h0 (fun v h L => v = some (.int (1 : Int32)) ∧ Fr n0 L ∧ Keep h0 h [t] ∧ Arv Z h t kb .byte (1 : Int32) [(.int (nar .byte (ch0.toInt8.toInt32)))] (.int (0 : Int32))) := by
  refine Ctr.go (plainFor_of_name pn_195) fun p e s m below meth c s₁ Bd hx hby hml hZ hown hnm X0 e0 => ?_
  have N0 := Fr.nil n0
  have K0 := Keep.refl h0 [t]
  refine gs (S' := s₁.setTop (mkF m 0 #[rv b, iv (0 : Int32), rv t, iv (0 : Int32), iv (1 : Int32), uu, uu] [])) (fun tg kg => castTop (ef_767 m b (0 : Int32) t (0 : Int32) (1 : Int32)) kg) ?_
  refine gs (fun _ k => je (v := (0 : Int32)) X0 hx hby d50_0 (jj X0 hx hby d50_1 rfl (jd X0 hx hby d50_3 rfl (jd X0 hx hby d50_5 rfl (ji X0 hx hby d50_7 (tlt (by decide : (0 : Int32) < (1 : Int32))).2.1 (ja X0 hx hby d50_10 rfl rfl (jb X0 hx hby d50_11 rfl k))))))) ?_
  obtain ⟨cl1, A1, a1q, a1S, a1N, a1H, a1G⟩ := id V_b
  have hi1 := inb_of a1S (j := (0 : Int32)) ⟨by decide, by decide⟩
  refine gs (fun _ k => X0.caload hx (j := (0 : Int32)) (v := (.int ch0)) (by rw [e0]; exact A1.1) (State.isArrayOf_alike hZ.alike A1.2.1) A1.2.2 hi1 (Has.at a1H hi1 rfl) (g := (mkF m 12 #[rv b, iv (0 : Int32), rv t, iv (0 : Int32), iv (1 : Int32), iv (0 : Int32), uu] [(.int (0 : Int32)), (.ref b)])) rfl rfl (hb hby d50_12) _ (jj X0 hx hby d50_13 rfl (jd X0 hx hby d50_15 rfl (XS.sipush X0.here hx rfl (hb hby d50_17) (jh (pc' := 26) X0 hx hby d50_20 (flt dq0).2.2.2 (ja X0 hx hby d50_26 rfl rfl (jb X0 hx hby d50_27 rfl (jd X0 hx hby d50_28 rfl (jN X0 hx hby d50_30 k))))))))) ?_
  obtain ⟨cl2, A2, a2q, a2S, a2N, a2H, a2G⟩ := id V_t
  obtain ⟨T2, h2, X2, e2, W2, st2⟩ := stB X0 hx hZ e0 A2 (j := (0 : Int32)) (inb_of a2S ⟨by decide, by decide⟩) (g := (mkF m 31 #[rv b, iv (0 : Int32), rv t, iv (0 : Int32), iv (1 : Int32), iv (0 : Int32), iv ch0] [(.int (ch0.toInt8.toInt32)), (.int (0 : Int32)), (.ref t)])) rfl rfl (hb hby d50_31)
  have V2 : Arv Z h2 t kb .byte (1 : Int32) [(.int (nar .byte (ch0.toInt8.toInt32)))] (.int (0 : Int32)) := Arv.set A2 a2q a2S a2N a2H a2G (fits_nar_byte _) W2 0 rfl (nb rfl)
  have N2 := Fr.snoc X2 N0 g_t
  have Z3 := nt Z0 (Keep.of_wr W2).1
  have O3 := O0.wr W2 g_t
  have K3 := K0.wr W2 (Or.inl (List.mem_of_getElem? (i := 0) rfl))
  refine gs (S' := T2.setTop (mkF m 32 #[rv b, iv (0 : Int32), rv t, iv (0 : Int32), iv (1 : Int32), iv (0 : Int32), iv ch0] [])) st2 ?_
  refine gs (fun _ k => jm X2 hx hby d50_32 rfl rfl (jm X2 hx hby d50_35 rfl rfl (jm X2 hx hby d50_38 rfl rfl (jl (pc' := 3) X2 hx hby d50_41 (jd X2 hx hby d50_3 rfl (jd X2 hx hby d50_5 rfl (jh (pc' := 44) X2 hx hby d50_7 (flt (by decide : ¬ ((1 : Int32) < (1 : Int32)))).2.1 (jd X2 hx hby d50_44 rfl k)))))))) ?_
  refine gout (v := some (.int (1 : Int32))) X2 Bd.notSynchronized (fun h => by rw [Bd.returns] at h; cases h) (by decide) (by decide) ?_ (fun fs hr => retI X2 hx Bd.returns (hb hby d50_46) hr)
  rw [e2]
  exact ⟨rfl, N2, K3, V2⟩
theorem d51_57 : decode oc51 57 = .ok (.aload_n 3, 1) := by decide +kernel
theorem d51_58 : decode oc51 58 = .ok (.areturn, 1) := by decide +kernel
theorem rm_cp3_11 (l : Launch) (Z : State) (a0 : Array Value) (hw : HW Z a0) (ws : List Jvm.Cond) (b : Addr) (kc : ClassId) (ch0 : Int32) (h0 : Heap) (n0 : Nat) (Z0 : n0 ≤ h0.size) (O0 : Old Z n0 h0) (V_b : Arv Z h0 b kc .char (1 : Int32) [(.int ch0)] (.int (0 : Int32))) (dq0 : ¬ (255 : Int32) < ch0) (bq0 : ¬ ch0 < 0 ∧ ¬ (65535 : Int32) < ch0) (S_ad : PS0 Z (.int (1 : Int32))) (S_hi : PS1 Z (.int (0 : Int32))) (S_lo : PS2 Z (.int (8 : Int32))) :
    Ctr l Z my2 jdk_52_method_16_code 6 ((Option.some (Jvm.ClassFile.FieldType.array Jvm.ClassFile.FieldType.byte))) ws (⟨1, 1, 1, 18⟩ : Room) #[(.ref b), (.int (0 : Int32)), (.int (1 : Int32))] h0 (fun v h L => ∃ (t1 : Addr) (k1 : ClassId), v = some (.ref t1) ∧ Fr n0 L ∧ Keep h0 h [] ∧ h0.size ≤ t1 ∧ Arv Z h t1 k1 .byte (1 : Int32) [(.int (nar .byte (ch0.toInt8.toInt32)))] (.int (0 : Int32))) := by
  refine Ctr.go (plainFor_of_name pn_195) fun p e s m below meth c s₁ Bd hx hby hml hZ hown hnm X0 e0 => ?_
  have N0 := Fr.nil n0
  have K0 := Keep.refl h0 []
  refine gs (S' := s₁.setTop (mkF m 0 #[rv b, iv (0 : Int32), iv (1 : Int32), uu, uu, uu] [])) (fun tg kg => castTop (ef_783 m b (0 : Int32) (1 : Int32)) kg) ?_
  refine gs (fun _ k => jb X0 hx hby d51_0 rfl k) ?_
  obtain ⟨T1, h1, k1, X1, e1, E1, A1, st1⟩ := newP X0 hx hZ (ow hw 23 rfl) e0 (g := (mkF m 1 #[rv b, iv (0 : Int32), iv (1 : Int32), uu, uu, uu] [(.int (1 : Int32))])) rfl (hb hby d51_1) rfl (by decide) (cap := 1) (by decide) (by decide) (by decide) (by decide)
  obtain ⟨b1, q1⟩ : ∃ z, z = h0.size := ⟨_, rfl⟩
  rw [← q1] at A1 st1
  have g_b1 : n0 ≤ b1 := nt Z0 (Nat.le_of_eq q1.symm)
  have sz_b1 : h0.size ≤ b1 := nt K0.1 (Nat.le_of_eq q1.symm)
  have Z2 := nt Z0 E1.1
  have O2 := O0.ext E1
  have K2 := K0.ext E1
  have V1 : Arv Z h1 b1 k1 .byte (1 : Int32) [(.int (0 : Int32))] (.int (0 : Int32)) := (Arv.new A1 (by decide)).pad (pad_rep [] (.int (0 : Int32)) 1)
  refine gs (S' := T1.setTop (mkF m 3 #[rv b, iv (0 : Int32), iv (1 : Int32), uu, uu, uu] [(.ref b1)])) st1 ?_
  refine gs (fun _ k => jw X1 hx hby d51_3 rfl rfl (ja X1 hx hby d51_4 rfl rfl (jb X1 hx hby d51_5 rfl (ja X1 hx hby d51_6 rfl rfl (je (v := (0 : Int32)) X1 hx hby d51_7 (jb X1 hx hby d51_8 rfl k)))))) ?_
  have f3 := (V_b.ext E1)
  refine cS (rest := []) X1 hx hZ hown (ow hw 24 rfl) (ow hw 25 rfl) (ow hw 21 rfl) (ow hw 26 rfl) (rm_cp5_11 l Z a0 hw [] b kc b1 k1 ch0 h1 n0 Z2 O2 f3 V1 g_b1 (nw (nu (nu V_b.lt (Nat.le_refl _)) (Nat.le_of_eq q1.symm))) dq0) hby d51_9 e1 pd_794 0 (by rw [hml]; rfl) rfl rfl rfl rfl (by decide) (by decide) fun _ T4 Lc4 X4 hQ4 => ?_
  obtain ⟨rfl, N4q, K4q, V4q⟩ := hQ4
  have N4 := Fr.app N0 N4q
  have Z5 := nt Z2 K4q.1
  have O5 := O2.keep K4q (allS g_b1 all0)
  have K5 := K2.trans K4q (allS (Or.inr sz_b1) all0)
  refine gs (fun _ k => jj X4 hx hby d51_12 rfl (jd X4 hx hby d51_14 rfl (jb X4 hx hby d51_16 rfl (jh (pc' := 57) X4 hx hby d51_17 (teq (by decide : (1 : Int32) = (1 : Int32))).1 (ja X4 hx hby d51_57 rfl rfl k))))) ?_
  refine gout (v := some (.ref b1)) X4 Bd.notSynchronized (fun h => by rw [Bd.returns] at h; cases h) (by decide) (by decide) ?_ (fun fs hr => retOut X4 hx Bd.returns rfl (Or.inr (Or.inr (Or.inr (Or.inr ⟨rfl, rfl, rfl⟩)))) (hb hby d51_58) hr)
  exact ⟨_, _, rfl, N4, K5, sz_b1, V4q⟩
theorem rm_cfl11 (l : Launch) (Z : State) (a0 : Array Value) (hw : HW Z a0) (ws : List Jvm.Cond) (t : Addr) (kb : ClassId) (vs : List Value) (h0 : Heap) (n0 : Nat) (Z0 : n0 ≤ h0.size) (O0 : Old Z n0 h0) (V_t : Arv Z h0 t kb .byte (1 : Int32) vs (.int (0 : Int32))) :
    Ctr l Z my3 jdk_52_method_15_code 2 ((Option.some Jvm.ClassFile.FieldType.byte)) ws (⟨0, 0, 0, 0⟩ : Room) #[(.ref t), (.int (1 : Int32))] h0 (fun v h L => v = some (.int (0 : Int32)) ∧ Fr n0 L ∧ h = h0) := by
  refine Ctr.go (plainFor_of_name pn_195) fun p e s m below meth c s₁ Bd hx hby hml hZ hown hnm X0 e0 => ?_
  have N0 := Fr.nil n0
  have K0 := Keep.refl h0 []
  refine gs (S' := s₁.setTop (mkF m 0 #[rv t, iv (1 : Int32)] [])) (fun tg kg => castTop (ef_196 m t (1 : Int32)) kg) ?_
  refine gs (fun _ k => jb X0 hx hby d52_0 rfl (ja X0 hx hby d52_1 rfl rfl k)) ?_
  obtain ⟨cl1, A1, a1q, a1S, a1N, a1H, a1G⟩ := id V_t
  refine gs (S' := s₁.setTop (mkF m 3 #[rv t, iv (1 : Int32)] [(.int (1 : Int32)), (.int (1 : Int32))])) (fun _ k => by refine X0.arraylength hx (by rw [e0]; exact A1.1) (State.isArrayOf_alike hZ.alike A1.2.1) (g := (mkF m 2 #[rv t, iv (1 : Int32)] [(.ref t), (.int (1 : Int32))])) rfl rfl (hb hby d52_2) _ ?_; rw [len_of a1S a1N]; exact k) ?_
  refine gs (fun _ k => jO X0 hx hby d52_3 (jr (v := (31 : Int32)) X0 hx hby d52_4 (o_iushr X0 hx hby d52_6 (jN X0 hx hby d52_7 k)))) ?_
  refine gout (v := some (.int (0 : Int32))) X0 Bd.notSynchronized (fun h => by rw [Bd.returns] at h; cases h) (by decide) (by decide) ?_ (fun fs hr => retN X0 hx (t := .byte) Bd.returns (by simp) (hb hby d52_8) hr)
  rw [e0]
  exact ⟨rfl, N0, rfl⟩
theorem rm_si4_11 (l : Launch) (Z : State) (a0 : Array Value) (hw : HW Z a0) (ws : List Jvm.Cond) (a : Addr) (b : Addr) (kc : ClassId) (ch0 : Int32) (z : Int32) (h0 : Heap) (n0 : Nat) (Z0 : n0 ≤ h0.size) (O0 : Old Z n0 h0) (E_a : Exa Z h0 a "java/lang/String") (F_va : Fld Z h0 a "java/lang/String" "value" "[B" .null) (F_ca : Fld Z h0 a "java/lang/String" "coder" "B" (.int (0 : Int32))) (g_a : n0 ≤ a) (V_b : Arv Z h0 b kc .char (1 : Int32) [(.int ch0)] (.int (0 : Int32))) (dq0 : ¬ (255 : Int32) < ch0) (bq0 : ¬ ch0 < 0 ∧ ¬ (65535 : Int32) < ch0) (S_ad : PS0 Z (.int (1 : Int32))) (S_hi : PS1 Z (.int (0 : Int32))) (S_lo : PS2 Z (.int (8 : Int32))) (S0 : PS3 Z (.int z)) (hz : ¬ z = 0) :
    Ctr l Z my0 jdk_42_method_149_code 6 ((Option.none : Option Jvm.ClassFile.FieldType)) ws (⟨2, 1, 1, 35⟩ : Room) #[(.ref a), (.ref b), (.int (0 : Int32)), (.int (1 : Int32)), .null] h0 (fun v h L => v = none ∧ Fr n0 L ∧ Keep h0 h [a] ∧ SG Z h a [ch0]) := by
  refine Ctr.go (plainFor_of_name pn_15) fun p e s m below meth c s₁ Bd hx hby hml hZ hown hnm X0 e0 => ?_
  have N0 := Fr.nil n0
  have K0 := Keep.refl h0 [a]
  refine gs (S' := s₁.setTop (mkF m 0 #[rv a, rv b, iv (0 : Int32), iv (1 : Int32), .val .null, uu] [])) (fun tg kg => castTop (ef_0 m a b (0 : Int32) (1 : Int32)) kg) ?_
  refine gs (fun _ k => ja X0 hx hby d0_0 rfl rfl k) ?_
  obtain ⟨T1, X1, e1, st1⟩ := initO X0 hx hZ hown (ow hw 15 rfl) (ow hw 16 rfl) (ow hw 17 rfl) e0 (g := (mkF m 1 #[rv a, rv b, iv (0 : Int32), iv (1 : Int32), .val .null, uu] [(.ref a)])) rfl (by rw [hml]; rfl) rfl (hb hby d0_1) (by decide) (W := 0) (jK rfl) (by decide)
  refine gs (S' := T1.setTop (mkF m 4 #[rv a, rv b, iv (0 : Int32), iv (1 : Int32), .val .null, uu] [])) st1 ?_
  refine gs (fun _ k => jb X1 hx hby d0_4 rfl (jt (pc' := 27) X1 hx hby d0_5 ((if0 _ _).trans (feq (by decide : ¬ ((1 : Int32) = (0 : Int32)))).2) k)) ?_
  refine gS X1 hx hZ hown (host := "") (Or.inl (ow hw 18 rfl)) Via.refl e1 (S0.ext O0.2) hby d0_27 fun T2 X2 e2 => ?_
  refine gs (fun _ k => jn X2 hx hby d0_30 ((if0 _ _).trans (feq hz).1) (ja X2 hx hby d0_33 rfl rfl (jb X2 hx hby d0_34 rfl (jb X2 hx hby d0_35 rfl k)))) ?_
  refine cS (rest := []) X2 hx hZ hown (ow hw 19 rfl) (ow hw 20 rfl) (ow hw 21 rfl) (ow hw 22 rfl) (rm_cp3_11 l Z a0 hw [] b kc ch0 h0 n0 Z0 O0 V_b dq0 bq0 S_ad S_hi S_lo) hby d0_36 e2 pd_803 0 (by rw [hml]; rfl) rfl rfl rfl rfl (by decide) (by decide) fun _ T3 Lc3 X3 hQ3 => ?_
  obtain ⟨t3, kb3, rfl, N3q, K3q, g3t, V3q⟩ := hQ3
  have N3 := Fr.app N0 N3q
  have g_t3 : n0 ≤ t3 := nt Z0 g3t
  have sz_t3 : h0.size ≤ t3 := nt K0.1 g3t
  have Z4 := nt Z0 K3q.1
  have O4 := O0.keep K3q all0
  have K4 := K0.trans K3q all0
  refine gs (fun _ k => jo X3 hx hby d0_39 rfl rfl (ja X3 hx hby d0_41 rfl rfl (jf X3 hx hby d0_42 rfl rfl (jb X3 hx hby d0_44 rfl k)))) ?_
  refine cS (rest := [(.ref a)]) X3 hx hZ hown (ow hw 27 rfl) (ow hw 28 rfl) (ow hw 21 rfl) (ow hw 29 rfl) (rm_cfl11 l Z a0 hw [] t3 kb3 _ T3.heap n0 Z4 O4 V3q) hby d0_45 rfl pd_834 1 (by rw [hml]; rfl) rfl rfl rfl rfl (by decide) (by decide) fun _ T5 Lc5 X5 hQ5 => ?_
  obtain ⟨rfl, N5q, e5q⟩ := hQ5
  have N5 := Fr.app N3 N5q
  have f6 := (F_ca.keep K3q nin0)
  have f7 := (E_a.keep K3q)
  obtain ⟨T8, h8, X8, e8, W8, st8⟩ := putFN X5 hx hZ hown (ow hw 30 rfl) Via.refl e5q f6 f7 (Or.inr ⟨(ow hw 31 rfl), rfl, hnm⟩) (ow hw 5 rfl) (ty := .byte) (v' := (.int (0 : Int32))) (by decide) rfl rfl (g := (mkF m 48 #[rv a, rv b, iv (0 : Int32), iv (1 : Int32), .val .null, rv t3] [(.int (0 : Int32)), (.ref a)])) rfl rfl (hb hby d0_48)
  have N8 := Fr.snoc X8 N5 g_a
  have Fw8 := f6.same W8
  have Z9 := nt Z4 (Keep.of_wr W8).1
  have O9 := O4.wr W8 g_a
  have K9 := K4.wr W8 (Or.inl (List.mem_of_getElem? (i := 0) rfl))
  refine gs (S' := T8.setTop (mkF m 51 #[rv a, rv b, iv (0 : Int32), iv (1 : Int32), .val .null, rv t3] [])) st8 ?_
  refine gs (fun _ k => ja X8 hx hby d0_51 rfl rfl (jf X8 hx hby d0_52 rfl rfl k)) ?_
  have f10 := ((F_va.keep K3q nin0).other W8 (Or.inr (slot_ne (Or.inr (ow hw 33 rfl)) (Or.inr (ow hw 31 rfl)) (by decide) (t := (.array .byte)) (t' := .byte) (by decide) (by decide))))
  have f11 := (f7.wr W8)
  obtain ⟨T12, h12, X12, e12, W12, st12⟩ := putF X8 hx hZ hown (host := "") (Or.inl (ow hw 32 rfl)) Via.refl e8 f10 f11 (Or.inr ⟨(ow hw 33 rfl), rfl, hnm⟩) (ow hw 5 rfl) (ty := (.array .byte)) (by decide) rfl rfl (g := (mkF m 54 #[rv a, rv b, iv (0 : Int32), iv (1 : Int32), .val .null, rv t3] [(.ref t3), (.ref a)])) rfl rfl (hb hby d0_54)
  have N12 := Fr.snoc X12 N8 g_a
  have Fw12 := f10.same W12
  have Z13 := nt Z9 (Keep.of_wr W12).1
  have O13 := O9.wr W12 g_a
  have K13 := K9.wr W12 (Or.inl (List.mem_of_getElem? (i := 0) rfl))
  refine gs (S' := T12.setTop (mkF m 57 #[rv a, rv b, iv (0 : Int32), iv (1 : Int32), .val .null, rv t3] [])) st12 ?_
  have f14 := ((V3q.other W8 (Ne.symm (nw (nu (nu E_a.lt (Nat.le_refl _)) g3t)))).other W12 (Ne.symm (nw (nu (nu E_a.lt (Nat.le_refl _)) g3t))))
  have Vb := f14
  rw [own_narb ch0] at Vb
  have f15 := (f11.wr W12)
  have f16 := (Fw8.other W12 (Or.inr (slot_ne (Or.inr (ow hw 31 rfl)) (Or.inr (ow hw 33 rfl)) (by decide) (t := .byte) (t' := (.array .byte)) (by decide) (by decide))))
  refine gout (v := none) X12 Bd.notSynchronized (fun _ => rfl) (by decide) (by decide) ?_ (fun fs hr => X12.returnOut hx Bd.returns (hb hby d0_57) hr)
  rw [e12]
  exact ⟨rfl, N12, K13, _, _, 0, _, f15, f16, Fw12, by rw [jy]; exact Vb, Or.inl ⟨rfl, rfl, (by intro c hc; simp only [List.mem_cons, List.not_mem_nil, or_false] at hc; rcases hc with rfl; exact ⟨bq0.1, dq0⟩)⟩⟩
theorem rm_s1_1 (l : Launch) (Z : State) (a0 : Array Value) (hw : HW Z a0) (ws : List Jvm.Cond) (a : Addr) (b : Addr) (kc : ClassId) (ch0 : Int32) (z : Int32) (h0 : Heap) (n0 : Nat) (Z0 : n0 ≤ h0.size) (O0 : Old Z n0 h0) (E_a : Exa Z h0 a "java/lang/String") (F_va : Fld Z h0 a "java/lang/String" "value" "[B" .null) (F_ca : Fld Z h0 a "java/lang/String" "coder" "B" (.int (0 : Int32))) (g_a : n0 ≤ a) (V_b : Arv Z h0 b kc .char (1 : Int32) [(.int ch0)] (.int (0 : Int32))) (bq0 : ¬ ch0 < 0 ∧ ¬ (65535 : Int32) < ch0) (S_ad : PS0 Z (.int (1 : Int32))) (S_hi : PS1 Z (.int (0 : Int32))) (S_lo : PS2 Z (.int (8 : Int32))) (S0 : PS3 Z (.int z)) (hz : ¬ z = 0) :
    Ctr l Z my4 jdk_42_method_3_code 2 ((Option.none : Option Jvm.ClassFile.FieldType)) ws (⟨5, 2, 201, 74⟩ : Room) #[(.ref a), (.ref b)] h0 (fun v h L => v = none ∧ Fr n0 L ∧ Keep h0 h [a] ∧ SG Z h a [ch0]) := by
  refine Ctr.go (plainFor_of_name pn_15) fun p e s m below meth c s₁ Bd hx hby hml hZ hown hnm X0 e0 => ?_
  have N0 := Fr.nil n0
  have K0 := Keep.refl h0 [a]
  refine gs (S' := s₁.setTop (mkF m 0 #[rv a, rv b] [])) (fun tg kg => castTop (ef_16 m a b) kg) ?_
  refine gs (fun _ k => ja X0 hx hby d1_0 rfl rfl (ja X0 hx hby d1_1 rfl rfl (je (v := (0 : Int32)) X0 hx hby d1_2 (ja X0 hx hby d1_3 rfl rfl k)))) ?_
  obtain ⟨cl1, A1, a1q, a1S, a1N, a1H, a1G⟩ := id V_b
  refine gs (S' := s₁.setTop (mkF m 5 #[rv a, rv b] [(.int (1 : Int32)), (.int (0 : Int32)), (.ref b), (.ref a)])) (fun _ k => by refine X0.arraylength hx (by rw [e0]; exact A1.1) (State.isArrayOf_alike hZ.alike A1.2.1) (g := (mkF m 4 #[rv a, rv b] [(.ref b), (.int (0 : Int32)), (.ref b), (.ref a)])) rfl rfl (hb hby d1_4) _ ?_; rw [len_of a1S a1N]; exact k) ?_
  refine gs (fun _ k => o_aconstNull X0 hx hby d1_5 k) ?_
  by_cases hc2 : (255 : Int32) < ch0
  · refine cI (rest := []) X0 hx hZ hown rfl (ow hw 11 rfl) (ow hw 12 rfl) (ow hw 6 rfl) (ow hw 14 rfl) (rm_si4_10 l Z a0 hw [] a b kc ch0 z h0 n0 Z0 O0 E_a F_va F_ca g_a V_b hc2 bq0 S_ad S_hi S_lo S0 hz) hby d1_6 e0 pd_25 0 (by rw [hml]; rfl) rfl rfl rfl rfl (by decide) (by decide) fun _ T3 Lc3 X3 hQ3 => ?_
    obtain ⟨rfl, N3q, K3q, T3q⟩ := hQ3
    have N3 := Fr.app N0 N3q
    have Z4 := nt Z0 K3q.1
    have O4 := O0.keep K3q (allS g_a all0)
    have K4 := K0.trans K3q (allS (Or.inl (List.mem_of_getElem? (i := 0) rfl)) all0)
    refine gout (v := none) X3 Bd.notSynchronized (fun _ => rfl) (by decide) (by decide) ?_ (fun fs hr => X3.returnOut hx Bd.returns (hb hby d1_9) hr)
    exact ⟨rfl, N3, K4, T3q⟩
  · refine cI (rest := []) X0 hx hZ hown rfl (ow hw 11 rfl) (ow hw 12 rfl) (ow hw 6 rfl) (ow hw 14 rfl) (rm_si4_11 l Z a0 hw [] a b kc ch0 z h0 n0 Z0 O0 E_a F_va F_ca g_a V_b hc2 bq0 S_ad S_hi S_lo S0 hz) hby d1_6 e0 pd_25 0 (by rw [hml]; rfl) rfl rfl rfl rfl (by decide) (by decide) fun _ T5 Lc5 X5 hQ5 => ?_
    obtain ⟨rfl, N5q, K5q, T5q⟩ := hQ5
    have N5 := Fr.app N0 N5q
    have Z6 := nt Z0 K5q.1
    have O6 := O0.keep K5q (allS g_a all0)
    have K6 := K0.trans K5q (allS (Or.inl (List.mem_of_getElem? (i := 0) rfl)) all0)
    refine gout (v := none) X5 Bd.notSynchronized (fun _ => rfl) (by decide) (by decide) ?_ (fun fs hr => X5.returnOut hx Bd.returns (hb hby d1_9) hr)
    exact ⟨rfl, N5, K6, T5q⟩
theorem rm_tb16_2 (l : Launch) (Z : State) (a0 : Array Value) (hw : HW Z a0) (ws : List Jvm.Cond) (b : Addr) (kc : ClassId) (ch0 : Int32) (ch1 : Int32) (h0 : Heap) (n0 : Nat) (Z0 : n0 ≤ h0.size) (O0 : Old Z n0 h0) (V_b : Arv Z h0 b kc .char (2 : Int32) [(.int ch0), (.int ch1)] (.int (0 : Int32))) (S_ad : PS0 Z (.int (1 : Int32))) (S_hi : PS1 Z (.int (0 : Int32))) (S_lo : PS2 Z (.int (8 : Int32))) :
    Ctr l Z my6 jdk_52_method_14_code 5 ((Option.some (Jvm.ClassFile.FieldType.array Jvm.ClassFile.FieldType.byte))) ws (⟨2, 1, 200, 24⟩ : Room) #[(.ref b), (.int (0 : Int32)), (.int (2 : Int32))] h0 (fun v h L => ∃ (t1 : Addr) (k1 : ClassId), v = some (.ref t1) ∧ Fr n0 L ∧ Keep h0 h [] ∧ h0.size ≤ t1 ∧ Exa Z h t1 "[B" ∧ Arv Z h t1 k1 .byte (oI 4) (jq [ch0, ch1]) (.int (0 : Int32))) := by
  refine Ctr.go (plainFor_of_name pn_195) fun p e s m below meth c s₁ Bd hx hby hml hZ hown hnm X0 e0 => ?_
  have N0 := Fr.nil n0
  have K0 := Keep.refl h0 []
  refine gs (S' := s₁.setTop (mkF m 0 #[rv b, iv (0 : Int32), iv (2 : Int32), uu, uu] [])) (fun tg kg => castTop (ef_646 m b (0 : Int32) (2 : Int32)) kg) ?_
  refine gs (fun _ k => jb X0 hx hby d49_0 rfl k) ?_
  refine cS (rest := []) X0 hx hZ hown (ow hw 247 rfl) (ow hw 248 rfl) (ow hw 21 rfl) (ow hw 249 rfl) (rm_nbf l Z a0 hw [] 2 h0 n0 Z0 O0 (by decide)) hby d49_1 e0 pd_364 0 (by rw [hml]; rfl) rfl rfl rfl rfl (by decide) (by decide) fun _ T1 Lc1 X1 hQ1 => ?_
  obtain ⟨t1, kb1, rfl, N1q, K1q, g1t, E1t, V1q⟩ := hQ1
  have N1 := Fr.app N0 N1q
  have g_t1 : n0 ≤ t1 := nt Z0 g1t
  have sz_t1 : h0.size ≤ t1 := nt K0.1 g1t
  have Z2 := nt Z0 K1q.1
  have O2 := O0.keep K1q all0
  have K2 := K0.trans K1q all0
  refine gs (fun _ k => jw X1 hx hby d49_4 rfl rfl (je (v := (0 : Int32)) X1 hx hby d49_5 (jj X1 hx hby d49_6 rfl (jd X1 hx hby d49_8 rfl (jb X1 hx hby d49_10 rfl (ji X1 hx hby d49_11 (tlt (by decide : (0 : Int32) < (2 : Int32))).2.1 (ja X1 hx hby d49_14 rfl rfl (jd X1 hx hby d49_15 rfl (ja X1 hx hby d49_17 rfl rfl (jb X1 hx hby d49_18 rfl k)))))))))) ?_
  have f3 := (V_b.keep K1q nin0)
  obtain ⟨cl4, A4, a4q, a4S, a4N, a4H, a4G⟩ := id f3
  have hi4 := inb_of a4S (j := (0 : Int32)) ⟨by decide, by decide⟩
  refine gs (fun _ k => X1.caload hx (j := (0 : Int32)) (v := (.int ch0)) A4.1 (State.isArrayOf_alike hZ.alike A4.2.1) A4.2.2 hi4 (Has.at a4H hi4 rfl) (g := (mkF m 19 #[rv b, iv (0 : Int32), iv (2 : Int32), rv t1, iv (0 : Int32)] [(.int (0 : Int32)), (.ref b), (.int (0 : Int32)), (.ref t1)])) rfl rfl (hb hby d49_19) _ k) ?_
  refine cS (rest := []) X1 hx hZ hown (ow hw 254 rfl) (ow hw 255 rfl) (ow hw 21 rfl) (ow hw 256 rfl) (rm_pc l Z a0 hw [] t1 kb1 ([] : List Int32) ch0 (0 : Int32) 4 T1.heap n0 Z2 O2 V1q g_t1 rfl (nb rfl) (by decide) S_ad S_hi S_lo) hby d49_20 rfl pd_267 0 (by rw [hml]; rfl) rfl rfl rfl rfl (by decide) (by decide) fun _ T5 Lc5 X5 hQ5 => ?_
  obtain ⟨rfl, N5q, K5q, V5q⟩ := hQ5
  have N5 := Fr.app N1 N5q
  have Z6 := nt Z2 K5q.1
  have O6 := O2.keep K5q (allS g_t1 all0)
  have K6 := K2.trans K5q (allS (Or.inr sz_t1) all0)
  refine gs (fun _ k => jm X5 hx hby d49_23 rfl rfl (jm X5 hx hby d49_26 rfl rfl (jl (pc' := 8) X5 hx hby d49_29 (jd X5 hx hby d49_8 rfl (jb X5 hx hby d49_10 rfl (ji X5 hx hby d49_11 (tlt (by decide : (1 : Int32) < (2 : Int32))).2.1 (ja X5 hx hby d49_14 rfl rfl (jd X5 hx hby d49_15 rfl (ja X5 hx hby d49_17 rfl rfl (jb X5 hx hby d49_18 rfl k)))))))))) ?_
  have f7 := (f3.keep K5q (ninS (nw (nu (nu V_b.lt (Nat.le_refl _)) g1t)) nin0))
  obtain ⟨cl8, A8, a8q, a8S, a8N, a8H, a8G⟩ := id f7
  have hi8 := inb_of a8S (j := (1 : Int32)) ⟨by decide, by decide⟩
  refine gs (fun _ k => X5.caload hx (j := (1 : Int32)) (v := (.int ch1)) A8.1 (State.isArrayOf_alike hZ.alike A8.2.1) A8.2.2 hi8 (Has.at a8H hi8 rfl) (g := (mkF m 19 #[rv b, iv (1 : Int32), iv (2 : Int32), rv t1, iv (1 : Int32)] [(.int (1 : Int32)), (.ref b), (.int (1 : Int32)), (.ref t1)])) rfl rfl (hb hby d49_19) _ k) ?_
  refine cS (rest := []) X5 hx hZ hown (ow hw 254 rfl) (ow hw 255 rfl) (ow hw 21 rfl) (ow hw 256 rfl) (rm_pc l Z a0 hw [] t1 kb1 ([ch0] : List Int32) ch1 (1 : Int32) 4 T5.heap n0 Z6 O6 V5q g_t1 rfl (nb rfl) (by decide) S_ad S_hi S_lo) hby d49_20 rfl pd_267 0 (by rw [hml]; rfl) rfl rfl rfl rfl (by decide) (by decide) fun _ T9 Lc9 X9 hQ9 => ?_
  obtain ⟨rfl, N9q, K9q, V9q⟩ := hQ9
  have N9 := Fr.app N5 N9q
  have Z10 := nt Z6 K9q.1
  have O10 := O6.keep K9q (allS g_t1 all0)
  have K10 := K6.trans K9q (allS (Or.inr sz_t1) all0)
  refine gs (fun _ k => jm X9 hx hby d49_23 rfl rfl (jm X9 hx hby d49_26 rfl rfl (jl (pc' := 8) X9 hx hby d49_29 (jd X9 hx hby d49_8 rfl (jb X9 hx hby d49_10 rfl (jh (pc' := 32) X9 hx hby d49_11 (flt (by decide : ¬ ((2 : Int32) < (2 : Int32)))).2.1 (ja X9 hx hby d49_32 rfl rfl k))))))) ?_
  have f11 := ((E1t.keep K5q).keep K9q)
  refine gout (v := some (.ref t1)) X9 Bd.notSynchronized (fun h => by rw [Bd.returns] at h; cases h) (by decide) (by decide) ?_ (fun fs hr => retOut X9 hx Bd.returns rfl (Or.inr (Or.inr (Or.inr (Or.inr ⟨rfl, rfl, rfl⟩)))) (hb hby d49_33) hr)
  exact ⟨_, _, rfl, N9, K10, sz_t1, f11, V9q⟩
theorem rm_cp5_20 (l : Launch) (Z : State) (a0 : Array Value) (hw : HW Z a0) (ws : List Jvm.Cond) (b : Addr) (kc : ClassId) (t : Addr) (kb : ClassId) (ch0 : Int32) (ch1 : Int32) (h0 : Heap) (n0 : Nat) (Z0 : n0 ≤ h0.size) (O0 : Old Z n0 h0) (V_b : Arv Z h0 b kc .char (2 : Int32) [(.int ch0), (.int ch1)] (.int (0 : Int32))) (V_t : Arv Z h0 t kb .byte (2 : Int32) [(.int (0 : Int32)), (.int (0 : Int32))] (.int (0 : Int32))) (g_t : n0 ≤ t) (hbt : b ≠ t) (dq0 : (255 : Int32) < ch0) :
    Ctr l Z my1 jdk_52_method_21_code 7 ((Option.some Jvm.ClassFile.FieldType.int)) ws (⟨0, 0, 0, 0⟩ : Room) #[(.ref b), (.int (0 : Int32)), (.ref t), (.int (0 : Int32)), (.int (2 : Int32))] h0 (fun v h L => v = some (.int (0 : Int32)) ∧ Fr n0 L ∧ Keep h0 h [t]) := by
  refine Ctr.go (plainFor_of_name pn_195) fun p e s m below meth c s₁ Bd hx hby hml hZ hown hnm X0 e0 => ?_
  have N0 := Fr.nil n0
  have K0 := Keep.refl h0 [t]
  refine gs (S' := s₁.setTop (mkF m 0 #[rv b, iv (0 : Int32), rv t, iv (0 : Int32), iv (2 : Int32), uu, uu] [])) (fun tg kg => castTop (ef_767 m b (0 : Int32) t (0 : Int32) (2 : Int32)) kg) ?_
  refine gs (fun _ k => je (v := (0 : Int32)) X0 hx hby d50_0 (jj X0 hx hby d50_1 rfl (jd X0 hx hby d50_3 rfl (jd X0 hx hby d50_5 rfl (ji X0 hx hby d50_7 (tlt (by decide : (0 : Int32) < (2 : Int32))).2.1 (ja X0 hx hby d50_10 rfl rfl (jb X0 hx hby d50_11 rfl k))))))) ?_
  obtain ⟨cl1, A1, a1q, a1S, a1N, a1H, a1G⟩ := id V_b
  have hi1 := inb_of a1S (j := (0 : Int32)) ⟨by decide, by decide⟩
  refine gs (fun _ k => X0.caload hx (j := (0 : Int32)) (v := (.int ch0)) (by rw [e0]; exact A1.1) (State.isArrayOf_alike hZ.alike A1.2.1) A1.2.2 hi1 (Has.at a1H hi1 rfl) (g := (mkF m 12 #[rv b, iv (0 : Int32), rv t, iv (0 : Int32), iv (2 : Int32), iv (0 : Int32), uu] [(.int (0 : Int32)), (.ref b)])) rfl rfl (hb hby d50_12) _ (jj X0 hx hby d50_13 rfl (jd X0 hx hby d50_15 rfl (XS.sipush X0.here hx rfl (hb hby d50_17) (ji X0 hx hby d50_20 (tlt dq0).2.2.2 (jd X0 hx hby d50_23 rfl k)))))) ?_
  refine gout (v := some (.int (0 : Int32))) X0 Bd.notSynchronized (fun h => by rw [Bd.returns] at h; cases h) (by decide) (by decide) ?_ (fun fs hr => retI X0 hx Bd.returns (hb hby d50_25) hr)
  rw [e0]
  exact ⟨rfl, N0, K0⟩
theorem rm_cp3_20 (l : Launch) (Z : State) (a0 : Array Value) (hw : HW Z a0) (ws : List Jvm.Cond) (b : Addr) (kc : ClassId) (ch0 : Int32) (ch1 : Int32) (h0 : Heap) (n0 : Nat) (Z0 : n0 ≤ h0.size) (O0 : Old Z n0 h0) (V_b : Arv Z h0 b kc .char (2 : Int32) [(.int ch0), (.int ch1)] (.int (0 : Int32))) (dq0 : (255 : Int32) < ch0) (bq0 : ¬ ch0 < 0 ∧ ¬ (65535 : Int32) < ch0) (bq1 : ¬ ch1 < 0 ∧ ¬ (65535 : Int32) < ch1) (S_ad : PS0 Z (.int (1 : Int32))) (S_hi : PS1 Z (.int (0 : Int32))) (S_lo : PS2 Z (.int (8 : Int32))) :
    Ctr l Z my2 jdk_52_method_16_code 6 ((Option.some (Jvm.ClassFile.FieldType.array Jvm.ClassFile.FieldType.byte))) ws (⟨3, 2, 202, 40⟩ : Room) #[(.ref b), (.int (0 : Int32)), (.int (2 : Int32))] h0 (fun v h L => ∃ (t1 : Addr) (k1 : ClassId), v = some (.ref t1) ∧ Fr n0 L ∧ Keep h0 h [] ∧ h0.size ≤ t1 ∧ Arv Z h t1 k1 .byte (4 : Int32) (jq [ch0, ch1]) (.int (0 : Int32))) := by
  refine Ctr.go (plainFor_of_name pn_195) fun p e s m below meth c s₁ Bd hx hby hml hZ hown hnm X0 e0 => ?_
  have N0 := Fr.nil n0
  have K0 := Keep.refl h0 []
  refine gs (S' := s₁.setTop (mkF m 0 #[rv b, iv (0 : Int32), iv (2 : Int32), uu, uu, uu] [])) (fun tg kg => castTop (ef_783 m b (0 : Int32) (2 : Int32)) kg) ?_
  refine gs (fun _ k => jb X0 hx hby d51_0 rfl k) ?_
  obtain ⟨T1, h1, k1, X1, e1, E1, A1, st1⟩ := newP X0 hx hZ (ow hw 23 rfl) e0 (g := (mkF m 1 #[rv b, iv (0 : Int32), iv (2 : Int32), uu, uu, uu] [(.int (2 : Int32))])) rfl (hb hby d51_1) rfl (by decide) (cap := 2) (by decide) (by decide) (by decide) (by decide)
  obtain ⟨b1, q1⟩ : ∃ z, z = h0.size := ⟨_, rfl⟩
  rw [← q1] at A1 st1
  have g_b1 : n0 ≤ b1 := nt Z0 (Nat.le_of_eq q1.symm)
  have sz_b1 : h0.size ≤ b1 := nt K0.1 (Nat.le_of_eq q1.symm)
  have Z2 := nt Z0 E1.1
  have O2 := O0.ext E1
  have K2 := K0.ext E1
  have V1 : Arv Z h1 b1 k1 .byte (2 : Int32) [(.int (0 : Int32)), (.int (0 : Int32))] (.int (0 : Int32)) := (Arv.new A1 (by decide)).pad (pad_rep [] (.int (0 : Int32)) 2)
  refine gs (S' := T1.setTop (mkF m 3 #[rv b, iv (0 : Int32), iv (2 : Int32), uu, uu, uu] [(.ref b1)])) st1 ?_
  refine gs (fun _ k => jw X1 hx hby d51_3 rfl rfl (ja X1 hx hby d51_4 rfl rfl (jb X1 hx hby d51_5 rfl (ja X1 hx hby d51_6 rfl rfl (je (v := (0 : Int32)) X1 hx hby d51_7 (jb X1 hx hby d51_8 rfl k)))))) ?_
  have f3 := (V_b.ext E1)
  refine cS (rest := []) X1 hx hZ hown (ow hw 24 rfl) (ow hw 25 rfl) (ow hw 21 rfl) (ow hw 26 rfl) (rm_cp5_20 l Z a0 hw [] b kc b1 k1 ch0 ch1 h1 n0 Z2 O2 f3 V1 g_b1 (nw (nu (nu V_b.lt (Nat.le_refl _)) (Nat.le_of_eq q1.symm))) dq0) hby d51_9 e1 pd_794 0 (by rw [hml]; rfl) rfl rfl rfl rfl (by decide) (by decide) fun _ T4 Lc4 X4 hQ4 => ?_
  obtain ⟨rfl, N4q, K4q⟩ := hQ4
  have N4 := Fr.app N0 N4q
  have Z5 := nt Z2 K4q.1
  have O5 := O2.keep K4q (allS g_b1 all0)
  have K5 := K2.trans K4q (allS (Or.inr sz_b1) all0)
  refine gs (fun _ k => jj X4 hx hby d51_12 rfl (jd X4 hx hby d51_14 rfl (jb X4 hx hby d51_16 rfl (ji X4 hx hby d51_17 (feq (by decide : ¬ ((0 : Int32) = (2 : Int32)))).1 (ja X4 hx hby d51_20 rfl rfl (jb X4 hx hby d51_21 rfl (jb X4 hx hby d51_22 rfl k))))))) ?_
  have f6 := (f3.keep K4q (ninS (nw (nu (nu V_b.lt (Nat.le_refl _)) (Nat.le_of_eq q1.symm))) nin0))
  refine cS (rest := []) X4 hx hZ hown (ow hw 244 rfl) (ow hw 245 rfl) (ow hw 21 rfl) (ow hw 246 rfl) (rm_tb16_2 l Z a0 hw [] b kc ch0 ch1 T4.heap n0 Z5 O5 f6 S_ad S_hi S_lo) hby d51_23 rfl pd_803 0 (by rw [hml]; rfl) rfl rfl rfl rfl (by decide) (by decide) fun _ T7 Lc7 X7 hQ7 => ?_
  obtain ⟨t7, kb7, rfl, N7q, K7q, g7t, E7t, V7q⟩ := hQ7
  have N7 := Fr.app N4 N7q
  have g_t7 : n0 ≤ t7 := nt Z5 g7t
  have sz_t7 : h0.size ≤ t7 := nt K5.1 g7t
  have Z8 := nt Z5 K7q.1
  have O8 := O5.keep K7q all0
  have K8 := K5.trans K7q all0
  refine gs (fun _ k => jo X7 hx hby d51_26 rfl rfl (jf X7 hx hby d51_28 rfl rfl (jd X7 hx hby d51_30 rfl k))) ?_
  refine cS (rest := []) X7 hx hZ hown (ow hw 260 rfl) (ow hw 261 rfl) (ow hw 21 rfl) (ow hw 262 rfl) (rm_gc l Z a0 hw [] t7 kb7 ([ch0, ch1] : List Int32) 0 4 T7.heap n0 Z8 O8 V7q (nb rfl) (nb rfl) (by decide) bq0 S_ad S_hi S_lo) hby d51_32 rfl pd_493 0 (by rw [hml]; rfl) rfl rfl rfl rfl (by decide) (by decide) fun _ T9 Lc9 X9 hQ9 => ?_
  obtain ⟨rfl, N9q, e9q⟩ := hQ9
  have N9 := Fr.app N7 N9q
  refine gs (fun _ k => XS.sipush X9.here hx rfl (hb hby d51_35) (jh (pc' := 54) X9 hx hby d51_38 (tlt dq0).2.2.1 (jf X9 hx hby d51_54 rfl rfl k))) ?_
  refine gout (v := some (.ref t7)) X9 Bd.notSynchronized (fun h => by rw [Bd.returns] at h; cases h) (by decide) (by decide) ?_ (fun fs hr => retOut X9 hx Bd.returns rfl (Or.inr (Or.inr (Or.inr (Or.inr ⟨rfl, rfl, rfl⟩)))) (hb hby d51_56) hr)
  rw [e9q]
  exact ⟨_, _, rfl, N9, K8, sz_t7, V7q⟩
theorem rm_cfl20 (l : Launch) (Z : State) (a0 : Array Value) (hw : HW Z a0) (ws : List Jvm.Cond) (t : Addr) (kb : ClassId) (vs : List Value) (h0 : Heap) (n0 : Nat) (Z0 : n0 ≤ h0.size) (O0 : Old Z n0 h0) (V_t : Arv Z h0 t kb .byte (4 : Int32) vs (.int (0 : Int32))) :
    Ctr l Z my3 jdk_52_method_15_code 2 ((Option.some Jvm.ClassFile.FieldType.byte)) ws (⟨0, 0, 0, 0⟩ : Room) #[(.ref t), (.int (2 : Int32))] h0 (fun v h L => v = some (.int (1 : Int32)) ∧ Fr n0 L ∧ h = h0) := by
  refine Ctr.go (plainFor_of_name pn_195) fun p e s m below meth c s₁ Bd hx hby hml hZ hown hnm X0 e0 => ?_
  have N0 := Fr.nil n0
  have K0 := Keep.refl h0 []
  refine gs (S' := s₁.setTop (mkF m 0 #[rv t, iv (2 : Int32)] [])) (fun tg kg => castTop (ef_196 m t (2 : Int32)) kg) ?_
  refine gs (fun _ k => jb X0 hx hby d52_0 rfl (ja X0 hx hby d52_1 rfl rfl k)) ?_
  obtain ⟨cl1, A1, a1q, a1S, a1N, a1H, a1G⟩ := id V_t
  refine gs (S' := s₁.setTop (mkF m 3 #[rv t, iv (2 : Int32)] [(.int (4 : Int32)), (.int (2 : Int32))])) (fun _ k => by refine X0.arraylength hx (by rw [e0]; exact A1.1) (State.isArrayOf_alike hZ.alike A1.2.1) (g := (mkF m 2 #[rv t, iv (2 : Int32)] [(.ref t), (.int (2 : Int32))])) rfl rfl (hb hby d52_2) _ ?_; rw [len_of a1S a1N]; exact k) ?_
  refine gs (fun _ k => jO X0 hx hby d52_3 (jr (v := (31 : Int32)) X0 hx hby d52_4 (o_iushr X0 hx hby d52_6 (jN X0 hx hby d52_7 k)))) ?_
  refine gout (v := some (.int (1 : Int32))) X0 Bd.notSynchronized (fun h => by rw [Bd.returns] at h; cases h) (by decide) (by decide) ?_ (fun fs hr => retN X0 hx (t := .byte) Bd.returns (by simp) (hb hby d52_8) hr)
  rw [e0]
  exact ⟨rfl, N0, rfl⟩
theorem rm_si4_20 (l : Launch) (Z : State) (a0 : Array Value) (hw : HW Z a0) (ws : List Jvm.Cond) (a : Addr) (b : Addr) (kc : ClassId) (ch0 : Int32) (ch1 : Int32) (z : Int32) (h0 : Heap) (n0 : Nat) (Z0 : n0 ≤ h0.size) (O0 : Old Z n0 h0) (E_a : Exa Z h0 a "java/lang/String") (F_va : Fld Z h0 a "java/lang/String" "value" "[B" .null) (F_ca : Fld Z h0 a "java/lang/String" "coder" "B" (.int (0 : Int32))) (g_a : n0 ≤ a) (V_b : Arv Z h0 b kc .char (2 : Int32) [(.int ch0), (.int ch1)] (.int (0 : Int32))) (dq0 : (255 : Int32) < ch0) (bq0 : ¬ ch0 < 0 ∧ ¬ (65535 : Int32) < ch0) (bq1 : ¬ ch1 < 0 ∧ ¬ (65535 : Int32) < ch1) (S_ad : PS0 Z (.int (1 : Int32))) (S_hi : PS1 Z (.int (0 : Int32))) (S_lo : PS2 Z (.int (8 : Int32))) (S0 : PS3 Z (.int z)) (hz : ¬ z = 0) :
    Ctr l Z my0 jdk_42_method_149_code 6 ((Option.none : Option Jvm.ClassFile.FieldType)) ws (⟨4, 2, 202, 57⟩ : Room) #[(.ref a), (.ref b), (.int (0 : Int32)), (.int (2 : Int32)), .null] h0 (fun v h L => v = none ∧ Fr n0 L ∧ Keep h0 h [a] ∧ SG Z h a [ch0, ch1]) := by
  refine Ctr.go (plainFor_of_name pn_15) fun p e s m below meth c s₁ Bd hx hby hml hZ hown hnm X0 e0 => ?_
  have N0 := Fr.nil n0
  have K0 := Keep.refl h0 [a]
  refine gs (S' := s₁.setTop (mkF m 0 #[rv a, rv b, iv (0 : Int32), iv (2 : Int32), .val .null, uu] [])) (fun tg kg => castTop (ef_0 m a b (0 : Int32) (2 : Int32)) kg) ?_
  refine gs (fun _ k => ja X0 hx hby d0_0 rfl rfl k) ?_
  obtain ⟨T1, X1, e1, st1⟩ := initO X0 hx hZ hown (ow hw 15 rfl) (ow hw 16 rfl) (ow hw 17 rfl) e0 (g := (mkF m 1 #[rv a, rv b, iv (0 : Int32), iv (2 : Int32), .val .null, uu] [(.ref a)])) rfl (by rw [hml]; rfl) rfl (hb hby d0_1) (by decide) (W := 0) (jK rfl) (by decide)
  refine gs (S' := T1.setTop (mkF m 4 #[rv a, rv b, iv (0 : Int32), iv (2 : Int32), .val .null, uu] [])) st1 ?_
  refine gs (fun _ k => jb X1 hx hby d0_4 rfl (jt (pc' := 27) X1 hx hby d0_5 ((if0 _ _).trans (feq (by decide : ¬ ((2 : Int32) = (0 : Int32)))).2) k)) ?_
  refine gS X1 hx hZ hown (host := "") (Or.inl (ow hw 18 rfl)) Via.refl e1 (S0.ext O0.2) hby d0_27 fun T2 X2 e2 => ?_
  refine gs (fun _ k => jn X2 hx hby d0_30 ((if0 _ _).trans (feq hz).1) (ja X2 hx hby d0_33 rfl rfl (jb X2 hx hby d0_34 rfl (jb X2 hx hby d0_35 rfl k)))) ?_
  refine cS (rest := []) X2 hx hZ hown (ow hw 19 rfl) (ow hw 20 rfl) (ow hw 21 rfl) (ow hw 22 rfl) (rm_cp3_20 l Z a0 hw [] b kc ch0 ch1 h0 n0 Z0 O0 V_b dq0 bq0 bq1 S_ad S_hi S_lo) hby d0_36 e2 pd_803 0 (by rw [hml]; rfl) rfl rfl rfl rfl (by decide) (by decide) fun _ T3 Lc3 X3 hQ3 => ?_
  obtain ⟨t3, kb3, rfl, N3q, K3q, g3t, V3q⟩ := hQ3
  have N3 := Fr.app N0 N3q
  have g_t3 : n0 ≤ t3 := nt Z0 g3t
  have sz_t3 : h0.size ≤ t3 := nt K0.1 g3t
  have Z4 := nt Z0 K3q.1
  have O4 := O0.keep K3q all0
  have K4 := K0.trans K3q all0
  refine gs (fun _ k => jo X3 hx hby d0_39 rfl rfl (ja X3 hx hby d0_41 rfl rfl (jf X3 hx hby d0_42 rfl rfl (jb X3 hx hby d0_44 rfl k)))) ?_
  refine cS (rest := [(.ref a)]) X3 hx hZ hown (ow hw 27 rfl) (ow hw 28 rfl) (ow hw 21 rfl) (ow hw 29 rfl) (rm_cfl20 l Z a0 hw [] t3 kb3 _ T3.heap n0 Z4 O4 V3q) hby d0_45 rfl pd_834 1 (by rw [hml]; rfl) rfl rfl rfl rfl (by decide) (by decide) fun _ T5 Lc5 X5 hQ5 => ?_
  obtain ⟨rfl, N5q, e5q⟩ := hQ5
  have N5 := Fr.app N3 N5q
  have f6 := (F_ca.keep K3q nin0)
  have f7 := (E_a.keep K3q)
  obtain ⟨T8, h8, X8, e8, W8, st8⟩ := putFN X5 hx hZ hown (ow hw 30 rfl) Via.refl e5q f6 f7 (Or.inr ⟨(ow hw 31 rfl), rfl, hnm⟩) (ow hw 5 rfl) (ty := .byte) (v' := (.int (1 : Int32))) (by decide) rfl rfl (g := (mkF m 48 #[rv a, rv b, iv (0 : Int32), iv (2 : Int32), .val .null, rv t3] [(.int (1 : Int32)), (.ref a)])) rfl rfl (hb hby d0_48)
  have N8 := Fr.snoc X8 N5 g_a
  have Fw8 := f6.same W8
  have Z9 := nt Z4 (Keep.of_wr W8).1
  have O9 := O4.wr W8 g_a
  have K9 := K4.wr W8 (Or.inl (List.mem_of_getElem? (i := 0) rfl))
  refine gs (S' := T8.setTop (mkF m 51 #[rv a, rv b, iv (0 : Int32), iv (2 : Int32), .val .null, rv t3] [])) st8 ?_
  refine gs (fun _ k => ja X8 hx hby d0_51 rfl rfl (jf X8 hx hby d0_52 rfl rfl k)) ?_
  have f10 := ((F_va.keep K3q nin0).other W8 (Or.inr (slot_ne (Or.inr (ow hw 33 rfl)) (Or.inr (ow hw 31 rfl)) (by decide) (t := (.array .byte)) (t' := .byte) (by decide) (by decide))))
  have f11 := (f7.wr W8)
  obtain ⟨T12, h12, X12, e12, W12, st12⟩ := putF X8 hx hZ hown (host := "") (Or.inl (ow hw 32 rfl)) Via.refl e8 f10 f11 (Or.inr ⟨(ow hw 33 rfl), rfl, hnm⟩) (ow hw 5 rfl) (ty := (.array .byte)) (by decide) rfl rfl (g := (mkF m 54 #[rv a, rv b, iv (0 : Int32), iv (2 : Int32), .val .null, rv t3] [(.ref t3), (.ref a)])) rfl rfl (hb hby d0_54)
  have N12 := Fr.snoc X12 N8 g_a
  have Fw12 := f10.same W12
  have Z13 := nt Z9 (Keep.of_wr W12).1
  have O13 := O9.wr W12 g_a
  have K13 := K9.wr W12 (Or.inl (List.mem_of_getElem? (i := 0) rfl))
  refine gs (S' := T12.setTop (mkF m 57 #[rv a, rv b, iv (0 : Int32), iv (2 : Int32), .val .null, rv t3] [])) st12 ?_
  have f14 := ((V3q.other W8 (Ne.symm (nw (nu (nu E_a.lt (Nat.le_refl _)) g3t)))).other W12 (Ne.symm (nw (nu (nu E_a.lt (Nat.le_refl _)) g3t))))
  have f15 := (f11.wr W12)
  have f16 := (Fw8.other W12 (Or.inr (slot_ne (Or.inr (ow hw 31 rfl)) (Or.inr (ow hw 33 rfl)) (by decide) (t := .byte) (t' := (.array .byte)) (by decide) (by decide))))
  refine gout (v := none) X12 Bd.notSynchronized (fun _ => rfl) (by decide) (by decide) ?_ (fun fs hr => X12.returnOut hx Bd.returns (hb hby d0_57) hr)
  rw [e12]
  exact ⟨rfl, N12, K13, _, _, 1, _, f15, f16, Fw12, by rw [jA]; exact f14, Or.inr ⟨rfl, rfl, (by intro c hc; simp only [List.mem_cons, List.not_mem_nil, or_false] at hc; rcases hc with rfl | rfl; exact bq0; exact bq1)⟩⟩
theorem rm_cp5_21 (l : Launch) (Z : State) (a0 : Array Value) (hw : HW Z a0) (ws : List Jvm.Cond) (b : Addr) (kc : ClassId) (t : Addr) (kb : ClassId) (ch0 : Int32) (ch1 : Int32) (h0 : Heap) (n0 : Nat) (Z0 : n0 ≤ h0.size) (O0 : Old Z n0 h0) (V_b : Arv Z h0 b kc .char (2 : Int32) [(.int ch0), (.int ch1)] (.int (0 : Int32))) (V_t : Arv Z h0 t kb .byte (2 : Int32) [(.int (0 : Int32)), (.int (0 : Int32))] (.int (0 : Int32))) (g_t : n0 ≤ t) (hbt : b ≠ t) (dq0 : ¬ (255 : Int32) < ch0) (dq1 : (255 : Int32) < ch1) :
    Ctr l Z my1 jdk_52_method_21_code 7 ((Option.some Jvm.ClassFile.FieldType.int)) ws (⟨0, 0, 0, 0⟩ : Room) #[(.ref b), (.int (0 : Int32)), (.ref t), (.int (0 : Int32)), (.int (2 : Int32))] h0 (fun v h L => v = some (.int (1 : Int32)) ∧ Fr n0 L ∧ Keep h0 h [t]) := by
  refine Ctr.go (plainFor_of_name pn_195) fun p e s m below meth c s₁ Bd hx hby hml hZ hown hnm X0 e0 => ?_
  have N0 := Fr.nil n0
  have K0 := Keep.refl h0 [t]
  refine gs (S' := s₁.setTop (mkF m 0 #[rv b, iv (0 : Int32), rv t, iv (0 : Int32), iv (2 : Int32), uu, uu] [])) (fun tg kg => castTop (ef_767 m b (0 : Int32) t (0 : Int32) (2 : Int32)) kg) ?_
  refine gs (fun _ k => je (v := (0 : Int32)) X0 hx hby d50_0 (jj X0 hx hby d50_1 rfl (jd X0 hx hby d50_3 rfl (jd X0 hx hby d50_5 rfl (ji X0 hx hby d50_7 (tlt (by decide : (0 : Int32) < (2 : Int32))).2.1 (ja X0 hx hby d50_10 rfl rfl (jb X0 hx hby d50_11 rfl k))))))) ?_
  obtain ⟨cl1, A1, a1q, a1S, a1N, a1H, a1G⟩ := id V_b
  have hi1 := inb_of a1S (j := (0 : Int32)) ⟨by decide, by decide⟩
  refine gs (fun _ k => X0.caload hx (j := (0 : Int32)) (v := (.int ch0)) (by rw [e0]; exact A1.1) (State.isArrayOf_alike hZ.alike A1.2.1) A1.2.2 hi1 (Has.at a1H hi1 rfl) (g := (mkF m 12 #[rv b, iv (0 : Int32), rv t, iv (0 : Int32), iv (2 : Int32), iv (0 : Int32), uu] [(.int (0 : Int32)), (.ref b)])) rfl rfl (hb hby d50_12) _ (jj X0 hx hby d50_13 rfl (jd X0 hx hby d50_15 rfl (XS.sipush X0.here hx rfl (hb hby d50_17) (jh (pc' := 26) X0 hx hby d50_20 (flt dq0).2.2.2 (ja X0 hx hby d50_26 rfl rfl (jb X0 hx hby d50_27 rfl (jd X0 hx hby d50_28 rfl (jN X0 hx hby d50_30 k))))))))) ?_
  obtain ⟨cl2, A2, a2q, a2S, a2N, a2H, a2G⟩ := id V_t
  obtain ⟨T2, h2, X2, e2, W2, st2⟩ := stB X0 hx hZ e0 A2 (j := (0 : Int32)) (inb_of a2S ⟨by decide, by decide⟩) (g := (mkF m 31 #[rv b, iv (0 : Int32), rv t, iv (0 : Int32), iv (2 : Int32), iv (0 : Int32), iv ch0] [(.int (ch0.toInt8.toInt32)), (.int (0 : Int32)), (.ref t)])) rfl rfl (hb hby d50_31)
  have V2 : Arv Z h2 t kb .byte (2 : Int32) [(.int (nar .byte (ch0.toInt8.toInt32))), (.int (0 : Int32))] (.int (0 : Int32)) := Arv.set A2 a2q a2S a2N a2H a2G (fits_nar_byte _) W2 0 rfl (nb rfl)
  have N2 := Fr.snoc X2 N0 g_t
  have Z3 := nt Z0 (Keep.of_wr W2).1
  have O3 := O0.wr W2 g_t
  have K3 := K0.wr W2 (Or.inl (List.mem_of_getElem? (i := 0) rfl))
  refine gs (S' := T2.setTop (mkF m 32 #[rv b, iv (0 : Int32), rv t, iv (0 : Int32), iv (2 : Int32), iv (0 : Int32), iv ch0] [])) st2 ?_
  refine gs (fun _ k => jm X2 hx hby d50_32 rfl rfl (jm X2 hx hby d50_35 rfl rfl (jm X2 hx hby d50_38 rfl rfl (jl (pc' := 3) X2 hx hby d50_41 (jd X2 hx hby d50_3 rfl (jd X2 hx hby d50_5 rfl (ji X2 hx hby d50_7 (tlt (by decide : (1 : Int32) < (2 : Int32))).2.1 (ja X2 hx hby d50_10 rfl rfl (jb X2 hx hby d50_11 rfl k))))))))) ?_
  have f4 := (V_b.other W2 hbt)
  obtain ⟨cl5, A5, a5q, a5S, a5N, a5H, a5G⟩ := id f4
  have hi5 := inb_of a5S (j := (1 : Int32)) ⟨by decide, by decide⟩
  refine gs (fun _ k => X2.caload hx (j := (1 : Int32)) (v := (.int ch1)) (by rw [e2]; exact A5.1) (State.isArrayOf_alike hZ.alike A5.2.1) A5.2.2 hi5 (Has.at a5H hi5 rfl) (g := (mkF m 12 #[rv b, iv (1 : Int32), rv t, iv (1 : Int32), iv (2 : Int32), iv (1 : Int32), iv ch0] [(.int (1 : Int32)), (.ref b)])) rfl rfl (hb hby d50_12) _ (jj X2 hx hby d50_13 rfl (jd X2 hx hby d50_15 rfl (XS.sipush X2.here hx rfl (hb hby d50_17) (ji X2 hx hby d50_20 (tlt dq1).2.2.2 (jd X2 hx hby d50_23 rfl k)))))) ?_
  refine gout (v := some (.int (1 : Int32))) X2 Bd.notSynchronized (fun h => by rw [Bd.returns] at h; cases h) (by decide) (by decide) ?_ (fun fs hr => retI X2 hx Bd.returns (hb hby d50_25) hr)
  rw [e2]
  exact ⟨rfl, N2, K3⟩
theorem rm_cp3_21 (l : Launch) (Z : State) (a0 : Array Value) (hw : HW Z a0) (ws : List Jvm.Cond) (b : Addr) (kc : ClassId) (ch0 : Int32) (ch1 : Int32) (h0 : Heap) (n0 : Nat) (Z0 : n0 ≤ h0.size) (O0 : Old Z n0 h0) (V_b : Arv Z h0 b kc .char (2 : Int32) [(.int ch0), (.int ch1)] (.int (0 : Int32))) (dq0 : ¬ (255 : Int32) < ch0) (dq1 : (255 : Int32) < ch1) (bq0 : ¬ ch0 < 0 ∧ ¬ (65535 : Int32) < ch0) (bq1 : ¬ ch1 < 0 ∧ ¬ (65535 : Int32) < ch1) (S_ad : PS0 Z (.int (1 : Int32))) (S_hi : PS1 Z (.int (0 : Int32))) (S_lo : PS2 Z (.int (8 : Int32))) :
    Ctr l Z my2 jdk_52_method_16_code 6 ((Option.some (Jvm.ClassFile.FieldType.array Jvm.ClassFile.FieldType.byte))) ws (⟨3, 2, 202, 40⟩ : Room) #[(.ref b), (.int (0 : Int32)), (.int (2 : Int32))] h0 (fun v h L => ∃ (t1 : Addr) (k1 : ClassId), v = some (.ref t1) ∧ Fr n0 L ∧ Keep h0 h [] ∧ h0.size ≤ t1 ∧ Arv Z h t1 k1 .byte (4 : Int32) (jq [ch0, ch1]) (.int (0 : Int32))) := by
  refine Ctr.go (plainFor_of_name pn_195) fun p e s m below meth c s₁ Bd hx hby hml hZ hown hnm X0 e0 => ?_
  have N0 := Fr.nil n0
  have K0 := Keep.refl h0 []
  refine gs (S' := s₁.setTop (mkF m 0 #[rv b, iv (0 : Int32), iv (2 : Int32), uu, uu, uu] [])) (fun tg kg => castTop (ef_783 m b (0 : Int32) (2 : Int32)) kg) ?_
  refine gs (fun _ k => jb X0 hx hby d51_0 rfl k) ?_
  obtain ⟨T1, h1, k1, X1, e1, E1, A1, st1⟩ := newP X0 hx hZ (ow hw 23 rfl) e0 (g := (mkF m 1 #[rv b, iv (0 : Int32), iv (2 : Int32), uu, uu, uu] [(.int (2 : Int32))])) rfl (hb hby d51_1) rfl (by decide) (cap := 2) (by decide) (by decide) (by decide) (by decide)
  obtain ⟨b1, q1⟩ : ∃ z, z = h0.size := ⟨_, rfl⟩
  rw [← q1] at A1 st1
  have g_b1 : n0 ≤ b1 := nt Z0 (Nat.le_of_eq q1.symm)
  have sz_b1 : h0.size ≤ b1 := nt K0.1 (Nat.le_of_eq q1.symm)
  have Z2 := nt Z0 E1.1
  have O2 := O0.ext E1
  have K2 := K0.ext E1
  have V1 : Arv Z h1 b1 k1 .byte (2 : Int32) [(.int (0 : Int32)), (.int (0 : Int32))] (.int (0 : Int32)) := (Arv.new A1 (by decide)).pad (pad_rep [] (.int (0 : Int32)) 2)
  refine gs (S' := T1.setTop (mkF m 3 #[rv b, iv (0 : Int32), iv (2 : Int32), uu, uu, uu] [(.ref b1)])) st1 ?_
  refine gs (fun _ k => jw X1 hx hby d51_3 rfl rfl (ja X1 hx hby d51_4 rfl rfl (jb X1 hx hby d51_5 rfl (ja X1 hx hby d51_6 rfl rfl (je (v := (0 : Int32)) X1 hx hby d51_7 (jb X1 hx hby d51_8 rfl k)))))) ?_
  have f3 := (V_b.ext E1)
  refine cS (rest := []) X1 hx hZ hown (ow hw 24 rfl) (ow hw 25 rfl) (ow hw 21 rfl) (ow hw 26 rfl) (rm_cp5_21 l Z a0 hw [] b kc b1 k1 ch0 ch1 h1 n0 Z2 O2 f3 V1 g_b1 (nw (nu (nu V_b.lt (Nat.le_refl _)) (Nat.le_of_eq q1.symm))) dq0 dq1) hby d51_9 e1 pd_794 0 (by rw [hml]; rfl) rfl rfl rfl rfl (by decide) (by decide) fun _ T4 Lc4 X4 hQ4 => ?_
  obtain ⟨rfl, N4q, K4q⟩ := hQ4
  have N4 := Fr.app N0 N4q
  have Z5 := nt Z2 K4q.1
  have O5 := O2.keep K4q (allS g_b1 all0)
  have K5 := K2.trans K4q (allS (Or.inr sz_b1) all0)
  refine gs (fun _ k => jj X4 hx hby d51_12 rfl (jd X4 hx hby d51_14 rfl (jb X4 hx hby d51_16 rfl (ji X4 hx hby d51_17 (feq (by decide : ¬ ((1 : Int32) = (2 : Int32)))).1 (ja X4 hx hby d51_20 rfl rfl (jb X4 hx hby d51_21 rfl (jb X4 hx hby d51_22 rfl k))))))) ?_
  have f6 := (f3.keep K4q (ninS (nw (nu (nu V_b.lt (Nat.le_refl _)) (Nat.le_of_eq q1.symm))) nin0))
  refine cS (rest := []) X4 hx hZ hown (ow hw 244 rfl) (ow hw 245 rfl) (ow hw 21 rfl) (ow hw 246 rfl) (rm_tb16_2 l Z a0 hw [] b kc ch0 ch1 T4.heap n0 Z5 O5 f6 S_ad S_hi S_lo) hby d51_23 rfl pd_803 0 (by rw [hml]; rfl) rfl rfl rfl rfl (by decide) (by decide) fun _ T7 Lc7 X7 hQ7 => ?_
  obtain ⟨t7, kb7, rfl, N7q, K7q, g7t, E7t, V7q⟩ := hQ7
  have N7 := Fr.app N4 N7q
  have g_t7 : n0 ≤ t7 := nt Z5 g7t
  have sz_t7 : h0.size ≤ t7 := nt K5.1 g7t
  have Z8 := nt Z5 K7q.1
  have O8 := O5.keep K7q all0
  have K8 := K5.trans K7q all0
  refine gs (fun _ k => jo X7 hx hby d51_26 rfl rfl (jf X7 hx hby d51_28 rfl rfl (jd X7 hx hby d51_30 rfl k))) ?_
  refine cS (rest := []) X7 hx hZ hown (ow hw 260 rfl) (ow hw 261 rfl) (ow hw 21 rfl) (ow hw 262 rfl) (rm_gc l Z a0 hw [] t7 kb7 ([ch0, ch1] : List Int32) 1 4 T7.heap n0 Z8 O8 V7q (nb rfl) (nb rfl) (by decide) bq1 S_ad S_hi S_lo) hby d51_32 rfl pd_493 0 (by rw [hml]; rfl) rfl rfl rfl rfl (by decide) (by decide) fun _ T9 Lc9 X9 hQ9 => ?_
  obtain ⟨rfl, N9q, e9q⟩ := hQ9
  have N9 := Fr.app N7 N9q
  refine gs (fun _ k => XS.sipush X9.here hx rfl (hb hby d51_35) (jh (pc' := 54) X9 hx hby d51_38 (tlt dq1).2.2.1 (jf X9 hx hby d51_54 rfl rfl k))) ?_
  refine gout (v := some (.ref t7)) X9 Bd.notSynchronized (fun h => by rw [Bd.returns] at h; cases h) (by decide) (by decide) ?_ (fun fs hr => retOut X9 hx Bd.returns rfl (Or.inr (Or.inr (Or.inr (Or.inr ⟨rfl, rfl, rfl⟩)))) (hb hby d51_56) hr)
  rw [e9q]
  exact ⟨_, _, rfl, N9, K8, sz_t7, V7q⟩
theorem rm_cfl21 (l : Launch) (Z : State) (a0 : Array Value) (hw : HW Z a0) (ws : List Jvm.Cond) (t : Addr) (kb : ClassId) (vs : List Value) (h0 : Heap) (n0 : Nat) (Z0 : n0 ≤ h0.size) (O0 : Old Z n0 h0) (V_t : Arv Z h0 t kb .byte (4 : Int32) vs (.int (0 : Int32))) :
    Ctr l Z my3 jdk_52_method_15_code 2 ((Option.some Jvm.ClassFile.FieldType.byte)) ws (⟨0, 0, 0, 0⟩ : Room) #[(.ref t), (.int (2 : Int32))] h0 (fun v h L => v = some (.int (1 : Int32)) ∧ Fr n0 L ∧ h = h0) := by
  refine Ctr.go (plainFor_of_name pn_195) fun p e s m below meth c s₁ Bd hx hby hml hZ hown hnm X0 e0 => ?_
  have N0 := Fr.nil n0
  have K0 := Keep.refl h0 []
  refine gs (S' := s₁.setTop (mkF m 0 #[rv t, iv (2 : Int32)] [])) (fun tg kg => castTop (ef_196 m t (2 : Int32)) kg) ?_
  refine gs (fun _ k => jb X0 hx hby d52_0 rfl (ja X0 hx hby d52_1 rfl rfl k)) ?_
  obtain ⟨cl1, A1, a1q, a1S, a1N, a1H, a1G⟩ := id V_t
  refine gs (S' := s₁.setTop (mkF m 3 #[rv t, iv (2 : Int32)] [(.int (4 : Int32)), (.int (2 : Int32))])) (fun _ k => by refine X0.arraylength hx (by rw [e0]; exact A1.1) (State.isArrayOf_alike hZ.alike A1.2.1) (g := (mkF m 2 #[rv t, iv (2 : Int32)] [(.ref t), (.int (2 : Int32))])) rfl rfl (hb hby d52_2) _ ?_; rw [len_of a1S a1N]; exact k) ?_
  refine gs (fun _ k => jO X0 hx hby d52_3 (jr (v := (31 : Int32)) X0 hx hby d52_4 (o_iushr X0 hx hby d52_6 (jN X0 hx hby d52_7 k)))) ?_
  refine gout (v := some (.int (1 : Int32))) X0 Bd.notSynchronized (fun h => by rw [Bd.returns] at h; cases h) (by decide) (by decide) ?_ (fun fs hr => retN X0 hx (t := .byte) Bd.returns (by simp) (hb hby d52_8) hr)
  rw [e0]
  exact ⟨rfl, N0, rfl⟩
theorem rm_si4_21 (l : Launch) (Z : State) (a0 : Array Value) (hw : HW Z a0) (ws : List Jvm.Cond) (a : Addr) (b : Addr) (kc : ClassId) (ch0 : Int32) (ch1 : Int32) (z : Int32) (h0 : Heap) (n0 : Nat) (Z0 : n0 ≤ h0.size) (O0 : Old Z n0 h0) (E_a : Exa Z h0 a "java/lang/String") (F_va : Fld Z h0 a "java/lang/String" "value" "[B" .null) (F_ca : Fld Z h0 a "java/lang/String" "coder" "B" (.int (0 : Int32))) (g_a : n0 ≤ a) (V_b : Arv Z h0 b kc .char (2 : Int32) [(.int ch0), (.int ch1)] (.int (0 : Int32))) (dq0 : ¬ (255 : Int32) < ch0) (dq1 : (255 : Int32) < ch1) (bq0 : ¬ ch0 < 0 ∧ ¬ (65535 : Int32) < ch0) (bq1 : ¬ ch1 < 0 ∧ ¬ (65535 : Int32) < ch1) (S_ad : PS0 Z (.int (1 : Int32))) (S_hi : PS1 Z (.int (0 : Int32))) (S_lo : PS2 Z (.int (8 : Int32))) (S0 : PS3 Z (.int z)) (hz : ¬ z = 0) :
    Ctr l Z my0 jdk_42_method_149_code 6 ((Option.none : Option Jvm.ClassFile.FieldType)) ws (⟨4, 2, 202, 57⟩ : Room) #[(.ref a), (.ref b), (.int (0 : Int32)), (.int (2 : Int32)), .null] h0 (fun v h L => v = none ∧ Fr n0 L ∧ Keep h0 h [a] ∧ SG Z h a [ch0, ch1]) := by
  refine Ctr.go (plainFor_of_name pn_15) fun p e s m below meth c s₁ Bd hx hby hml hZ hown hnm X0 e0 => ?_
  have N0 := Fr.nil n0
  have K0 := Keep.refl h0 [a]
  refine gs (S' := s₁.setTop (mkF m 0 #[rv a, rv b, iv (0 : Int32), iv (2 : Int32), .val .null, uu] [])) (fun tg kg => castTop (ef_0 m a b (0 : Int32) (2 : Int32)) kg) ?_
  refine gs (fun _ k => ja X0 hx hby d0_0 rfl rfl k) ?_
  obtain ⟨T1, X1, e1, st1⟩ := initO X0 hx hZ hown (ow hw 15 rfl) (ow hw 16 rfl) (ow hw 17 rfl) e0 (g := (mkF m 1 #[rv a, rv b, iv (0 : Int32), iv (2 : Int32), .val .null, uu] [(.ref a)])) rfl (by rw [hml]; rfl) rfl (hb hby d0_1) (by decide) (W := 0) (jK rfl) (by decide)
  refine gs (S' := T1.setTop (mkF m 4 #[rv a, rv b, iv (0 : Int32), iv (2 : Int32), .val .null, uu] [])) st1 ?_
  refine gs (fun _ k => jb X1 hx hby d0_4 rfl (jt (pc' := 27) X1 hx hby d0_5 ((if0 _ _).trans (feq (by decide : ¬ ((2 : Int32) = (0 : Int32)))).2) k)) ?_
  refine gS X1 hx hZ hown (host := "") (Or.inl (ow hw 18 rfl)) Via.refl e1 (S0.ext O0.2) hby d0_27 fun T2 X2 e2 => ?_
  refine gs (fun _ k => jn X2 hx hby d0_30 ((if0 _ _).trans (feq hz).1) (ja X2 hx hby d0_33 rfl rfl (jb X2 hx hby d0_34 rfl (jb X2 hx hby d0_35 rfl k)))) ?_
  refine cS (rest := []) X2 hx hZ hown (ow hw 19 rfl) (ow hw 20 rfl) (ow hw 21 rfl) (ow hw 22 rfl) (rm_cp3_21 l Z a0 hw [] b kc ch0 ch1 h0 n0 Z0 O0 V_b dq0 dq1 bq0 bq1 S_ad S_hi S_lo) hby d0_36 e2 pd_803 0 (by rw [hml]; rfl) rfl rfl rfl rfl (by decide) (by decide) fun _ T3 Lc3 X3 hQ3 => ?_
  obtain ⟨t3, kb3, rfl, N3q, K3q, g3t, V3q⟩ := hQ3
  have N3 := Fr.app N0 N3q
  have g_t3 : n0 ≤ t3 := nt Z0 g3t
  have sz_t3 : h0.size ≤ t3 := nt K0.1 g3t
  have Z4 := nt Z0 K3q.1
  have O4 := O0.keep K3q all0
  have K4 := K0.trans K3q all0
  refine gs (fun _ k => jo X3 hx hby d0_39 rfl rfl (ja X3 hx hby d0_41 rfl rfl (jf X3 hx hby d0_42 rfl rfl (jb X3 hx hby d0_44 rfl k)))) ?_
  refine cS (rest := [(.ref a)]) X3 hx hZ hown (ow hw 27 rfl) (ow hw 28 rfl) (ow hw 21 rfl) (ow hw 29 rfl) (rm_cfl21 l Z a0 hw [] t3 kb3 _ T3.heap n0 Z4 O4 V3q) hby d0_45 rfl pd_834 1 (by rw [hml]; rfl) rfl rfl rfl rfl (by decide) (by decide) fun _ T5 Lc5 X5 hQ5 => ?_
  obtain ⟨rfl, N5q, e5q⟩ := hQ5
  have N5 := Fr.app N3 N5q
  have f6 := (F_ca.keep K3q nin0)
  have f7 := (E_a.keep K3q)
  obtain ⟨T8, h8, X8, e8, W8, st8⟩ := putFN X5 hx hZ hown (ow hw 30 rfl) Via.refl e5q f6 f7 (Or.inr ⟨(ow hw 31 rfl), rfl, hnm⟩) (ow hw 5 rfl) (ty := .byte) (v' := (.int (1 : Int32))) (by decide) rfl rfl (g := (mkF m 48 #[rv a, rv b, iv (0 : Int32), iv (2 : Int32), .val .null, rv t3] [(.int (1 : Int32)), (.ref a)])) rfl rfl (hb hby d0_48)
  have N8 := Fr.snoc X8 N5 g_a
  have Fw8 := f6.same W8
  have Z9 := nt Z4 (Keep.of_wr W8).1
  have O9 := O4.wr W8 g_a
  have K9 := K4.wr W8 (Or.inl (List.mem_of_getElem? (i := 0) rfl))
  refine gs (S' := T8.setTop (mkF m 51 #[rv a, rv b, iv (0 : Int32), iv (2 : Int32), .val .null, rv t3] [])) st8 ?_
  refine gs (fun _ k => ja X8 hx hby d0_51 rfl rfl (jf X8 hx hby d0_52 rfl rfl k)) ?_
  have f10 := ((F_va.keep K3q nin0).other W8 (Or.inr (slot_ne (Or.inr (ow hw 33 rfl)) (Or.inr (ow hw 31 rfl)) (by decide) (t := (.array .byte)) (t' := .byte) (by decide) (by decide))))
  have f11 := (f7.wr W8)
  obtain ⟨T12, h12, X12, e12, W12, st12⟩ := putF X8 hx hZ hown (host := "") (Or.inl (ow hw 32 rfl)) Via.refl e8 f10 f11 (Or.inr ⟨(ow hw 33 rfl), rfl, hnm⟩) (ow hw 5 rfl) (ty := (.array .byte)) (by decide) rfl rfl (g := (mkF m 54 #[rv a, rv b, iv (0 : Int32), iv (2 : Int32), .val .null, rv t3] [(.ref t3), (.ref a)])) rfl rfl (hb hby d0_54)
  have N12 := Fr.snoc X12 N8 g_a
  have Fw12 := f10.same W12
  have Z13 := nt Z9 (Keep.of_wr W12).1
  have O13 := O9.wr W12 g_a
  have K13 := K9.wr W12 (Or.inl (List.mem_of_getElem? (i := 0) rfl))
  refine gs (S' := T12.setTop (mkF m 57 #[rv a, rv b, iv (0 : Int32), iv (2 : Int32), .val .null, rv t3] [])) st12 ?_
  have f14 := ((V3q.other W8 (Ne.symm (nw (nu (nu E_a.lt (Nat.le_refl _)) g3t)))).other W12 (Ne.symm (nw (nu (nu E_a.lt (Nat.le_refl _)) g3t))))
  have f15 := (f11.wr W12)
  have f16 := (Fw8.other W12 (Or.inr (slot_ne (Or.inr (ow hw 31 rfl)) (Or.inr (ow hw 33 rfl)) (by decide) (t := .byte) (t' := (.array .byte)) (by decide) (by decide))))
  refine gout (v := none) X12 Bd.notSynchronized (fun _ => rfl) (by decide) (by decide) ?_ (fun fs hr => X12.returnOut hx Bd.returns (hb hby d0_57) hr)
  rw [e12]
  exact ⟨rfl, N12, K13, _, _, 1, _, f15, f16, Fw12, by rw [jA]; exact f14, Or.inr ⟨rfl, rfl, (by intro c hc; simp only [List.mem_cons, List.not_mem_nil, or_false] at hc; rcases hc with rfl | rfl; exact bq0; exact bq1)⟩⟩
theorem rm_cp5_22 (l : Launch) (Z : State) (a0 : Array Value) (hw : HW Z a0) (ws : List Jvm.Cond) (b : Addr) (kc : ClassId) (t : Addr) (kb : ClassId) (ch0 : Int32) (ch1 : Int32) (h0 : Heap) (n0 : Nat) (Z0 : n0 ≤ h0.size) (O0 : Old Z n0 h0) (V_b : Arv Z h0 b kc .char (2 : Int32) [(.int ch0), (.int ch1)] (.int (0 : Int32))) (V_t : Arv Z h0 t kb .byte (2 : Int32) [(.int (0 : Int32)), (.int (0 : Int32))] (.int (0 : Int32))) (g_t : n0 ≤ t) (hbt : b ≠ t) (dq0 : ¬ (255 : Int32) < ch0) (dq1 : ¬ (255 : Int32) < ch1) :
    Ctr l Z my1 jdk_52_method_21_code 7 ((Option.some Jvm.ClassFile.FieldType.int)) ws (⟨0, 0, 0, 0⟩ : Room) #[(.ref b), (.int (0 : Int32)), (.ref t), (.int (0 : Int32)), (.int (2 : Int32))] h0 (fun v h L => v = some (.int (2 : Int32)) ∧ Fr n0 L ∧ Keep h0 h [t] ∧ Arv Z h t kb .byte (2 : Int32) [(.int (nar .byte (ch0.toInt8.toInt32))), (.int (nar .byte (ch1.toInt8.toInt32)))] (.int (0 : Int32))) := by
  refine Ctr.go (plainFor_of_name pn_195) fun p e s m below meth c s₁ Bd hx hby hml hZ hown hnm X0 e0 => ?_
  have N0 := Fr.nil n0
  have K0 := Keep.refl h0 [t]
  refine gs (S' := s₁.setTop (mkF m 0 #[rv b, iv (0 : Int32), rv t, iv (0 : Int32), iv (2 : Int32), uu, uu] [])) (fun tg kg => castTop (ef_767 m b (0 : Int32) t (0 : Int32) (2 : Int32)) kg) ?_
  refine gs (fun _ k => je (v := (0 : Int32)) X0 hx hby d50_0 (jj X0 hx hby d50_1 rfl (jd X0 hx hby d50_3 rfl (jd X0 hx hby d50_5 rfl (ji X0 hx hby d50_7 (tlt (by decide : (0 : Int32) < (2 : Int32))).2.1 (ja X0 hx hby d50_10 rfl rfl (jb X0 hx hby d50_11 rfl k))))))) ?_
  obtain ⟨cl1, A1, a1q, a1S, a1N, a1H, a1G⟩ := id V_b
  have hi1 := inb_of a1S (j := (0 : Int32)) ⟨by decide, by decide⟩
  refine gs (fun _ k => X0.caload hx (j := (0 : Int32)) (v := (.int ch0)) (by rw [e0]; exact A1.1) (State.isArrayOf_alike hZ.alike A1.2.1) A1.2.2 hi1 (Has.at a1H hi1 rfl) (g := (mkF m 12 #[rv b, iv (0 : Int32), rv t, iv (0 : Int32), iv (2 : Int32), iv (0 : Int32), uu] [(.int (0 : Int32)), (.ref b)])) rfl rfl (hb hby d50_12) _ (jj X0 hx hby d50_13 rfl (jd X0 hx hby d50_15 rfl (XS.sipush X0.here hx rfl (hb hby d50_17) (jh (pc' := 26) X0 hx hby d50_20 (flt dq0).2.2.2 (ja X0 hx hby d50_26 rfl rfl (jb X0 hx hby d50_27 rfl (jd X0 hx hby d50_28 rfl (jN X0 hx hby d50_30 k))))))))) ?_
  obtain ⟨cl2, A2, a2q, a2S, a2N, a2H, a2G⟩ := id V_t
  obtain ⟨T2, h2, X2, e2, W2, st2⟩ := stB X0 hx hZ e0 A2 (j := (0 : Int32)) (inb_of a2S ⟨by decide, by decide⟩) (g := (mkF m 31 #[rv b, iv (0 : Int32), rv t, iv (0 : Int32), iv (2 : Int32), iv (0 : Int32), iv ch0] [(.int (ch0.toInt8.toInt32)), (.int (0 : Int32)), (.ref t)])) rfl rfl (hb hby d50_31)
  have V2 : Arv Z h2 t kb .byte (2 : Int32) [(.int (nar .byte (ch0.toInt8.toInt32))), (.int (0 : Int32))] (.int (0 : Int32)) := Arv.set A2 a2q a2S a2N a2H a2G (fits_nar_byte _) W2 0 rfl (nb rfl)
  have N2 := Fr.snoc X2 N0 g_t
  have Z3 := nt Z0 (Keep.of_wr W2).1
  have O3 := O0.wr W2 g_t
  have K3 := K0.wr W2 (Or.inl (List.mem_of_getElem? (i := 0) rfl))
  refine gs (S' := T2.setTop (mkF m 32 #[rv b, iv (0 : Int32), rv t, iv (0 : Int32), iv (2 : Int32), iv (0 : Int32), iv ch0] [])) st2 ?_
  refine gs (fun _ k => jm X2 hx hby d50_32 rfl rfl (jm X2 hx hby d50_35 rfl rfl (jm X2 hx hby d50_38 rfl rfl (jl (pc' := 3) X2 hx hby d50_41 (jd X2 hx hby d50_3 rfl (jd X2 hx hby d50_5 rfl (ji X2 hx hby d50_7 (tlt (by decide : (1 : Int32) < (2 : Int32))).2.1 (ja X2 hx hby d50_10 rfl rfl (jb X2 hx hby d50_11 rfl k))))))))) ?_
  have f4 := (V_b.other W2 hbt)
  obtain ⟨cl5, A5, a5q, a5S, a5N, a5H, a5G⟩ := id f4
  have hi5 := inb_of a5S (j := (1 : Int32)) ⟨by decide, by decide⟩
  refine gs (fun _ k => X2.caload hx (j := (1 : Int32)) (v := (.int ch1)) (by rw [e2]; exact A5.1) (State.isArrayOf_alike hZ.alike A5.2.1) A5.2.2 hi5 (Has.at a5H hi5 rfl) (g := (mkF m 12 #[rv b, iv (1 : Int32), rv t, iv (1 : Int32), iv (2 : Int32), iv (1 : Int32), iv ch0] [(.int (1 : Int32)), (.ref b)])) rfl rfl (hb hby d50_12) _ (jj X2 hx hby d50_13 rfl (jd X2 hx hby d50_15 rfl (XS.sipush X2.here hx rfl (hb hby d50_17) (jh (pc' := 26) X2 hx hby d50_20 (flt dq1).2.2.2 (ja X2 hx hby d50_26 rfl rfl (jb X2 hx hby d50_27 rfl (jd X2 hx hby d50_28 rfl (jN X2 hx hby d50_30 k))))))))) ?_
  obtain ⟨cl6, A6, a6q, a6S, a6N, a6H, a6G⟩ := id V2
  obtain ⟨T6, h6, X6, e6, W6, st6⟩ := stB X2 hx hZ e2 A6 (j := (1 : Int32)) (inb_of a6S ⟨by decide, by decide⟩) (g := (mkF m 31 #[rv b, iv (1 : Int32), rv t, iv (1 : Int32), iv (2 : Int32), iv (1 : Int32), iv ch1] [(.int (ch1.toInt8.toInt32)), (.int (1 : Int32)), (.ref t)])) rfl rfl (hb hby d50_31)
  have V6 : Arv Z h6 t kb .byte (2 : Int32) [(.int (nar .byte (ch0.toInt8.toInt32))), (.int (nar .byte (ch1.toInt8.toInt32)))] (.int (0 : Int32)) := Arv.set A6 a6q a6S a6N a6H a6G (fits_nar_byte _) W6 1 rfl (nb rfl)
  have N6 := Fr.snoc X6 N2 g_t
  have Z7 := nt Z3 (Keep.of_wr W6).1
  have O7 := O3.wr W6 g_t
  have K7 := K3.wr W6 (Or.inl (List.mem_of_getElem? (i := 0) rfl))
  refine gs (S' := T6.setTop (mkF m 32 #[rv b, iv (1 : Int32), rv t, iv (1 : Int32), iv (2 : Int32), iv (1 : Int32), iv ch1] [])) st6 ?_
  refine gs (fun _ k => jm X6 hx hby d50_32 rfl rfl (jm X6 hx hby d50_35 rfl rfl (jm X6 hx hby d50_38 rfl rfl (jl (pc' := 3) X6 hx hby d50_41 (jd X6 hx hby d50_3 rfl (jd X6 hx hby d50_5 rfl (jh (pc' := 44) X6 hx hby d50_7 (flt (by decide : ¬ ((2 : Int32) < (2 : Int32)))).2.1 (jd X6 hx hby d50_44 rfl k)))))))) ?_
  refine gout (v := some (.int (2 : Int32))) X6 Bd.notSynchronized (fun h => by rw [Bd.returns] at h; cases h) (by decide) (by decide) ?_ (fun fs hr => retI X6 hx Bd.returns (hb hby d50_46) hr)
  rw [e6]
  exact ⟨rfl, N6, K7, V6⟩
theorem rm_cp3_22 (l : Launch) (Z : State) (a0 : Array Value) (hw : HW Z a0) (ws : List Jvm.Cond) (b : Addr) (kc : ClassId) (ch0 : Int32) (ch1 : Int32) (h0 : Heap) (n0 : Nat) (Z0 : n0 ≤ h0.size) (O0 : Old Z n0 h0) (V_b : Arv Z h0 b kc .char (2 : Int32) [(.int ch0), (.int ch1)] (.int (0 : Int32))) (dq0 : ¬ (255 : Int32) < ch0) (dq1 : ¬ (255 : Int32) < ch1) (bq0 : ¬ ch0 < 0 ∧ ¬ (65535 : Int32) < ch0) (bq1 : ¬ ch1 < 0 ∧ ¬ (65535 : Int32) < ch1) (S_ad : PS0 Z (.int (1 : Int32))) (S_hi : PS1 Z (.int (0 : Int32))) (S_lo : PS2 Z (.int (8 : Int32))) :
    Ctr l Z my2 jdk_52_method_16_code 6 ((Option.some (Jvm.ClassFile.FieldType.array Jvm.ClassFile.FieldType.byte))) ws (⟨1, 1, 2, 18⟩ : Room) #[(.ref b), (.int (0 : Int32)), (.int (2 : Int32))] h0 (fun v h L => ∃ (t1 : Addr) (k1 : ClassId), v = some (.ref t1) ∧ Fr n0 L ∧ Keep h0 h [] ∧ h0.size ≤ t1 ∧ Arv Z h t1 k1 .byte (2 : Int32) [(.int (nar .byte (ch0.toInt8.toInt32))), (.int (nar .byte (ch1.toInt8.toInt32)))] (.int (0 : Int32))) := by
  refine Ctr.go (plainFor_of_name pn_195) fun p e s m below meth c s₁ Bd hx hby hml hZ hown hnm X0 e0 => ?_
  have N0 := Fr.nil n0
  have K0 := Keep.refl h0 []
  refine gs (S' := s₁.setTop (mkF m 0 #[rv b, iv (0 : Int32), iv (2 : Int32), uu, uu, uu] [])) (fun tg kg => castTop (ef_783 m b (0 : Int32) (2 : Int32)) kg) ?_
  refine gs (fun _ k => jb X0 hx hby d51_0 rfl k) ?_
  obtain ⟨T1, h1, k1, X1, e1, E1, A1, st1⟩ := newP X0 hx hZ (ow hw 23 rfl) e0 (g := (mkF m 1 #[rv b, iv (0 : Int32), iv (2 : Int32), uu, uu, uu] [(.int (2 : Int32))])) rfl (hb hby d51_1) rfl (by decide) (cap := 2) (by decide) (by decide) (by decide) (by decide)
  obtain ⟨b1, q1⟩ : ∃ z, z = h0.size := ⟨_, rfl⟩
  rw [← q1] at A1 st1
  have g_b1 : n0 ≤ b1 := nt Z0 (Nat.le_of_eq q1.symm)
  have sz_b1 : h0.size ≤ b1 := nt K0.1 (Nat.le_of_eq q1.symm)
  have Z2 := nt Z0 E1.1
  have O2 := O0.ext E1
  have K2 := K0.ext E1
  have V1 : Arv Z h1 b1 k1 .byte (2 : Int32) [(.int (0 : Int32)), (.int (0 : Int32))] (.int (0 : Int32)) := (Arv.new A1 (by decide)).pad (pad_rep [] (.int (0 : Int32)) 2)
  refine gs (S' := T1.setTop (mkF m 3 #[rv b, iv (0 : Int32), iv (2 : Int32), uu, uu, uu] [(.ref b1)])) st1 ?_
  refine gs (fun _ k => jw X1 hx hby d51_3 rfl rfl (ja X1 hx hby d51_4 rfl rfl (jb X1 hx hby d51_5 rfl (ja X1 hx hby d51_6 rfl rfl (je (v := (0 : Int32)) X1 hx hby d51_7 (jb X1 hx hby d51_8 rfl k)))))) ?_
  have f3 := (V_b.ext E1)
  refine cS (rest := []) X1 hx hZ hown (ow hw 24 rfl) (ow hw 25 rfl) (ow hw 21 rfl) (ow hw 26 rfl) (rm_cp5_22 l Z a0 hw [] b kc b1 k1 ch0 ch1 h1 n0 Z2 O2 f3 V1 g_b1 (nw (nu (nu V_b.lt (Nat.le_refl _)) (Nat.le_of_eq q1.symm))) dq0 dq1) hby d51_9 e1 pd_794 0 (by rw [hml]; rfl) rfl rfl rfl rfl (by decide) (by decide) fun _ T4 Lc4 X4 hQ4 => ?_
  obtain ⟨rfl, N4q, K4q, V4q⟩ := hQ4
  have N4 := Fr.app N0 N4q
  have Z5 := nt Z2 K4q.1
  have O5 := O2.keep K4q (allS g_b1 all0)
  have K5 := K2.trans K4q (allS (Or.inr sz_b1) all0)
  refine gs (fun _ k => jj X4 hx hby d51_12 rfl (jd X4 hx hby d51_14 rfl (jb X4 hx hby d51_16 rfl (jh (pc' := 57) X4 hx hby d51_17 (teq (by decide : (2 : Int32) = (2 : Int32))).1 (ja X4 hx hby d51_57 rfl rfl k))))) ?_
  refine gout (v := some (.ref b1)) X4 Bd.notSynchronized (fun h => by rw [Bd.returns] at h; cases h) (by decide) (by decide) ?_ (fun fs hr => retOut X4 hx Bd.returns rfl (Or.inr (Or.inr (Or.inr (Or.inr ⟨rfl, rfl, rfl⟩)))) (hb hby d51_58) hr)
  exact ⟨_, _, rfl, N4, K5, sz_b1, V4q⟩
theorem rm_cfl22 (l : Launch) (Z : State) (a0 : Array Value) (hw : HW Z a0) (ws : List Jvm.Cond) (t : Addr) (kb : ClassId) (vs : List Value) (h0 : Heap) (n0 : Nat) (Z0 : n0 ≤ h0.size) (O0 : Old Z n0 h0) (V_t : Arv Z h0 t kb .byte (2 : Int32) vs (.int (0 : Int32))) :
    Ctr l Z my3 jdk_52_method_15_code 2 ((Option.some Jvm.ClassFile.FieldType.byte)) ws (⟨0, 0, 0, 0⟩ : Room) #[(.ref t), (.int (2 : Int32))] h0 (fun v h L => v = some (.int (0 : Int32)) ∧ Fr n0 L ∧ h = h0) := by
  refine Ctr.go (plainFor_of_name pn_195) fun p e s m below meth c s₁ Bd hx hby hml hZ hown hnm X0 e0 => ?_
  have N0 := Fr.nil n0
  have K0 := Keep.refl h0 []
  refine gs (S' := s₁.setTop (mkF m 0 #[rv t, iv (2 : Int32)] [])) (fun tg kg => castTop (ef_196 m t (2 : Int32)) kg) ?_
  refine gs (fun _ k => jb X0 hx hby d52_0 rfl (ja X0 hx hby d52_1 rfl rfl k)) ?_
  obtain ⟨cl1, A1, a1q, a1S, a1N, a1H, a1G⟩ := id V_t
  refine gs (S' := s₁.setTop (mkF m 3 #[rv t, iv (2 : Int32)] [(.int (2 : Int32)), (.int (2 : Int32))])) (fun _ k => by refine X0.arraylength hx (by rw [e0]; exact A1.1) (State.isArrayOf_alike hZ.alike A1.2.1) (g := (mkF m 2 #[rv t, iv (2 : Int32)] [(.ref t), (.int (2 : Int32))])) rfl rfl (hb hby d52_2) _ ?_; rw [len_of a1S a1N]; exact k) ?_
  refine gs (fun _ k => jO X0 hx hby d52_3 (jr (v := (31 : Int32)) X0 hx hby d52_4 (o_iushr X0 hx hby d52_6 (jN X0 hx hby d52_7 k)))) ?_
  refine gout (v := some (.int (0 : Int32))) X0 Bd.notSynchronized (fun h => by rw [Bd.returns] at h; cases h) (by decide) (by decide) ?_ (fun fs hr => retN X0 hx (t := .byte) Bd.returns (by simp) (hb hby d52_8) hr)
  rw [e0]
  exact ⟨rfl, N0, rfl⟩
theorem rm_si4_22 (l : Launch) (Z : State) (a0 : Array Value) (hw : HW Z a0) (ws : List Jvm.Cond) (a : Addr) (b : Addr) (kc : ClassId) (ch0 : Int32) (ch1 : Int32) (z : Int32) (h0 : Heap) (n0 : Nat) (Z0 : n0 ≤ h0.size) (O0 : Old Z n0 h0) (E_a : Exa Z h0 a "java/lang/String") (F_va : Fld Z h0 a "java/lang/String" "value" "[B" .null) (F_ca : Fld Z h0 a "java/lang/String" "coder" "B" (.int (0 : Int32))) (g_a : n0 ≤ a) (V_b : Arv Z h0 b kc .char (2 : Int32) [(.int ch0), (.int ch1)] (.int (0 : Int32))) (dq0 : ¬ (255 : Int32) < ch0) (dq1 : ¬ (255 : Int32) < ch1) (bq0 : ¬ ch0 < 0 ∧ ¬ (65535 : Int32) < ch0) (bq1 : ¬ ch1 < 0 ∧ ¬ (65535 : Int32) < ch1) (S_ad : PS0 Z (.int (1 : Int32))) (S_hi : PS1 Z (.int (0 : Int32))) (S_lo : PS2 Z (.int (8 : Int32))) (S0 : PS3 Z (.int z)) (hz : ¬ z = 0) :
    Ctr l Z my0 jdk_42_method_149_code 6 ((Option.none : Option Jvm.ClassFile.FieldType)) ws (⟨2, 1, 2, 35⟩ : Room) #[(.ref a), (.ref b), (.int (0 : Int32)), (.int (2 : Int32)), .null] h0 (fun v h L => v = none ∧ Fr n0 L ∧ Keep h0 h [a] ∧ SG Z h a [ch0, ch1]) := by
  refine Ctr.go (plainFor_of_name pn_15) fun p e s m below meth c s₁ Bd hx hby hml hZ hown hnm X0 e0 => ?_
  have N0 := Fr.nil n0
  have K0 := Keep.refl h0 [a]
  refine gs (S' := s₁.setTop (mkF m 0 #[rv a, rv b, iv (0 : Int32), iv (2 : Int32), .val .null, uu] [])) (fun tg kg => castTop (ef_0 m a b (0 : Int32) (2 : Int32)) kg) ?_
  refine gs (fun _ k => ja X0 hx hby d0_0 rfl rfl k) ?_
  obtain ⟨T1, X1, e1, st1⟩ := initO X0 hx hZ hown (ow hw 15 rfl) (ow hw 16 rfl) (ow hw 17 rfl) e0 (g := (mkF m 1 #[rv a, rv b, iv (0 : Int32), iv (2 : Int32), .val .null, uu] [(.ref a)])) rfl (by rw [hml]; rfl) rfl (hb hby d0_1) (by decide) (W := 0) (jK rfl) (by decide)
  refine gs (S' := T1.setTop (mkF m 4 #[rv a, rv b, iv (0 : Int32), iv (2 : Int32), .val .null, uu] [])) st1 ?_
  refine gs (fun _ k => jb X1 hx hby d0_4 rfl (jt (pc' := 27) X1 hx hby d0_5 ((if0 _ _).trans (feq (by decide : ¬ ((2 : Int32) = (0 : Int32)))).2) k)) ?_
  refine gS X1 hx hZ hown (host := "") (Or.inl (ow hw 18 rfl)) Via.refl e1 (S0.ext O0.2) hby d0_27 fun T2 X2 e2 => ?_
  refine gs (fun _ k => jn X2 hx hby d0_30 ((if0 _ _).trans (feq hz).1) (ja X2 hx hby d0_33 rfl rfl (jb X2 hx hby d0_34 rfl (jb X2 hx hby d0_35 rfl k)))) ?_
  refine cS (rest := []) X2 hx hZ hown (ow hw 19 rfl) (ow hw 20 rfl) (ow hw 21 rfl) (ow hw 22 rfl) (rm_cp3_22 l Z a0 hw [] b kc ch0 ch1 h0 n0 Z0 O0 V_b dq0 dq1 bq0 bq1 S_ad S_hi S_lo) hby d0_36 e2 pd_803 0 (by rw [hml]; rfl) rfl rfl rfl rfl (by decide) (by decide) fun _ T3 Lc3 X3 hQ3 => ?_
  obtain ⟨t3, kb3, rfl, N3q, K3q, g3t, V3q⟩ := hQ3
  have N3 := Fr.app N0 N3q
  have g_t3 : n0 ≤ t3 := nt Z0 g3t
  have sz_t3 : h0.size ≤ t3 := nt K0.1 g3t
  have Z4 := nt Z0 K3q.1
  have O4 := O0.keep K3q all0
  have K4 := K0.trans K3q all0
  refine gs (fun _ k => jo X3 hx hby d0_39 rfl rfl (ja X3 hx hby d0_41 rfl rfl (jf X3 hx hby d0_42 rfl rfl (jb X3 hx hby d0_44 rfl k)))) ?_
  refine cS (rest := [(.ref a)]) X3 hx hZ hown (ow hw 27 rfl) (ow hw 28 rfl) (ow hw 21 rfl) (ow hw 29 rfl) (rm_cfl22 l Z a0 hw [] t3 kb3 _ T3.heap n0 Z4 O4 V3q) hby d0_45 rfl pd_834 1 (by rw [hml]; rfl) rfl rfl rfl rfl (by decide) (by decide) fun _ T5 Lc5 X5 hQ5 => ?_
  obtain ⟨rfl, N5q, e5q⟩ := hQ5
  have N5 := Fr.app N3 N5q
  have f6 := (F_ca.keep K3q nin0)
  have f7 := (E_a.keep K3q)
  obtain ⟨T8, h8, X8, e8, W8, st8⟩ := putFN X5 hx hZ hown (ow hw 30 rfl) Via.refl e5q f6 f7 (Or.inr ⟨(ow hw 31 rfl), rfl, hnm⟩) (ow hw 5 rfl) (ty := .byte) (v' := (.int (0 : Int32))) (by decide) rfl rfl (g := (mkF m 48 #[rv a, rv b, iv (0 : Int32), iv (2 : Int32), .val .null, rv t3] [(.int (0 : Int32)), (.ref a)])) rfl rfl (hb hby d0_48)
  have N8 := Fr.snoc X8 N5 g_a
  have Fw8 := f6.same W8
  have Z9 := nt Z4 (Keep.of_wr W8).1
  have O9 := O4.wr W8 g_a
  have K9 := K4.wr W8 (Or.inl (List.mem_of_getElem? (i := 0) rfl))
  refine gs (S' := T8.setTop (mkF m 51 #[rv a, rv b, iv (0 : Int32), iv (2 : Int32), .val .null, rv t3] [])) st8 ?_
  refine gs (fun _ k => ja X8 hx hby d0_51 rfl rfl (jf X8 hx hby d0_52 rfl rfl k)) ?_
  have f10 := ((F_va.keep K3q nin0).other W8 (Or.inr (slot_ne (Or.inr (ow hw 33 rfl)) (Or.inr (ow hw 31 rfl)) (by decide) (t := (.array .byte)) (t' := .byte) (by decide) (by decide))))
  have f11 := (f7.wr W8)
  obtain ⟨T12, h12, X12, e12, W12, st12⟩ := putF X8 hx hZ hown (host := "") (Or.inl (ow hw 32 rfl)) Via.refl e8 f10 f11 (Or.inr ⟨(ow hw 33 rfl), rfl, hnm⟩) (ow hw 5 rfl) (ty := (.array .byte)) (by decide) rfl rfl (g := (mkF m 54 #[rv a, rv b, iv (0 : Int32), iv (2 : Int32), .val .null, rv t3] [(.ref t3), (.ref a)])) rfl rfl (hb hby d0_54)
  have N12 := Fr.snoc X12 N8 g_a
  have Fw12 := f10.same W12
  have Z13 := nt Z9 (Keep.of_wr W12).1
  have O13 := O9.wr W12 g_a
  have K13 := K9.wr W12 (Or.inl (List.mem_of_getElem? (i := 0) rfl))
  refine gs (S' := T12.setTop (mkF m 57 #[rv a, rv b, iv (0 : Int32), iv (2 : Int32), .val .null, rv t3] [])) st12 ?_
  have f14 := ((V3q.other W8 (Ne.symm (nw (nu (nu E_a.lt (Nat.le_refl _)) g3t)))).other W12 (Ne.symm (nw (nu (nu E_a.lt (Nat.le_refl _)) g3t))))
  have Vb := f14
  rw [own_narb ch0, own_narb ch1] at Vb
  have f15 := (f11.wr W12)
  have f16 := (Fw8.other W12 (Or.inr (slot_ne (Or.inr (ow hw 31 rfl)) (Or.inr (ow hw 33 rfl)) (by decide) (t := .byte) (t' := (.array .byte)) (by decide) (by decide))))
  refine gout (v := none) X12 Bd.notSynchronized (fun _ => rfl) (by decide) (by decide) ?_ (fun fs hr => X12.returnOut hx Bd.returns (hb hby d0_57) hr)
  rw [e12]
  exact ⟨rfl, N12, K13, _, _, 0, _, f15, f16, Fw12, by rw [jy]; exact Vb, Or.inl ⟨rfl, rfl, (by intro c hc; simp only [List.mem_cons, List.not_mem_nil, or_false] at hc; rcases hc with rfl | rfl; exact ⟨bq0.1, dq0⟩; exact ⟨bq1.1, dq1⟩)⟩⟩
theorem rm_s1_2 (l : Launch) (Z : State) (a0 : Array Value) (hw : HW Z a0) (ws : List Jvm.Cond) (a : Addr) (b : Addr) (kc : ClassId) (ch0 : Int32) (ch1 : Int32) (z : Int32) (h0 : Heap) (n0 : Nat) (Z0 : n0 ≤ h0.size) (O0 : Old Z n0 h0) (E_a : Exa Z h0 a "java/lang/String") (F_va : Fld Z h0 a "java/lang/String" "value" "[B" .null) (F_ca : Fld Z h0 a "java/lang/String" "coder" "B" (.int (0 : Int32))) (g_a : n0 ≤ a) (V_b : Arv Z h0 b kc .char (2 : Int32) [(.int ch0), (.int ch1)] (.int (0 : Int32))) (bq0 : ¬ ch0 < 0 ∧ ¬ (65535 : Int32) < ch0) (bq1 : ¬ ch1 < 0 ∧ ¬ (65535 : Int32) < ch1) (S_ad : PS0 Z (.int (1 : Int32))) (S_hi : PS1 Z (.int (0 : Int32))) (S_lo : PS2 Z (.int (8 : Int32))) (S0 : PS3 Z (.int z)) (hz : ¬ z = 0) :
    Ctr l Z my4 jdk_42_method_3_code 2 ((Option.none : Option Jvm.ClassFile.FieldType)) ws (⟨5, 2, 202, 74⟩ : Room) #[(.ref a), (.ref b)] h0 (fun v h L => v = none ∧ Fr n0 L ∧ Keep h0 h [a] ∧ SG Z h a [ch0, ch1]) := by
  refine Ctr.go (plainFor_of_name pn_15) fun p e s m below meth c s₁ Bd hx hby hml hZ hown hnm X0 e0 => ?_
  have N0 := Fr.nil n0
  have K0 := Keep.refl h0 [a]
  refine gs (S' := s₁.setTop (mkF m 0 #[rv a, rv b] [])) (fun tg kg => castTop (ef_16 m a b) kg) ?_
  refine gs (fun _ k => ja X0 hx hby d1_0 rfl rfl (ja X0 hx hby d1_1 rfl rfl (je (v := (0 : Int32)) X0 hx hby d1_2 (ja X0 hx hby d1_3 rfl rfl k)))) ?_
  obtain ⟨cl1, A1, a1q, a1S, a1N, a1H, a1G⟩ := id V_b
  refine gs (S' := s₁.setTop (mkF m 5 #[rv a, rv b] [(.int (2 : Int32)), (.int (0 : Int32)), (.ref b), (.ref a)])) (fun _ k => by refine X0.arraylength hx (by rw [e0]; exact A1.1) (State.isArrayOf_alike hZ.alike A1.2.1) (g := (mkF m 4 #[rv a, rv b] [(.ref b), (.int (0 : Int32)), (.ref b), (.ref a)])) rfl rfl (hb hby d1_4) _ ?_; rw [len_of a1S a1N]; exact k) ?_
  refine gs (fun _ k => o_aconstNull X0 hx hby d1_5 k) ?_
  by_cases hc2 : (255 : Int32) < ch0
  · refine cI (rest := []) X0 hx hZ hown rfl (ow hw 11 rfl) (ow hw 12 rfl) (ow hw 6 rfl) (ow hw 14 rfl) (rm_si4_20 l Z a0 hw [] a b kc ch0 ch1 z h0 n0 Z0 O0 E_a F_va F_ca g_a V_b hc2 bq0 bq1 S_ad S_hi S_lo S0 hz) hby d1_6 e0 pd_25 0 (by rw [hml]; rfl) rfl rfl rfl rfl (by decide) (by decide) fun _ T3 Lc3 X3 hQ3 => ?_
    obtain ⟨rfl, N3q, K3q, T3q⟩ := hQ3
    have N3 := Fr.app N0 N3q
    have Z4 := nt Z0 K3q.1
    have O4 := O0.keep K3q (allS g_a all0)
    have K4 := K0.trans K3q (allS (Or.inl (List.mem_of_getElem? (i := 0) rfl)) all0)
    refine gout (v := none) X3 Bd.notSynchronized (fun _ => rfl) (by decide) (by decide) ?_ (fun fs hr => X3.returnOut hx Bd.returns (hb hby d1_9) hr)
    exact ⟨rfl, N3, K4, T3q⟩
  · by_cases hc5 : (255 : Int32) < ch1
    · refine cI (rest := []) X0 hx hZ hown rfl (ow hw 11 rfl) (ow hw 12 rfl) (ow hw 6 rfl) (ow hw 14 rfl) (rm_si4_21 l Z a0 hw [] a b kc ch0 ch1 z h0 n0 Z0 O0 E_a F_va F_ca g_a V_b hc2 hc5 bq0 bq1 S_ad S_hi S_lo S0 hz) hby d1_6 e0 pd_25 0 (by rw [hml]; rfl) rfl rfl rfl rfl (by decide) (by decide) fun _ T6 Lc6 X6 hQ6 => ?_
      obtain ⟨rfl, N6q, K6q, T6q⟩ := hQ6
      have N6 := Fr.app N0 N6q
      have Z7 := nt Z0 K6q.1
      have O7 := O0.keep K6q (allS g_a all0)
      have K7 := K0.trans K6q (allS (Or.inl (List.mem_of_getElem? (i := 0) rfl)) all0)
      refine gout (v := none) X6 Bd.notSynchronized (fun _ => rfl) (by decide) (by decide) ?_ (fun fs hr => X6.returnOut hx Bd.returns (hb hby d1_9) hr)
      exact ⟨rfl, N6, K7, T6q⟩
    · refine cI (rest := []) X0 hx hZ hown rfl (ow hw 11 rfl) (ow hw 12 rfl) (ow hw 6 rfl) (ow hw 14 rfl) (rm_si4_22 l Z a0 hw [] a b kc ch0 ch1 z h0 n0 Z0 O0 E_a F_va F_ca g_a V_b hc2 hc5 bq0 bq1 S_ad S_hi S_lo S0 hz) hby d1_6 e0 pd_25 0 (by rw [hml]; rfl) rfl rfl rfl rfl (by decide) (by decide) fun _ T8 Lc8 X8 hQ8 => ?_
      obtain ⟨rfl, N8q, K8q, T8q⟩ := hQ8
      have N8 := Fr.app N0 N8q
      have Z9 := nt Z0 K8q.1
      have O9 := O0.keep K8q (allS g_a all0)
      have K9 := K0.trans K8q (allS (Or.inl (List.mem_of_getElem? (i := 0) rfl)) all0)
      refine gout (v := none) X8 Bd.notSynchronized (fun _ => rfl) (by decide) (by decide) ?_ (fun fs hr => X8.returnOut hx Bd.returns (hb hby d1_9) hr)
      exact ⟨rfl, N8, K9, T8q⟩
theorem rm_tb16_3 (l : Launch) (Z : State) (a0 : Array Value) (hw : HW Z a0) (ws : List Jvm.Cond) (b : Addr) (kc : ClassId) (ch0 : Int32) (ch1 : Int32) (ch2 : Int32) (h0 : Heap) (n0 : Nat) (Z0 : n0 ≤ h0.size) (O0 : Old Z n0 h0) (V_b : Arv Z h0 b kc .char (3 : Int32) [(.int ch0), (.int ch1), (.int ch2)] (.int (0 : Int32))) (S_ad : PS0 Z (.int (1 : Int32))) (S_hi : PS1 Z (.int (0 : Int32))) (S_lo : PS2 Z (.int (8 : Int32))) :
    Ctr l Z my6 jdk_52_method_14_code 5 ((Option.some (Jvm.ClassFile.FieldType.array Jvm.ClassFile.FieldType.byte))) ws (⟨2, 1, 200, 24⟩ : Room) #[(.ref b), (.int (0 : Int32)), (.int (3 : Int32))] h0 (fun v h L => ∃ (t1 : Addr) (k1 : ClassId), v = some (.ref t1) ∧ Fr n0 L ∧ Keep h0 h [] ∧ h0.size ≤ t1 ∧ Exa Z h t1 "[B" ∧ Arv Z h t1 k1 .byte (oI 6) (jq [ch0, ch1, ch2]) (.int (0 : Int32))) := by
  refine Ctr.go (plainFor_of_name pn_195) fun p e s m below meth c s₁ Bd hx hby hml hZ hown hnm X0 e0 => ?_
  have N0 := Fr.nil n0
  have K0 := Keep.refl h0 []
  refine gs (S' := s₁.setTop (mkF m 0 #[rv b, iv (0 : Int32), iv (3 : Int32), uu, uu] [])) (fun tg kg => castTop (ef_646 m b (0 : Int32) (3 : Int32)) kg) ?_
  refine gs (fun _ k => jb X0 hx hby d49_0 rfl k) ?_
  refine cS (rest := []) X0 hx hZ hown (ow hw 247 rfl) (ow hw 248 rfl) (ow hw 21 rfl) (ow hw 249 rfl) (rm_nbf l Z a0 hw [] 3 h0 n0 Z0 O0 (by decide)) hby d49_1 e0 pd_364 0 (by rw [hml]; rfl) rfl rfl rfl rfl (by decide) (by decide) fun _ T1 Lc1 X1 hQ1 => ?_
  obtain ⟨t1, kb1, rfl, N1q, K1q, g1t, E1t, V1q⟩ := hQ1
  have N1 := Fr.app N0 N1q
  have g_t1 : n0 ≤ t1 := nt Z0 g1t
  have sz_t1 : h0.size ≤ t1 := nt K0.1 g1t
  have Z2 := nt Z0 K1q.1
  have O2 := O0.keep K1q all0
  have K2 := K0.trans K1q all0
  refine gs (fun _ k => jw X1 hx hby d49_4 rfl rfl (je (v := (0 : Int32)) X1 hx hby d49_5 (jj X1 hx hby d49_6 rfl (jd X1 hx hby d49_8 rfl (jb X1 hx hby d49_10 rfl (ji X1 hx hby d49_11 (tlt (by decide : (0 : Int32) < (3 : Int32))).2.1 (ja X1 hx hby d49_14 rfl rfl (jd X1 hx hby d49_15 rfl (ja X1 hx hby d49_17 rfl rfl (jb X1 hx hby d49_18 rfl k)))))))))) ?_
  have f3 := (V_b.keep K1q nin0)
  obtain ⟨cl4, A4, a4q, a4S, a4N, a4H, a4G⟩ := id f3
  have hi4 := inb_of a4S (j := (0 : Int32)) ⟨by decide, by decide⟩
  refine gs (fun _ k => X1.caload hx (j := (0 : Int32)) (v := (.int ch0)) A4.1 (State.isArrayOf_alike hZ.alike A4.2.1) A4.2.2 hi4 (Has.at a4H hi4 rfl) (g := (mkF m 19 #[rv b, iv (0 : Int32), iv (3 : Int32), rv t1, iv (0 : Int32)] [(.int (0 : Int32)), (.ref b), (.int (0 : Int32)), (.ref t1)])) rfl rfl (hb hby d49_19) _ k) ?_
  refine cS (rest := []) X1 hx hZ hown (ow hw 254 rfl) (ow hw 255 rfl) (ow hw 21 rfl) (ow hw 256 rfl) (rm_pc l Z a0 hw [] t1 kb1 ([] : List Int32) ch0 (0 : Int32) 6 T1.heap n0 Z2 O2 V1q g_t1 rfl (nb rfl) (by decide) S_ad S_hi S_lo) hby d49_20 rfl pd_267 0 (by rw [hml]; rfl) rfl rfl rfl rfl (by decide) (by decide) fun _ T5 Lc5 X5 hQ5 => ?_
  obtain ⟨rfl, N5q, K5q, V5q⟩ := hQ5
  have N5 := Fr.app N1 N5q
  have Z6 := nt Z2 K5q.1
  have O6 := O2.keep K5q (allS g_t1 all0)
  have K6 := K2.trans K5q (allS (Or.inr sz_t1) all0)
  refine gs (fun _ k => jm X5 hx hby d49_23 rfl rfl (jm X5 hx hby d49_26 rfl rfl (jl (pc' := 8) X5 hx hby d49_29 (jd X5 hx hby d49_8 rfl (jb X5 hx hby d49_10 rfl (ji X5 hx hby d49_11 (tlt (by decide : (1 : Int32) < (3 : Int32))).2.1 (ja X5 hx hby d49_14 rfl rfl (jd X5 hx hby d49_15 rfl (ja X5 hx hby d49_17 rfl rfl (jb X5 hx hby d49_18 rfl k)))))))))) ?_
  have f7 := (f3.keep K5q (ninS (nw (nu (nu V_b.lt (Nat.le_refl _)) g1t)) nin0))
  obtain ⟨cl8, A8, a8q, a8S, a8N, a8H, a8G⟩ := id f7
  have hi8 := inb_of a8S (j := (1 : Int32)) ⟨by decide, by decide⟩
  refine gs (fun _ k => X5.caload hx (j := (1 : Int32)) (v := (.int ch1)) A8.1 (State.isArrayOf_alike hZ.alike A8.2.1) A8.2.2 hi8 (Has.at a8H hi8 rfl) (g := (mkF m 19 #[rv b, iv (1 : Int32), iv (3 : Int32), rv t1, iv (1 : Int32)] [(.int (1 : Int32)), (.ref b), (.int (1 : Int32)), (.ref t1)])) rfl rfl (hb hby d49_19) _ k) ?_
  refine cS (rest := []) X5 hx hZ hown (ow hw 254 rfl) (ow hw 255 rfl) (ow hw 21 rfl) (ow hw 256 rfl) (rm_pc l Z a0 hw [] t1 kb1 ([ch0] : List Int32) ch1 (1 : Int32) 6 T5.heap n0 Z6 O6 V5q g_t1 rfl (nb rfl) (by decide) S_ad S_hi S_lo) hby d49_20 rfl pd_267 0 (by rw [hml]; rfl) rfl rfl rfl rfl (by decide) (by decide) fun _ T9 Lc9 X9 hQ9 => ?_
  obtain ⟨rfl, N9q, K9q, V9q⟩ := hQ9
  have N9 := Fr.app N5 N9q
  have Z10 := nt Z6 K9q.1
  have O10 := O6.keep K9q (allS g_t1 all0)
  have K10 := K6.trans K9q (allS (Or.inr sz_t1) all0)
  refine gs (fun _ k => jm X9 hx hby d49_23 rfl rfl (jm X9 hx hby d49_26 rfl rfl (jl (pc' := 8) X9 hx hby d49_29 (jd X9 hx hby d49_8 rfl (jb X9 hx hby d49_10 rfl (ji X9 hx hby d49_11 (tlt (by decide : (2 : Int32) < (3 : Int32))).2.1 (ja X9 hx hby d49_14 rfl rfl (jd X9 hx hby d49_15 rfl (ja X9 hx hby d49_17 rfl rfl (jb X9 hx hby d49_18 rfl k)))))))))) ?_
  have f11 := (f7.keep K9q (ninS (nw (nu (nu V_b.lt (Nat.le_refl _)) g1t)) nin0))
  obtain ⟨cl12, A12, a12q, a12S, a12N, a12H, a12G⟩ := id f11
  have hi12 := inb_of a12S (j := (2 : Int32)) ⟨by decide, by decide⟩
  refine gs (fun _ k => X9.caload hx (j := (2 : Int32)) (v := (.int ch2)) A12.1 (State.isArrayOf_alike hZ.alike A12.2.1) A12.2.2 hi12 (Has.at a12H hi12 rfl) (g := (mkF m 19 #[rv b, iv (2 : Int32), iv (3 : Int32), rv t1, iv (2 : Int32)] [(.int (2 : Int32)), (.ref b), (.int (2 : Int32)), (.ref t1)])) rfl rfl (hb hby d49_19) _ k) ?_
  refine cS (rest := []) X9 hx hZ hown (ow hw 254 rfl) (ow hw 255 rfl) (ow hw 21 rfl) (ow hw 256 rfl) (rm_pc l Z a0 hw [] t1 kb1 ([ch0, ch1] : List Int32) ch2 (2 : Int32) 6 T9.heap n0 Z10 O10 V9q g_t1 rfl (nb rfl) (by decide) S_ad S_hi S_lo) hby d49_20 rfl pd_267 0 (by rw [hml]; rfl) rfl rfl rfl rfl (by decide) (by decide) fun _ T13 Lc13 X13 hQ13 => ?_
  obtain ⟨rfl, N13q, K13q, V13q⟩ := hQ13
  have N13 := Fr.app N9 N13q
  have Z14 := nt Z10 K13q.1
  have O14 := O10.keep K13q (allS g_t1 all0)
  have K14 := K10.trans K13q (allS (Or.inr sz_t1) all0)
  refine gs (fun _ k => jm X13 hx hby d49_23 rfl rfl (jm X13 hx hby d49_26 rfl rfl (jl (pc' := 8) X13 hx hby d49_29 (jd X13 hx hby d49_8 rfl (jb X13 hx hby d49_10 rfl (jh (pc' := 32) X13 hx hby d49_11 (flt (by decide : ¬ ((3 : Int32) < (3 : Int32)))).2.1 (ja X13 hx hby d49_32 rfl rfl k))))))) ?_
  have f15 := (((E1t.keep K5q).keep K9q).keep K13q)
  refine gout (v := some (.ref t1)) X13 Bd.notSynchronized (fun h => by rw [Bd.returns] at h; cases h) (by decide) (by decide) ?_ (fun fs hr => retOut X13 hx Bd.returns rfl (Or.inr (Or.inr (Or.inr (Or.inr ⟨rfl, rfl, rfl⟩)))) (hb hby d49_33) hr)
  exact ⟨_, _, rfl, N13, K14, sz_t1, f15, V13q⟩
theorem rm_cp5_30 (l : Launch) (Z : State) (a0 : Array Value) (hw : HW Z a0) (ws : List Jvm.Cond) (b : Addr) (kc : ClassId) (t : Addr) (kb : ClassId) (ch0 : Int32) (ch1 : Int32) (ch2 : Int32) (h0 : Heap) (n0 : Nat) (Z0 : n0 ≤ h0.size) (O0 : Old Z n0 h0) (V_b : Arv Z h0 b kc .char (3 : Int32) [(.int ch0), (.int ch1), (.int ch2)] (.int (0 : Int32))) (V_t : Arv Z h0 t kb .byte (3 : Int32) [(.int (0 : Int32)), (.int (0 : Int32)), (.int (0 : Int32))] (.int (0 : Int32))) (g_t : n0 ≤ t) (hbt : b ≠ t) (dq0 : (255 : Int32) < ch0) :
    Ctr l Z my1 jdk_52_method_21_code 7 ((Option.some Jvm.ClassFile.FieldType.int)) ws (⟨0, 0, 0, 0⟩ : Room) #[(.ref b), (.int (0 : Int32)), (.ref t), (.int (0 : Int32)), (.int (3 : Int32))] h0 (fun v h L => v = some (.int (0 : Int32)) ∧ Fr n0 L ∧ Keep h0 h [t]) := by
  refine Ctr.go (plainFor_of_name pn_195) fun p e s m below meth c s₁ Bd hx hby hml hZ hown hnm X0 e0 => ?_
  have N0 := Fr.nil n0
  have K0 := Keep.refl h0 [t]
  refine gs (S' := s₁.setTop (mkF m 0 #[rv b, iv (0 : Int32), rv t, iv (0 : Int32), iv (3 : Int32), uu, uu] [])) (fun tg kg => castTop (ef_767 m b (0 : Int32) t (0 : Int32) (3 : Int32)) kg) ?_
  refine gs (fun _ k => je (v := (0 : Int32)) X0 hx hby d50_0 (jj X0 hx hby d50_1 rfl (jd X0 hx hby d50_3 rfl (jd X0 hx hby d50_5 rfl (ji X0 hx hby d50_7 (tlt (by decide : (0 : Int32) < (3 : Int32))).2.1 (ja X0 hx hby d50_10 rfl rfl (jb X0 hx hby d50_11 rfl k))))))) ?_
  obtain ⟨cl1, A1, a1q, a1S, a1N, a1H, a1G⟩ := id V_b
  have hi1 := inb_of a1S (j := (0 : Int32)) ⟨by decide, by decide⟩
  refine gs (fun _ k => X0.caload hx (j := (0 : Int32)) (v := (.int ch0)) (by rw [e0]; exact A1.1) (State.isArrayOf_alike hZ.alike A1.2.1) A1.2.2 hi1 (Has.at a1H hi1 rfl) (g := (mkF m 12 #[rv b, iv (0 : Int32), rv t, iv (0 : Int32), iv (3 : Int32), iv (0 : Int32), uu] [(.int (0 : Int32)), (.ref b)])) rfl rfl (hb hby d50_12) _ (jj X0 hx hby d50_13 rfl (jd X0 hx hby d50_15 rfl (XS.sipush X0.here hx rfl (hb hby d50_17) (ji X0 hx hby d50_20 (tlt dq0).2.2.2 (jd X0 hx hby d50_23 rfl k)))))) ?_
  refine gout (v := some (.int (0 : Int32))) X0 Bd.notSynchronized (fun h => by rw [Bd.returns] at h; cases h) (by decide) (by decide) ?_ (fun fs hr => retI X0 hx Bd.returns (hb hby d50_25) hr)
  rw [e0]
  exact ⟨rfl, N0, K0⟩
theorem rm_cp3_30 (l : Launch) (Z : State) (a0 : Array Value) (hw : HW Z a0) (ws : List Jvm.Cond) (b : Addr) (kc : ClassId) (ch0 : Int32) (ch1 : Int32) (ch2 : Int32) (h0 : Heap) (n0 : Nat) (Z0 : n0 ≤ h0.size) (O0 : Old Z n0 h0) (V_b : Arv Z h0 b kc .char (3 : Int32) [(.int ch0), (.int ch1), (.int ch2)] (.int (0 : Int32))) (dq0 : (255 : Int32) < ch0) (bq0 : ¬ ch0 < 0 ∧ ¬ (65535 : Int32) < ch0) (bq1 : ¬ ch1 < 0 ∧ ¬ (65535 : Int32) < ch1) (bq2 : ¬ ch2 < 0 ∧ ¬ (65535 : Int32) < ch2) (S_ad : PS0 Z (.int (1 : Int32))) (S_hi : PS1 Z (.int (0 : Int32))) (S_lo : PS2 Z (.int (8 : Int32))) :
    Ctr l Z my2 jdk_52_method_16_code 6 ((Option.some (Jvm.ClassFile.FieldType.array Jvm.ClassFile.FieldType.byte))) ws (⟨3, 2, 203, 40⟩ : Room) #[(.ref b), (.int (0 : Int32)), (.int (3 : Int32))] h0 (fun v h L => ∃ (t1 : Addr) (k1 : ClassId), v = some (.ref t1) ∧ Fr n0 L ∧ Keep h0 h [] ∧ h0.size ≤ t1 ∧ Arv Z h t1 k1 .byte (6 : Int32) (jq [ch0, ch1, ch2]) (.int (0 : Int32))) := by
  refine Ctr.go (plainFor_of_name pn_195) fun p e s m below meth c s₁ Bd hx hby hml hZ hown hnm X0 e0 => ?_
  have N0 := Fr.nil n0
  have K0 := Keep.refl h0 []
  refine gs (S' := s₁.setTop (mkF m 0 #[rv b, iv (0 : Int32), iv (3 : Int32), uu, uu, uu] [])) (fun tg kg => castTop (ef_783 m b (0 : Int32) (3 : Int32)) kg) ?_
  refine gs (fun _ k => jb X0 hx hby d51_0 rfl k) ?_
  obtain ⟨T1, h1, k1, X1, e1, E1, A1, st1⟩ := newP X0 hx hZ (ow hw 23 rfl) e0 (g := (mkF m 1 #[rv b, iv (0 : Int32), iv (3 : Int32), uu, uu, uu] [(.int (3 : Int32))])) rfl (hb hby d51_1) rfl (by decide) (cap := 3) (by decide) (by decide) (by decide) (by decide)
  obtain ⟨b1, q1⟩ : ∃ z, z = h0.size := ⟨_, rfl⟩
  rw [← q1] at A1 st1
  have g_b1 : n0 ≤ b1 := nt Z0 (Nat.le_of_eq q1.symm)
  have sz_b1 : h0.size ≤ b1 := nt K0.1 (Nat.le_of_eq q1.symm)
  have Z2 := nt Z0 E1.1
  have O2 := O0.ext E1
  have K2 := K0.ext E1
  have V1 : Arv Z h1 b1 k1 .byte (3 : Int32) [(.int (0 : Int32)), (.int (0 : Int32)), (.int (0 : Int32))] (.int (0 : Int32)) := (Arv.new A1 (by decide)).pad (pad_rep [] (.int (0 : Int32)) 3)
  refine gs (S' := T1.setTop (mkF m 3 #[rv b, iv (0 : Int32), iv (3 : Int32), uu, uu, uu] [(.ref b1)])) st1 ?_
  refine gs (fun _ k => jw X1 hx hby d51_3 rfl rfl (ja X1 hx hby d51_4 rfl rfl (jb X1 hx hby d51_5 rfl (ja X1 hx hby d51_6 rfl rfl (je (v := (0 : Int32)) X1 hx hby d51_7 (jb X1 hx hby d51_8 rfl k)))))) ?_
  have f3 := (V_b.ext E1)
  refine cS (rest := []) X1 hx hZ hown (ow hw 24 rfl) (ow hw 25 rfl) (ow hw 21 rfl) (ow hw 26 rfl) (rm_cp5_30 l Z a0 hw [] b kc b1 k1 ch0 ch1 ch2 h1 n0 Z2 O2 f3 V1 g_b1 (nw (nu (nu V_b.lt (Nat.le_refl _)) (Nat.le_of_eq q1.symm))) dq0) hby d51_9 e1 pd_794 0 (by rw [hml]; rfl) rfl rfl rfl rfl (by decide) (by decide) fun _ T4 Lc4 X4 hQ4 => ?_
  obtain ⟨rfl, N4q, K4q⟩ := hQ4
  have N4 := Fr.app N0 N4q
  have Z5 := nt Z2 K4q.1
  have O5 := O2.keep K4q (allS g_b1 all0)
  have K5 := K2.trans K4q (allS (Or.inr sz_b1) all0)
  refine gs (fun _ k => jj X4 hx hby d51_12 rfl (jd X4 hx hby d51_14 rfl (jb X4 hx hby d51_16 rfl (ji X4 hx hby d51_17 (feq (by decide : ¬ ((0 : Int32) = (3 : Int32)))).1 (ja X4 hx hby d51_20 rfl rfl (jb X4 hx hby d51_21 rfl (jb X4 hx hby d51_22 rfl k))))))) ?_
  have f6 := (f3.keep K4q (ninS (nw (nu (nu V_b.lt (Nat.le_refl _)) (Nat.le_of_eq q1.symm))) nin0))
  refine cS (rest := []) X4 hx hZ hown (ow hw 244 rfl) (ow hw 245 rfl) (ow hw 21 rfl) (ow hw 246 rfl) (rm_tb16_3 l Z a0 hw [] b kc ch0 ch1 ch2 T4.heap n0 Z5 O5 f6 S_ad S_hi S_lo) hby d51_23 rfl pd_803 0 (by rw [hml]; rfl) rfl rfl rfl rfl (by decide) (by decide) fun _ T7 Lc7 X7 hQ7 => ?_
  obtain ⟨t7, kb7, rfl, N7q, K7q, g7t, E7t, V7q⟩ := hQ7
  have N7 := Fr.app N4 N7q
  have g_t7 : n0 ≤ t7 := nt Z5 g7t
  have sz_t7 : h0.size ≤ t7 := nt K5.1 g7t
  have Z8 := nt Z5 K7q.1
  have O8 := O5.keep K7q all0
  have K8 := K5.trans K7q all0
  refine gs (fun _ k => jo X7 hx hby d51_26 rfl rfl (jf X7 hx hby d51_28 rfl rfl (jd X7 hx hby d51_30 rfl k))) ?_
  refine cS (rest := []) X7 hx hZ hown (ow hw 260 rfl) (ow hw 261 rfl) (ow hw 21 rfl) (ow hw 262 rfl) (rm_gc l Z a0 hw [] t7 kb7 ([ch0, ch1, ch2] : List Int32) 0 6 T7.heap n0 Z8 O8 V7q (nb rfl) (nb rfl) (by decide) bq0 S_ad S_hi S_lo) hby d51_32 rfl pd_493 0 (by rw [hml]; rfl) rfl rfl rfl rfl (by decide) (by decide) fun _ T9 Lc9 X9 hQ9 => ?_
  obtain ⟨rfl, N9q, e9q⟩ := hQ9
  have N9 := Fr.app N7 N9q
  refine gs (fun _ k => XS.sipush X9.here hx rfl (hb hby d51_35) (jh (pc' := 54) X9 hx hby d51_38 (tlt dq0).2.2.1 (jf X9 hx hby d51_54 rfl rfl k))) ?_
  refine gout (v := some (.ref t7)) X9 Bd.notSynchronized (fun h => by rw [Bd.returns] at h; cases h) (by decide) (by decide) ?_ (fun fs hr => retOut X9 hx Bd.returns rfl (Or.inr (Or.inr (Or.inr (Or.inr ⟨rfl, rfl, rfl⟩)))) (hb hby d51_56) hr)
  rw [e9q]
  exact ⟨_, _, rfl, N9, K8, sz_t7, V7q⟩
theorem rm_cfl30 (l : Launch) (Z : State) (a0 : Array Value) (hw : HW Z a0) (ws : List Jvm.Cond) (t : Addr) (kb : ClassId) (vs : List Value) (h0 : Heap) (n0 : Nat) (Z0 : n0 ≤ h0.size) (O0 : Old Z n0 h0) (V_t : Arv Z h0 t kb .byte (6 : Int32) vs (.int (0 : Int32))) :
    Ctr l Z my3 jdk_52_method_15_code 2 ((Option.some Jvm.ClassFile.FieldType.byte)) ws (⟨0, 0, 0, 0⟩ : Room) #[(.ref t), (.int (3 : Int32))] h0 (fun v h L => v = some (.int (1 : Int32)) ∧ Fr n0 L ∧ h = h0) := by
  refine Ctr.go (plainFor_of_name pn_195) fun p e s m below meth c s₁ Bd hx hby hml hZ hown hnm X0 e0 => ?_
  have N0 := Fr.nil n0
  have K0 := Keep.refl h0 []
  refine gs (S' := s₁.setTop (mkF m 0 #[rv t, iv (3 : Int32)] [])) (fun tg kg => castTop (ef_196 m t (3 : Int32)) kg) ?_
  refine gs (fun _ k => jb X0 hx hby d52_0 rfl (ja X0 hx hby d52_1 rfl rfl k)) ?_
  obtain ⟨cl1, A1, a1q, a1S, a1N, a1H, a1G⟩ := id V_t
  refine gs (S' := s₁.setTop (mkF m 3 #[rv t, iv (3 : Int32)] [(.int (6 : Int32)), (.int (3 : Int32))])) (fun _ k => by refine X0.arraylength hx (by rw [e0]; exact A1.1) (State.isArrayOf_alike hZ.alike A1.2.1) (g := (mkF m 2 #[rv t, iv (3 : Int32)] [(.ref t), (.int (3 : Int32))])) rfl rfl (hb hby d52_2) _ ?_; rw [len_of a1S a1N]; exact k) ?_
  refine gs (fun _ k => jO X0 hx hby d52_3 (jr (v := (31 : Int32)) X0 hx hby d52_4 (o_iushr X0 hx hby d52_6 (jN X0 hx hby d52_7 k)))) ?_
  refine gout (v := some (.int (1 : Int32))) X0 Bd.notSynchronized (fun h => by rw [Bd.returns] at h; cases h) (by decide) (by decide) ?_ (fun fs hr => retN X0 hx (t := .byte) Bd.returns (by simp) (hb hby d52_8) hr)
  rw [e0]
  exact ⟨rfl, N0, rfl⟩
theorem rm_si4_30 (l : Launch) (Z : State) (a0 : Array Value) (hw : HW Z a0) (ws : List Jvm.Cond) (a : Addr) (b : Addr) (kc : ClassId) (ch0 : Int32) (ch1 : Int32) (ch2 : Int32) (z : Int32) (h0 : Heap) (n0 : Nat) (Z0 : n0 ≤ h0.size) (O0 : Old Z n0 h0) (E_a : Exa Z h0 a "java/lang/String") (F_va : Fld Z h0 a "java/lang/String" "value" "[B" .null) (F_ca : Fld Z h0 a "java/lang/String" "coder" "B" (.int (0 : Int32))) (g_a : n0 ≤ a) (V_b : Arv Z h0 b kc .char (3 : Int32) [(.int ch0), (.int ch1), (.int ch2)] (.int (0 : Int32))) (dq0 : (255 : Int32) < ch0) (bq0 : ¬ ch0 < 0 ∧ ¬ (65535 : Int32) < ch0) (bq1 : ¬ ch1 < 0 ∧ ¬ (65535 : Int32) < ch1) (bq2 : ¬ ch2 < 0 ∧ ¬ (65535 : Int32) < ch2) (S_ad : PS0 Z (.int (1 : Int32))) (S_hi : PS1 Z (.int (0 : Int32))) (S_lo : PS2 Z (.int (8 : Int32))) (S0 : PS3 Z (.int z)) (hz : ¬ z = 0) :
    Ctr l Z my0 jdk_42_method_149_code 6 ((Option.none : Option Jvm.ClassFile.FieldType)) ws (⟨4, 2, 203, 57⟩ : Room) #[(.ref a), (.ref b), (.int (0 : Int32)), (.int (3 : Int32)), .null] h0 (fun v h L => v = none ∧ Fr n0 L ∧ Keep h0 h [a] ∧ SG Z h a [ch0, ch1, ch2]) := by
  refine Ctr.go (plainFor_of_name pn_15) fun p e s m below meth c s₁ Bd hx hby hml hZ hown hnm X0 e0 => ?_
  have N0 := Fr.nil n0
  have K0 := Keep.refl h0 [a]
  refine gs (S' := s₁.setTop (mkF m 0 #[rv a, rv b, iv (0 : Int32), iv (3 : Int32), .val .null, uu] [])) (fun tg kg => castTop (ef_0 m a b (0 : Int32) (3 : Int32)) kg) ?_
  refine gs (fun _ k => ja X0 hx hby d0_0 rfl rfl k) ?_
  obtain ⟨T1, X1, e1, st1⟩ := initO X0 hx hZ hown (ow hw 15 rfl) (ow hw 16 rfl) (ow hw 17 rfl) e0 (g := (mkF m 1 #[rv a, rv b, iv (0 : Int32), iv (3 : Int32), .val .null, uu] [(.ref a)])) rfl (by rw [hml]; rfl) rfl (hb hby d0_1) (by decide) (W := 0) (jK rfl) (by decide)
  refine gs (S' := T1.setTop (mkF m 4 #[rv a, rv b, iv (0 : Int32), iv (3 : Int32), .val .null, uu] [])) st1 ?_
  refine gs (fun _ k => jb X1 hx hby d0_4 rfl (jt (pc' := 27) X1 hx hby d0_5 ((if0 _ _).trans (feq (by decide : ¬ ((3 : Int32) = (0 : Int32)))).2) k)) ?_
  refine gS X1 hx hZ hown (host := "") (Or.inl (ow hw 18 rfl)) Via.refl e1 (S0.ext O0.2) hby d0_27 fun T2 X2 e2 => ?_
  refine gs (fun _ k => jn X2 hx hby d0_30 ((if0 _ _).trans (feq hz).1) (ja X2 hx hby d0_33 rfl rfl (jb X2 hx hby d0_34 rfl (jb X2 hx hby d0_35 rfl k)))) ?_
  refine cS (rest := []) X2 hx hZ hown (ow hw 19 rfl) (ow hw 20 rfl) (ow hw 21 rfl) (ow hw 22 rfl) (rm_cp3_30 l Z a0 hw [] b kc ch0 ch1 ch2 h0 n0 Z0 O0 V_b dq0 bq0 bq1 bq2 S_ad S_hi S_lo) hby d0_36 e2 pd_803 0 (by rw [hml]; rfl) rfl rfl rfl rfl (by decide) (by decide) fun _ T3 Lc3 X3 hQ3 => ?_
  obtain ⟨t3, kb3, rfl, N3q, K3q, g3t, V3q⟩ := hQ3
  have N3 := Fr.app N0 N3q
  have g_t3 : n0 ≤ t3 := nt Z0 g3t
  have sz_t3 : h0.size ≤ t3 := nt K0.1 g3t
  have Z4 := nt Z0 K3q.1
  have O4 := O0.keep K3q all0
  have K4 := K0.trans K3q all0
  refine gs (fun _ k => jo X3 hx hby d0_39 rfl rfl (ja X3 hx hby d0_41 rfl rfl (jf X3 hx hby d0_42 rfl rfl (jb X3 hx hby d0_44 rfl k)))) ?_
  refine cS (rest := [(.ref a)]) X3 hx hZ hown (ow hw 27 rfl) (ow hw 28 rfl) (ow hw 21 rfl) (ow hw 29 rfl) (rm_cfl30 l Z a0 hw [] t3 kb3 _ T3.heap n0 Z4 O4 V3q) hby d0_45 rfl pd_834 1 (by rw [hml]; rfl) rfl rfl rfl rfl (by decide) (by decide) fun _ T5 Lc5 X5 hQ5 => ?_
  obtain ⟨rfl, N5q, e5q⟩ := hQ5
  have N5 := Fr.app N3 N5q
  have f6 := (F_ca.keep K3q nin0)
  have f7 := (E_a.keep K3q)
  obtain ⟨T8, h8, X8, e8, W8, st8⟩ := putFN X5 hx hZ hown (ow hw 30 rfl) Via.refl e5q f6 f7 (Or.inr ⟨(ow hw 31 rfl), rfl, hnm⟩) (ow hw 5 rfl) (ty := .byte) (v' := (.int (1 : Int32))) (by decide) rfl rfl (g := (mkF m 48 #[rv a, rv b, iv (0 : Int32), iv (3 : Int32), .val .null, rv t3] [(.int (1 : Int32)), (.ref a)])) rfl rfl (hb hby d0_48)
  have N8 := Fr.snoc X8 N5 g_a
  have Fw8 := f6.same W8
  have Z9 := nt Z4 (Keep.of_wr W8).1
  have O9 := O4.wr W8 g_a
  have K9 := K4.wr W8 (Or.inl (List.mem_of_getElem? (i := 0) rfl))
  refine gs (S' := T8.setTop (mkF m 51 #[rv a, rv b, iv (0 : Int32), iv (3 : Int32), .val .null, rv t3] [])) st8 ?_
  refine gs (fun _ k => ja X8 hx hby d0_51 rfl rfl (jf X8 hx hby d0_52 rfl rfl k)) ?_
  have f10 := ((F_va.keep K3q nin0).other W8 (Or.inr (slot_ne (Or.inr (ow hw 33 rfl)) (Or.inr (ow hw 31 rfl)) (by decide) (t := (.array .byte)) (t' := .byte) (by decide) (by decide))))
  have f11 := (f7.wr W8)
  obtain ⟨T12, h12, X12, e12, W12, st12⟩ := putF X8 hx hZ hown (host := "") (Or.inl (ow hw 32 rfl)) Via.refl e8 f10 f11 (Or.inr ⟨(ow hw 33 rfl), rfl, hnm⟩) (ow hw 5 rfl) (ty := (.array .byte)) (by decide) rfl rfl (g := (mkF m 54 #[rv a, rv b, iv (0 : Int32), iv (3 : Int32), .val .null, rv t3] [(.ref t3), (.ref a)])) rfl rfl (hb hby d0_54)
  have N12 := Fr.snoc X12 N8 g_a
  have Fw12 := f10.same W12
  have Z13 := nt Z9 (Keep.of_wr W12).1
  have O13 := O9.wr W12 g_a
  have K13 := K9.wr W12 (Or.inl (List.mem_of_getElem? (i := 0) rfl))
  refine gs (S' := T12.setTop (mkF m 57 #[rv a, rv b, iv (0 : Int32), iv (3 : Int32), .val .null, rv t3] [])) st12 ?_
  have f14 := ((V3q.other W8 (Ne.symm (nw (nu (nu E_a.lt (Nat.le_refl _)) g3t)))).other W12 (Ne.symm (nw (nu (nu E_a.lt (Nat.le_refl _)) g3t))))
  have f15 := (f11.wr W12)
  have f16 := (Fw8.other W12 (Or.inr (slot_ne (Or.inr (ow hw 31 rfl)) (Or.inr (ow hw 33 rfl)) (by decide) (t := .byte) (t' := (.array .byte)) (by decide) (by decide))))
  refine gout (v := none) X12 Bd.notSynchronized (fun _ => rfl) (by decide) (by decide) ?_ (fun fs hr => X12.returnOut hx Bd.returns (hb hby d0_57) hr)
  rw [e12]
  exact ⟨rfl, N12, K13, _, _, 1, _, f15, f16, Fw12, by rw [jA]; exact f14, Or.inr ⟨rfl, rfl, (by intro c hc; simp only [List.mem_cons, List.not_mem_nil, or_false] at hc; rcases hc with rfl | rfl | rfl; exact bq0; exact bq1; exact bq2)⟩⟩
theorem rm_cp5_31 (l : Launch) (Z : State) (a0 : Array Value) (hw : HW Z a0) (ws : List Jvm.Cond) (b : Addr) (kc : ClassId) (t : Addr) (kb : ClassId) (ch0 : Int32) (ch1 : Int32) (ch2 : Int32) (h0 : Heap) (n0 : Nat) (Z0 : n0 ≤ h0.size) (O0 : Old Z n0 h0) (V_b : Arv Z h0 b kc .char (3 : Int32) [(.int ch0), (.int ch1), (.int ch2)] (.int (0 : Int32))) (V_t : Arv Z h0 t kb .byte (3 : Int32) [(.int (0 : Int32)), (.int (0 : Int32)), (.int (0 : Int32))] (.int (0 : Int32))) (g_t : n0 ≤ t) (hbt : b ≠ t) (dq0 : ¬ (255 : Int32) < ch0) (dq1 : (255 : Int32) < ch1) :
    Ctr l Z my1 jdk_52_method_21_code 7 ((Option.some Jvm.ClassFile.FieldType.int)) ws (⟨0, 0, 0, 0⟩ : Room) #[(.ref b), (.int (0 : Int32)), (.ref t), (.int (0 : Int32)), (.int (3 : Int32))] h0 (fun v h L => v = some (.int (1 : Int32)) ∧ Fr n0 L ∧ Keep h0 h [t]) := by
  refine Ctr.go (plainFor_of_name pn_195) fun p e s m below meth c s₁ Bd hx hby hml hZ hown hnm X0 e0 => ?_
  have N0 := Fr.nil n0
  have K0 := Keep.refl h0 [t]
  refine gs (S' := s₁.setTop (mkF m 0 #[rv b, iv (0 : Int32), rv t, iv (0 : Int32), iv (3 : Int32), uu, uu] [])) (fun tg kg => castTop (ef_767 m b (0 : Int32) t (0 : Int32) (3 : Int32)) kg) ?_
  refine gs (fun _ k => je (v := (0 : Int32)) X0 hx hby d50_0 (jj X0 hx hby d50_1 rfl (jd X0 hx hby d50_3 rfl (jd X0 hx hby d50_5 rfl (ji X0 hx hby d50_7 (tlt (by decide : (0 : Int32) < (3 : Int32))).2.1 (ja X0 hx hby d50_10 rfl rfl (jb X0 hx hby d50_11 rfl k))))))) ?_
  obtain ⟨cl1, A1, a1q, a1S, a1N, a1H, a1G⟩ := id V_b
  have hi1 := inb_of a1S (j := (0 : Int32)) ⟨by decide, by decide⟩
  refine gs (fun _ k => X0.caload hx (j := (0 : Int32)) (v := (.int ch0)) (by rw [e0]; exact A1.1) (State.isArrayOf_alike hZ.alike A1.2.1) A1.2.2 hi1 (Has.at a1H hi1 rfl) (g := (mkF m 12 #[rv b, iv (0 : Int32), rv t, iv (0 : Int32), iv (3 : Int32), iv (0 : Int32), uu] [(.int (0 : Int32)), (.ref b)])) rfl rfl (hb hby d50_12) _ (jj X0 hx hby d50_13 rfl (jd X0 hx hby d50_15 rfl (XS.sipush X0.here hx rfl (hb hby d50_17) (jh (pc' := 26) X0 hx hby d50_20 (flt dq0).2.2.2 (ja X0 hx hby d50_26 rfl rfl (jb X0 hx hby d50_27 rfl (jd X0 hx hby d50_28 rfl (jN X0 hx hby d50_30 k))))))))) ?_
  obtain ⟨cl2, A2, a2q, a2S, a2N, a2H, a2G⟩ := id V_t
  obtain ⟨T2, h2, X2, e2, W2, st2⟩ := stB X0 hx hZ e0 A2 (j := (0 : Int32)) (inb_of a2S ⟨by decide, by decide⟩) (g := (mkF m 31 #[rv b, iv (0 : Int32), rv t, iv (0 : Int32), iv (3 : Int32), iv (0 : Int32), iv ch0] [(.int (ch0.toInt8.toInt32)), (.int (0 : Int32)), (.ref t)])) rfl rfl (hb hby d50_31)
  have V2 : Arv Z h2 t kb .byte (3 : Int32) [(.int (nar .byte (ch0.toInt8.toInt32))), (.int (0 : Int32)), (.int (0 : Int32))] (.int (0 : Int32)) := Arv.set A2 a2q a2S a2N a2H a2G (fits_nar_byte _) W2 0 rfl (nb rfl)
  have N2 := Fr.snoc X2 N0 g_t
  have Z3 := nt Z0 (Keep.of_wr W2).1
  have O3 := O0.wr W2 g_t
  have K3 := K0.wr W2 (Or.inl (List.mem_of_getElem? (i := 0) rfl))
  refine gs (S' := T2.setTop (mkF m 32 #[rv b, iv (0 : Int32), rv t, iv (0 : Int32), iv (3 : Int32), iv (0 : Int32), iv ch0] [])) st2 ?_
  refine gs (fun _ k => jm X2 hx hby d50_32 rfl rfl (jm X2 hx hby d50_35 rfl rfl (jm X2 hx hby d50_38 rfl rfl (jl (pc' := 3) X2 hx hby d50_41 (jd X2 hx hby d50_3 rfl (jd X2 hx hby d50_5 rfl (ji X2 hx hby d50_7 (tlt (by decide : (1 : Int32) < (3 : Int32))).2.1 (ja X2 hx hby d50_10 rfl rfl (jb X2 hx hby d50_11 rfl k))))))))) ?_
  have f4 := (V_b.other W2 hbt)
  obtain ⟨cl5, A5, a5q, a5S, a5N, a5H, a5G⟩ := id f4
  have hi5 := inb_of a5S (j := (1 : Int32)) ⟨by decide, by decide⟩
  refine gs (fun _ k => X2.caload hx (j := (1 : Int32)) (v := (.int ch1)) (by rw [e2]; exact A5.1) (State.isArrayOf_alike hZ.alike A5.2.1) A5.2.2 hi5 (Has.at a5H hi5 rfl) (g := (mkF m 12 #[rv b, iv (1 : Int32), rv t, iv (1 : Int32), iv (3 : Int32), iv (1 : Int32), iv ch0] [(.int (1 : Int32)), (.ref b)])) rfl rfl (hb hby d50_12) _ (jj X2 hx hby d50_13 rfl (jd X2 hx hby d50_15 rfl (XS.sipush X2.here hx rfl (hb hby d50_17) (ji X2 hx hby d50_20 (tlt dq1).2.2.2 (jd X2 hx hby d50_23 rfl k)))))) ?_
  refine gout (v := some (.int (1 : Int32))) X2 Bd.notSynchronized (fun h => by rw [Bd.returns] at h; cases h) (by decide) (by decide) ?_ (fun fs hr => retI X2 hx Bd.returns (hb hby d50_25) hr)
  rw [e2]
  exact ⟨rfl, N2, K3⟩
theorem rm_cp3_31 (l : Launch) (Z : State) (a0 : Array Value) (hw : HW Z a0) (ws : List Jvm.Cond) (b : Addr) (kc : ClassId) (ch0 : Int32) (ch1 : Int32) (ch2 : Int32) (h0 : Heap) (n0 : Nat) (Z0 : n0 ≤ h0.size) (O0 : Old Z n0 h0) (V_b : Arv Z h0 b kc .char (3 : Int32) [(.int ch0), (.int ch1), (.int ch2)] (.int (0 : Int32))) (dq0 : ¬ (255 : Int32) < ch0) (dq1 : (255 : Int32) < ch1) (bq0 : ¬ ch0 < 0 ∧ ¬ (65535 : Int32) < ch0) (bq1 : ¬ ch1 < 0 ∧ ¬ (65535 : Int32) < ch1) (bq2 : ¬ ch2 < 0 ∧ ¬ (65535 : Int32) < ch2) (S_ad : PS0 Z (.int (1 : Int32))) (S_hi : PS1 Z (.int (0 : Int32))) (S_lo : PS2 Z (.int (8 : Int32))) :
    Ctr l Z my2 jdk_52_method_16_code 6 ((Option.some (Jvm.ClassFile.FieldType.array Jvm.ClassFile.FieldType.byte))) ws (⟨3, 2, 203, 40⟩ : Room) #[(.ref b), (.int (0 : Int32)), (.int (3 : Int32))] h0 (fun v h L => ∃ (t1 : Addr) (k1 : ClassId), v = some (.ref t1) ∧ Fr n0 L ∧ Keep h0 h [] ∧ h0.size ≤ t1 ∧ Arv Z h t1 k1 .byte (6 : Int32) (jq [ch0, ch1, ch2]) (.int (0 : Int32))) := by
  refine Ctr.go (plainFor_of_name pn_195) fun p e s m below meth c s₁ Bd hx hby hml hZ hown hnm X0 e0 => ?_
  have N0 := Fr.nil n0
  have K0 := Keep.refl h0 []
  refine gs (S' := s₁.setTop (mkF m 0 #[rv b, iv (0 : Int32), iv (3 : Int32), uu, uu, uu] [])) (fun tg kg => castTop (ef_783 m b (0 : Int32) (3 : Int32)) kg) ?_
  refine gs (fun _ k => jb X0 hx hby d51_0 rfl k) ?_
  obtain ⟨T1, h1, k1, X1, e1, E1, A1, st1⟩ := newP X0 hx hZ (ow hw 23 rfl) e0 (g := (mkF m 1 #[rv b, iv (0 : Int32), iv (3 : Int32), uu, uu, uu] [(.int (3 : Int32))])) rfl (hb hby d51_1) rfl (by decide) (cap := 3) (by decide) (by decide) (by decide) (by decide)
  obtain ⟨b1, q1⟩ : ∃ z, z = h0.size := ⟨_, rfl⟩
  rw [← q1] at A1 st1
  have g_b1 : n0 ≤ b1 := nt Z0 (Nat.le_of_eq q1.symm)
  have sz_b1 : h0.size ≤ b1 := nt K0.1 (Nat.le_of_eq q1.symm)
  have Z2 := nt Z0 E1.1
  have O2 := O0.ext E1
  have K2 := K0.ext E1
  have V1 : Arv Z h1 b1 k1 .byte (3 : Int32) [(.int (0 : Int32)), (.int (0 : Int32)), (.int (0 : Int32))] (.int (0 : Int32)) := (Arv.new A1 (by decide)).pad (pad_rep [] (.int (0 : Int32)) 3)
  refine gs (S' := T1.setTop (mkF m 3 #[rv b, iv (0 : Int32), iv (3 : Int32), uu, uu, uu] [(.ref b1)])) st1 ?_
  refine gs (fun _ k => jw X1 hx hby d51_3 rfl rfl (ja X1 hx hby d51_4 rfl rfl (jb X1 hx hby d51_5 rfl (ja X1 hx hby d51_6 rfl rfl (je (v := (0 : Int32)) X1 hx hby d51_7 (jb X1 hx hby d51_8 rfl k)))))) ?_
  have f3 := (V_b.ext E1)
  refine cS (rest := []) X1 hx hZ hown (ow hw 24 rfl) (ow hw 25 rfl) (ow hw 21 rfl) (ow hw 26 rfl) (rm_cp5_31 l Z a0 hw [] b kc b1 k1 ch0 ch1 ch2 h1 n0 Z2 O2 f3 V1 g_b1 (nw (nu (nu V_b.lt (Nat.le_refl _)) (Nat.le_of_eq q1.symm))) dq0 dq1) hby d51_9 e1 pd_794 0 (by rw [hml]; rfl) rfl rfl rfl rfl (by decide) (by decide) fun _ T4 Lc4 X4 hQ4 => ?_
  obtain ⟨rfl, N4q, K4q⟩ := hQ4
  have N4 := Fr.app N0 N4q
  have Z5 := nt Z2 K4q.1
  have O5 := O2.keep K4q (allS g_b1 all0)
  have K5 := K2.trans K4q (allS (Or.inr sz_b1) all0)
  refine gs (fun _ k => jj X4 hx hby d51_12 rfl (jd X4 hx hby d51_14 rfl (jb X4 hx hby d51_16 rfl (ji X4 hx hby d51_17 (feq (by decide : ¬ ((1 : Int32) = (3 : Int32)))).1 (ja X4 hx hby d51_20 rfl rfl (jb X4 hx hby d51_21 rfl (jb X4 hx hby d51_22 rfl k))))))) ?_
  have f6 := (f3.keep K4q (ninS (nw (nu (nu V_b.lt (Nat.le_refl _)) (Nat.le_of_eq q1.symm))) nin0))
  refine cS (rest := []) X4 hx hZ hown (ow hw 244 rfl) (ow hw 245 rfl) (ow hw 21 rfl) (ow hw 246 rfl) (rm_tb16_3 l Z a0 hw [] b kc ch0 ch1 ch2 T4.heap n0 Z5 O5 f6 S_ad S_hi S_lo) hby d51_23 rfl pd_803 0 (by rw [hml]; rfl) rfl rfl rfl rfl (by decide) (by decide) fun _ T7 Lc7 X7 hQ7 => ?_
  obtain ⟨t7, kb7, rfl, N7q, K7q, g7t, E7t, V7q⟩ := hQ7
  have N7 := Fr.app N4 N7q
  have g_t7 : n0 ≤ t7 := nt Z5 g7t
  have sz_t7 : h0.size ≤ t7 := nt K5.1 g7t
  have Z8 := nt Z5 K7q.1
  have O8 := O5.keep K7q all0
  have K8 := K5.trans K7q all0
  refine gs (fun _ k => jo X7 hx hby d51_26 rfl rfl (jf X7 hx hby d51_28 rfl rfl (jd X7 hx hby d51_30 rfl k))) ?_
  refine cS (rest := []) X7 hx hZ hown (ow hw 260 rfl) (ow hw 261 rfl) (ow hw 21 rfl) (ow hw 262 rfl) (rm_gc l Z a0 hw [] t7 kb7 ([ch0, ch1, ch2] : List Int32) 1 6 T7.heap n0 Z8 O8 V7q (nb rfl) (nb rfl) (by decide) bq1 S_ad S_hi S_lo) hby d51_32 rfl pd_493 0 (by rw [hml]; rfl) rfl rfl rfl rfl (by decide) (by decide) fun _ T9 Lc9 X9 hQ9 => ?_
  obtain ⟨rfl, N9q, e9q⟩ := hQ9
  have N9 := Fr.app N7 N9q
  refine gs (fun _ k => XS.sipush X9.here hx rfl (hb hby d51_35) (jh (pc' := 54) X9 hx hby d51_38 (tlt dq1).2.2.1 (jf X9 hx hby d51_54 rfl rfl k))) ?_
  refine gout (v := some (.ref t7)) X9 Bd.notSynchronized (fun h => by rw [Bd.returns] at h; cases h) (by decide) (by decide) ?_ (fun fs hr => retOut X9 hx Bd.returns rfl (Or.inr (Or.inr (Or.inr (Or.inr ⟨rfl, rfl, rfl⟩)))) (hb hby d51_56) hr)
  rw [e9q]
  exact ⟨_, _, rfl, N9, K8, sz_t7, V7q⟩
theorem rm_cfl31 (l : Launch) (Z : State) (a0 : Array Value) (hw : HW Z a0) (ws : List Jvm.Cond) (t : Addr) (kb : ClassId) (vs : List Value) (h0 : Heap) (n0 : Nat) (Z0 : n0 ≤ h0.size) (O0 : Old Z n0 h0) (V_t : Arv Z h0 t kb .byte (6 : Int32) vs (.int (0 : Int32))) :
    Ctr l Z my3 jdk_52_method_15_code 2 ((Option.some Jvm.ClassFile.FieldType.byte)) ws (⟨0, 0, 0, 0⟩ : Room) #[(.ref t), (.int (3 : Int32))] h0 (fun v h L => v = some (.int (1 : Int32)) ∧ Fr n0 L ∧ h = h0) := by
  refine Ctr.go (plainFor_of_name pn_195) fun p e s m below meth c s₁ Bd hx hby hml hZ hown hnm X0 e0 => ?_
  have N0 := Fr.nil n0
  have K0 := Keep.refl h0 []
  refine gs (S' := s₁.setTop (mkF m 0 #[rv t, iv (3 : Int32)] [])) (fun tg kg => castTop (ef_196 m t (3 : Int32)) kg) ?_
  refine gs (fun _ k => jb X0 hx hby d52_0 rfl (ja X0 hx hby d52_1 rfl rfl k)) ?_
  obtain ⟨cl1, A1, a1q, a1S, a1N, a1H, a1G⟩ := id V_t
  refine gs (S' := s₁.setTop (mkF m 3 #[rv t, iv (3 : Int32)] [(.int (6 : Int32)), (.int (3 : Int32))])) (fun _ k => by refine X0.arraylength hx (by rw [e0]; exact A1.1) (State.isArrayOf_alike hZ.alike A1.2.1) (g := (mkF m 2 #[rv t, iv (3 : Int32)] [(.ref t), (.int (3 : Int32))])) rfl rfl (hb hby d52_2) _ ?_; rw [len_of a1S a1N]; exact k) ?_
  refine gs (fun _ k => jO X0 hx hby d52_3 (jr (v := (31 : Int32)) X0 hx hby d52_4 (o_iushr X0 hx hby d52_6 (jN X0 hx hby d52_7 k)))) ?_
  refine gout (v := some (.int (1 : Int32))) X0 Bd.notSynchronized (fun h => by rw [Bd.returns] at h; cases h) (by decide) (by decide) ?_ (fun fs hr => retN X0 hx (t := .byte) Bd.returns (by simp) (hb hby d52_8) hr)
  rw [e0]
  exact ⟨rfl, N0, rfl⟩
theorem rm_si4_31 (l : Launch) (Z : State) (a0 : Array Value) (hw : HW Z a0) (ws : List Jvm.Cond) (a : Addr) (b : Addr) (kc : ClassId) (ch0 : Int32) (ch1 : Int32) (ch2 : Int32) (z : Int32) (h0 : Heap) (n0 : Nat) (Z0 : n0 ≤ h0.size) (O0 : Old Z n0 h0) (E_a : Exa Z h0 a "java/lang/String") (F_va : Fld Z h0 a "java/lang/String" "value" "[B" .null) (F_ca : Fld Z h0 a "java/lang/String" "coder" "B" (.int (0 : Int32))) (g_a : n0 ≤ a) (V_b : Arv Z h0 b kc .char (3 : Int32) [(.int ch0), (.int ch1), (.int ch2)] (.int (0 : Int32))) (dq0 : ¬ (255 : Int32) < ch0) (dq1 : (255 : Int32) < ch1) (bq0 : ¬ ch0 < 0 ∧ ¬ (65535 : Int32) < ch0) (bq1 : ¬ ch1 < 0 ∧ ¬ (65535 : Int32) < ch1) (bq2 : ¬ ch2 < 0 ∧ ¬ (65535 : Int32) < ch2) (S_ad : PS0 Z (.int (1 : Int32))) (S_hi : PS1 Z (.int (0 : Int32))) (S_lo : PS2 Z (.int (8 : Int32))) (S0 : PS3 Z (.int z)) (hz : ¬ z = 0) :
    Ctr l Z my0 jdk_42_method_149_code 6 ((Option.none : Option Jvm.ClassFile.FieldType)) ws (⟨4, 2, 203, 57⟩ : Room) #[(.ref a), (.ref b), (.int (0 : Int32)), (.int (3 : Int32)), .null] h0 (fun v h L => v = none ∧ Fr n0 L ∧ Keep h0 h [a] ∧ SG Z h a [ch0, ch1, ch2]) := by
  refine Ctr.go (plainFor_of_name pn_15) fun p e s m below meth c s₁ Bd hx hby hml hZ hown hnm X0 e0 => ?_
  have N0 := Fr.nil n0
  have K0 := Keep.refl h0 [a]
  refine gs (S' := s₁.setTop (mkF m 0 #[rv a, rv b, iv (0 : Int32), iv (3 : Int32), .val .null, uu] [])) (fun tg kg => castTop (ef_0 m a b (0 : Int32) (3 : Int32)) kg) ?_
  refine gs (fun _ k => ja X0 hx hby d0_0 rfl rfl k) ?_
  obtain ⟨T1, X1, e1, st1⟩ := initO X0 hx hZ hown (ow hw 15 rfl) (ow hw 16 rfl) (ow hw 17 rfl) e0 (g := (mkF m 1 #[rv a, rv b, iv (0 : Int32), iv (3 : Int32), .val .null, uu] [(.ref a)])) rfl (by rw [hml]; rfl) rfl (hb hby d0_1) (by decide) (W := 0) (jK rfl) (by decide)
  refine gs (S' := T1.setTop (mkF m 4 #[rv a, rv b, iv (0 : Int32), iv (3 : Int32), .val .null, uu] [])) st1 ?_
  refine gs (fun _ k => jb X1 hx hby d0_4 rfl (jt (pc' := 27) X1 hx hby d0_5 ((if0 _ _).trans (feq (by decide : ¬ ((3 : Int32) = (0 : Int32)))).2) k)) ?_
  refine gS X1 hx hZ hown (host := "") (Or.inl (ow hw 18 rfl)) Via.refl e1 (S0.ext O0.2) hby d0_27 fun T2 X2 e2 => ?_
  refine gs (fun _ k => jn X2 hx hby d0_30 ((if0 _ _).trans (feq hz).1) (ja X2 hx hby d0_33 rfl rfl (jb X2 hx hby d0_34 rfl (jb X2 hx hby d0_35 rfl k)))) ?_
  refine cS (rest := []) X2 hx hZ hown (ow hw 19 rfl) (ow hw 20 rfl) (ow hw 21 rfl) (ow hw 22 rfl) (rm_cp3_31 l Z a0 hw [] b kc ch0 ch1 ch2 h0 n0 Z0 O0 V_b dq0 dq1 bq0 bq1 bq2 S_ad S_hi S_lo) hby d0_36 e2 pd_803 0 (by rw [hml]; rfl) rfl rfl rfl rfl (by decide) (by decide) fun _ T3 Lc3 X3 hQ3 => ?_
  obtain ⟨t3, kb3, rfl, N3q, K3q, g3t, V3q⟩ := hQ3
  have N3 := Fr.app N0 N3q
  have g_t3 : n0 ≤ t3 := nt Z0 g3t
  have sz_t3 : h0.size ≤ t3 := nt K0.1 g3t
  have Z4 := nt Z0 K3q.1
  have O4 := O0.keep K3q all0
  have K4 := K0.trans K3q all0
  refine gs (fun _ k => jo X3 hx hby d0_39 rfl rfl (ja X3 hx hby d0_41 rfl rfl (jf X3 hx hby d0_42 rfl rfl (jb X3 hx hby d0_44 rfl k)))) ?_
  refine cS (rest := [(.ref a)]) X3 hx hZ hown (ow hw 27 rfl) (ow hw 28 rfl) (ow hw 21 rfl) (ow hw 29 rfl) (rm_cfl31 l Z a0 hw [] t3 kb3 _ T3.heap n0 Z4 O4 V3q) hby d0_45 rfl pd_834 1 (by rw [hml]; rfl) rfl rfl rfl rfl (by decide) (by decide) fun _ T5 Lc5 X5 hQ5 => ?_
  obtain ⟨rfl, N5q, e5q⟩ := hQ5
  have N5 := Fr.app N3 N5q
  have f6 := (F_ca.keep K3q nin0)
  have f7 := (E_a.keep K3q)
  obtain ⟨T8, h8, X8, e8, W8, st8⟩ := putFN X5 hx hZ hown (ow hw 30 rfl) Via.refl e5q f6 f7 (Or.inr ⟨(ow hw 31 rfl), rfl, hnm⟩) (ow hw 5 rfl) (ty := .byte) (v' := (.int (1 : Int32))) (by decide) rfl rfl (g := (mkF m 48 #[rv a, rv b, iv (0 : Int32), iv (3 : Int32), .val .null, rv t3] [(.int (1 : Int32)), (.ref a)])) rfl rfl (hb hby d0_48)
  have N8 := Fr.snoc X8 N5 g_a
  have Fw8 := f6.same W8
  have Z9 := nt Z4 (Keep.of_wr W8).1
  have O9 := O4.wr W8 g_a
  have K9 := K4.wr W8 (Or.inl (List.mem_of_getElem? (i := 0) rfl))
  refine gs (S' := T8.setTop (mkF m 51 #[rv a, rv b, iv (0 : Int32), iv (3 : Int32), .val .null, rv t3] [])) st8 ?_
  refine gs (fun _ k => ja X8 hx hby d0_51 rfl rfl (jf X8 hx hby d0_52 rfl rfl k)) ?_
  have f10 := ((F_va.keep K3q nin0).other W8 (Or.inr (slot_ne (Or.inr (ow hw 33 rfl)) (Or.inr (ow hw 31 rfl)) (by decide) (t := (.array .byte)) (t' := .byte) (by decide) (by decide))))
  have f11 := (f7.wr W8)
  obtain ⟨T12, h12, X12, e12, W12, st12⟩ := putF X8 hx hZ hown (host := "") (Or.inl (ow hw 32 rfl)) Via.refl e8 f10 f11 (Or.inr ⟨(ow hw 33 rfl), rfl, hnm⟩) (ow hw 5 rfl) (ty := (.array .byte)) (by decide) rfl rfl (g := (mkF m 54 #[rv a, rv b, iv (0 : Int32), iv (3 : Int32), .val .null, rv t3] [(.ref t3), (.ref a)])) rfl rfl (hb hby d0_54)
  have N12 := Fr.snoc X12 N8 g_a
  have Fw12 := f10.same W12
  have Z13 := nt Z9 (Keep.of_wr W12).1
  have O13 := O9.wr W12 g_a
  have K13 := K9.wr W12 (Or.inl (List.mem_of_getElem? (i := 0) rfl))
  refine gs (S' := T12.setTop (mkF m 57 #[rv a, rv b, iv (0 : Int32), iv (3 : Int32), .val .null, rv t3] [])) st12 ?_
  have f14 := ((V3q.other W8 (Ne.symm (nw (nu (nu E_a.lt (Nat.le_refl _)) g3t)))).other W12 (Ne.symm (nw (nu (nu E_a.lt (Nat.le_refl _)) g3t))))
  have f15 := (f11.wr W12)
  have f16 := (Fw8.other W12 (Or.inr (slot_ne (Or.inr (ow hw 31 rfl)) (Or.inr (ow hw 33 rfl)) (by decide) (t := .byte) (t' := (.array .byte)) (by decide) (by decide))))
  refine gout (v := none) X12 Bd.notSynchronized (fun _ => rfl) (by decide) (by decide) ?_ (fun fs hr => X12.returnOut hx Bd.returns (hb hby d0_57) hr)
  rw [e12]
  exact ⟨rfl, N12, K13, _, _, 1, _, f15, f16, Fw12, by rw [jA]; exact f14, Or.inr ⟨rfl, rfl, (by intro c hc; simp only [List.mem_cons, List.not_mem_nil, or_false] at hc; rcases hc with rfl | rfl | rfl; exact bq0; exact bq1; exact bq2)⟩⟩
theorem rm_cp5_32 (l : Launch) (Z : State) (a0 : Array Value) (hw : HW Z a0) (ws : List Jvm.Cond) (b : Addr) (kc : ClassId) (t : Addr) (kb : ClassId) (ch0 : Int32) (ch1 : Int32) (ch2 : Int32) (h0 : Heap) (n0 : Nat) (Z0 : n0 ≤ h0.size) (O0 : Old Z n0 h0) (V_b : Arv Z h0 b kc .char (3 : Int32) [(.int ch0), (.int ch1), (.int ch2)] (.int (0 : Int32))) (V_t : Arv Z h0 t kb .byte (3 : Int32) [(.int (0 : Int32)), (.int (0 : Int32)), (.int (0 : Int32))] (.int (0 : Int32))) (g_t : n0 ≤ t) (hbt : b ≠ t) (dq0 : ¬ (255 : Int32) < ch0) (dq1 : ¬ (255 : Int32) < ch1) (dq2 : (255 : Int32) < ch2) :
    Ctr l Z my1 jdk_52_method_21_code 7 ((Option.some Jvm.ClassFile.FieldType.int)) ws (⟨0, 0, 0, 0⟩ : Room) #[(.ref b), (.int (0 : Int32)), (.ref t), (.int (0 : Int32)), (.int (3 : Int32))] h0 (fun v h L => v = some (.int (2 : Int32)) ∧ Fr n0 L ∧ Keep h0 h [t]) := by
  refine Ctr.go (plainFor_of_name pn_195) fun p e s m below meth c s₁ Bd hx hby hml hZ hown hnm X0 e0 => ?_
  have N0 := Fr.nil n0
  have K0 := Keep.refl h0 [t]
  refine gs (S' := s₁.setTop (mkF m 0 #[rv b, iv (0 : Int32), rv t, iv (0 : Int32), iv (3 : Int32), uu, uu] [])) (fun tg kg => castTop (ef_767 m b (0 : Int32) t (0 : Int32) (3 : Int32)) kg) ?_
  refine gs (fun _ k => je (v := (0 : Int32)) X0 hx hby d50_0 (jj X0 hx hby d50_1 rfl (jd X0 hx hby d50_3 rfl (jd X0 hx hby d50_5 rfl (ji X0 hx hby d50_7 (tlt (by decide : (0 : Int32) < (3 : Int32))).2.1 (ja X0 hx hby d50_10 rfl rfl (jb X0 hx hby d50_11 rfl k))))))) ?_
  obtain ⟨cl1, A1, a1q, a1S, a1N, a1H, a1G⟩ := id V_b
  have hi1 := inb_of a1S (j := (0 : Int32)) ⟨by decide, by decide⟩
  refine gs (fun _ k => X0.caload hx (j := (0 : Int32)) (v := (.int ch0)) (by rw [e0]; exact A1.1) (State.isArrayOf_alike hZ.alike A1.2.1) A1.2.2 hi1 (Has.at a1H hi1 rfl) (g := (mkF m 12 #[rv b, iv (0 : Int32), rv t, iv (0 : Int32), iv (3 : Int32), iv (0 : Int32), uu] [(.int (0 : Int32)), (.ref b)])) rfl rfl (hb hby d50_12) _ (jj X0 hx hby d50_13 rfl (jd X0 hx hby d50_15 rfl (XS.sipush X0.here hx rfl (hb hby d50_17) (jh (pc' := 26) X0 hx hby d50_20 (flt dq0).2.2.2 (ja X0 hx hby d50_26 rfl rfl (jb X0 hx hby d50_27 rfl (jd X0 hx hby d50_28 rfl (jN X0 hx hby d50_30 k))))))))) ?_
  obtain ⟨cl2, A2, a2q, a2S, a2N, a2H, a2G⟩ := id V_t
  obtain ⟨T2, h2, X2, e2, W2, st2⟩ := stB X0 hx hZ e0 A2 (j := (0 : Int32)) (inb_of a2S ⟨by decide, by decide⟩) (g := (mkF m 31 #[rv b, iv (0 : Int32), rv t, iv (0 : Int32), iv (3 : Int32), iv (0 : Int32), iv ch0] [(.int (ch0.toInt8.toInt32)), (.int (0 : Int32)), (.ref t)])) rfl rfl (hb hby d50_31)
  have V2 : Arv Z h2 t kb .byte (3 : Int32) [(.int (nar .byte (ch0.toInt8.toInt32))), (.int (0 : Int32)), (.int (0 : Int32))] (.int (0 : Int32)) := Arv.set A2 a2q a2S a2N a2H a2G (fits_nar_byte _) W2 0 rfl (nb rfl)
  have N2 := Fr.snoc X2 N0 g_t
  have Z3 := nt Z0 (Keep.of_wr W2).1
  have O3 := O0.wr W2 g_t
  have K3 := K0.wr W2 (Or.inl (List.mem_of_getElem? (i := 0) rfl))
  refine gs (S' := T2.setTop (mkF m 32 #[rv b, iv (0 : Int32), rv t, iv (0 : Int32), iv (3 : Int32), iv (0 : Int32), iv ch0] [])) st2 ?_
  refine gs (fun _ k => jm X2 hx hby d50_32 rfl rfl (jm X2 hx hby d50_35 rfl rfl (jm X2 hx hby d50_38 rfl rfl (jl (pc' := 3) X2 hx hby d50_41 (jd X2 hx hby d50_3 rfl (jd X2 hx hby d50_5 rfl (ji X2 hx hby d50_7 (tlt (by decide : (1 : Int32) < (3 : Int32))).2.1 (ja X2 hx hby d50_10 rfl rfl (jb X2 hx hby d50_11 rfl k))))))))) ?_
  have f4 := (V_b.other W2 hbt)
  obtain ⟨cl5, A5, a5q, a5S, a5N, a5H, a5G⟩ := id f4
  have hi5 := inb_of a5S (j := (1 : Int32)) ⟨by decide, by decide⟩
  refine gs (fun _ k => X2.caload hx (j := (1 : Int32)) (v := (.int ch1)) (by rw [e2]; exact A5.1) (State.isArrayOf_alike hZ.alike A5.2.1) A5.2.2 hi5 (Has.at a5H hi5 rfl) (g := (mkF m 12 #[rv b, iv (1 : Int32), rv t, iv (1 : Int32), iv (3 : Int32), iv (1 : Int32), iv ch0] [(.int (1 : Int32)), (.ref b)])) rfl rfl (hb hby d50_12) _ (jj X2 hx hby d50_13 rfl (jd X2 hx hby d50_15 rfl (XS.sipush X2.here hx rfl (hb hby d50_17) (jh (pc' := 26) X2 hx hby d50_20 (flt dq1).2.2.2 (ja X2 hx hby d50_26 rfl rfl (jb X2 hx hby d50_27 rfl (jd X2 hx hby d50_28 rfl (jN X2 hx hby d50_30 k))))))))) ?_
  obtain ⟨cl6, A6, a6q, a6S, a6N, a6H, a6G⟩ := id V2
  obtain ⟨T6, h6, X6, e6, W6, st6⟩ := stB X2 hx hZ e2 A6 (j := (1 : Int32)) (inb_of a6S ⟨by decide, by decide⟩) (g := (mkF m 31 #[rv b, iv (1 : Int32), rv t, iv (1 : Int32), iv (3 : Int32), iv (1 : Int32), iv ch1] [(.int (ch1.toInt8.toInt32)), (.int (1 : Int32)), (.ref t)])) rfl rfl (hb hby d50_31)
  have V6 : Arv Z h6 t kb .byte (3 : Int32) [(.int (nar .byte (ch0.toInt8.toInt32))), (.int (nar .byte (ch1.toInt8.toInt32))), (.int (0 : Int32))] (.int (0 : Int32)) := Arv.set A6 a6q a6S a6N a6H a6G (fits_nar_byte _) W6 1 rfl (nb rfl)
  have N6 := Fr.snoc X6 N2 g_t
  have Z7 := nt Z3 (Keep.of_wr W6).1
  have O7 := O3.wr W6 g_t
  have K7 := K3.wr W6 (Or.inl (List.mem_of_getElem? (i := 0) rfl))
  refine gs (S' := T6.setTop (mkF m 32 #[rv b, iv (1 : Int32), rv t, iv (1 : Int32), iv (3 : Int32), iv (1 : Int32), iv ch1] [])) st6 ?_
  refine gs (fun _ k => jm X6 hx hby d50_32 rfl rfl (jm X6 hx hby d50_35 rfl rfl (jm X6 hx hby d50_38 rfl rfl (jl (pc' := 3) X6 hx hby d50_41 (jd X6 hx hby d50_3 rfl (jd X6 hx hby d50_5 rfl (ji X6 hx hby d50_7 (tlt (by decide : (2 : Int32) < (3 : Int32))).2.1 (ja X6 hx hby d50_10 rfl rfl (jb X6 hx hby d50_11 rfl k))))))))) ?_
  have f8 := (f4.other W6 hbt)
  obtain ⟨cl9, A9, a9q, a9S, a9N, a9H, a9G⟩ := id f8
  have hi9 := inb_of a9S (j := (2 : Int32)) ⟨by decide, by decide⟩
  refine gs (fun _ k => X6.caload hx (j := (2 : Int32)) (v := (.int ch2)) (by rw [e6]; exact A9.1) (State.isArrayOf_alike hZ.alike A9.2.1) A9.2.2 hi9 (Has.at a9H hi9 rfl) (g := (mkF m 12 #[rv b, iv (2 : Int32), rv t, iv (2 : Int32), iv (3 : Int32), iv (2 : Int32), iv ch1] [(.int (2 : Int32)), (.ref b)])) rfl rfl (hb hby d50_12) _ (jj X6 hx hby d50_13 rfl (jd X6 hx hby d50_15 rfl (XS.sipush X6.here hx rfl (hb hby d50_17) (ji X6 hx hby d50_20 (tlt dq2).2.2.2 (jd X6 hx hby d50_23 rfl k)))))) ?_
  refine gout (v := some (.int (2 : Int32))) X6 Bd.notSynchronized (fun h => by rw [Bd.returns] at h; cases h) (by decide) (by decide) ?_ (fun fs hr => retI X6 hx Bd.returns (hb hby d50_25) hr)
  rw [e6]
  exact ⟨rfl, N6, K7⟩
theorem rm_cp3_32 (l : Launch) (Z : State) (a0 : Array Value) (hw : HW Z a0) (ws : List Jvm.Cond) (b : Addr) (kc : ClassId) (ch0 : Int32) (ch1 : Int32) (ch2 : Int32) (h0 : Heap) (n0 : Nat) (Z0 : n0 ≤ h0.size) (O0 : Old Z n0 h0) (V_b : Arv Z h0 b kc .char (3 : Int32) [(.int ch0), (.int ch1), (.int ch2)] (.int (0 : Int32))) (dq0 : ¬ (255 : Int32) < ch0) (dq1 : ¬ (255 : Int32) < ch1) (dq2 : (255 : Int32) < ch2) (bq0 : ¬ ch0 < 0 ∧ ¬ (65535 : Int32) < ch0) (bq1 : ¬ ch1 < 0 ∧ ¬ (65535 : Int32) < ch1) (bq2 : ¬ ch2 < 0 ∧ ¬ (65535 : Int32) < ch2) (S_ad : PS0 Z (.int (1 : Int32))) (S_hi : PS1 Z (.int (0 : Int32))) (S_lo : PS2 Z (.int (8 : Int32))) :
    Ctr l Z my2 jdk_52_method_16_code 6 ((Option.some (Jvm.ClassFile.FieldType.array Jvm.ClassFile.FieldType.byte))) ws (⟨3, 2, 203, 40⟩ : Room) #[(.ref b), (.int (0 : Int32)), (.int (3 : Int32))] h0 (fun v h L => ∃ (t1 : Addr) (k1 : ClassId), v = some (.ref t1) ∧ Fr n0 L ∧ Keep h0 h [] ∧ h0.size ≤ t1 ∧ Arv Z h t1 k1 .byte (6 : Int32) (jq [ch0, ch1, ch2]) (.int (0 : Int32))) := by
  refine Ctr.go (plainFor_of_name pn_195) fun p e s m below meth c s₁ Bd hx hby hml hZ hown hnm X0 e0 => ?_
  have N0 := Fr.nil n0
  have K0 := Keep.refl h0 []
  refine gs (S' := s₁.setTop (mkF m 0 #[rv b, iv (0 : Int32), iv (3 : Int32), uu, uu, uu] [])) (fun tg kg => castTop (ef_783 m b (0 : Int32) (3 : Int32)) kg) ?_
  refine gs (fun _ k => jb X0 hx hby d51_0 rfl k) ?_
  obtain ⟨T1, h1, k1, X1, e1, E1, A1, st1⟩ := newP X0 hx hZ (ow hw 23 rfl) e0 (g := (mkF m 1 #[rv b, iv (0 : Int32), iv (3 : Int32), uu, uu, uu] [(.int (3 : Int32))])) rfl (hb hby d51_1) rfl (by decide) (cap := 3) (by decide) (by decide) (by decide) (by decide)
  obtain ⟨b1, q1⟩ : ∃ z, z = h0.size := ⟨_, rfl⟩
  rw [← q1] at A1 st1
  have g_b1 : n0 ≤ b1 := nt Z0 (Nat.le_of_eq q1.symm)
  have sz_b1 : h0.size ≤ b1 := nt K0.1 (Nat.le_of_eq q1.symm)
  have Z2 := nt Z0 E1.1
  have O2 := O0.ext E1
  have K2 := K0.ext E1
  have V1 : Arv Z h1 b1 k1 .byte (3 : Int32) [(.int (0 : Int32)), (.int (0 : Int32)), (.int (0 : Int32))] (.int (0 : Int32)) := (Arv.new A1 (by decide)).pad (pad_rep [] (.int (0 : Int32)) 3)
  refine gs (S' := T1.setTop (mkF m 3 #[rv b, iv (0 : Int32), iv (3 : Int32), uu, uu, uu] [(.ref b1)])) st1 ?_
  refine gs (fun _ k => jw X1 hx hby d51_3 rfl rfl (ja X1 hx hby d51_4 rfl rfl (jb X1 hx hby d51_5 rfl (ja X1 hx hby d51_6 rfl rfl (je (v := (0 : Int32)) X1 hx hby d51_7 (jb X1 hx hby d51_8 rfl k)))))) ?_
  have f3 := (V_b.ext E1)
  refine cS (rest := []) X1 hx hZ hown (ow hw 24 rfl) (ow hw 25 rfl) (ow hw 21 rfl) (ow hw 26 rfl) (rm_cp5_32 l Z a0 hw [] b kc b1 k1 ch0 ch1 ch2 h1 n0 Z2 O2 f3 V1 g_b1 (nw (nu (nu V_b.lt (Nat.le_refl _)) (Nat.le_of_eq q1.symm))) dq0 dq1 dq2) hby d51_9 e1 pd_794 0 (by rw [hml]; rfl) rfl rfl rfl rfl (by decide) (by decide) fun _ T4 Lc4 X4 hQ4 => ?_
  obtain ⟨rfl, N4q, K4q⟩ := hQ4
  have N4 := Fr.app N0 N4q
  have Z5 := nt Z2 K4q.1
  have O5 := O2.keep K4q (allS g_b1 all0)
  have K5 := K2.trans K4q (allS (Or.inr sz_b1) all0)
  refine gs (fun _ k => jj X4 hx hby d51_12 rfl (jd X4 hx hby d51_14 rfl (jb X4 hx hby d51_16 rfl (ji X4 hx hby d51_17 (feq (by decide : ¬ ((2 : Int32) = (3 : Int32)))).1 (ja X4 hx hby d51_20 rfl rfl (jb X4 hx hby d51_21 rfl (jb X4 hx hby d51_22 rfl k))))))) ?_
  have f6 := (f3.keep K4q (ninS (nw (nu (nu V_b.lt (Nat.le_refl _)) (Nat.le_of_eq q1.symm))) nin0))
  refine cS (rest := []) X4 hx hZ hown (ow hw 244 rfl) (ow hw 245 rfl) (ow hw 21 rfl) (ow hw 246 rfl) (rm_tb16_3 l Z a0 hw [] b kc ch0 ch1 ch2 T4.heap n0 Z5 O5 f6 S_ad S_hi S_lo) hby d51_23 rfl pd_803 0 (by rw [hml]; rfl) rfl rfl rfl rfl (by decide) (by decide) fun _ T7 Lc7 X7 hQ7 => ?_
  obtain ⟨t7, kb7, rfl, N7q, K7q, g7t, E7t, V7q⟩ := hQ7
  have N7 := Fr.app N4 N7q
  have g_t7 : n0 ≤ t7 := nt Z5 g7t
  have sz_t7 : h0.size ≤ t7 := nt K5.1 g7t
  have Z8 := nt Z5 K7q.1
  have O8 := O5.keep K7q all0
  have K8 := K5.trans K7q all0
  refine gs (fun _ k => jo X7 hx hby d51_26 rfl rfl (jf X7 hx hby d51_28 rfl rfl (jd X7 hx hby d51_30 rfl k))) ?_
  refine cS (rest := []) X7 hx hZ hown (ow hw 260 rfl) (ow hw 261 rfl) (ow hw 21 rfl) (ow hw 262 rfl) (rm_gc l Z a0 hw [] t7 kb7 ([ch0, ch1, ch2] : List Int32) 2 6 T7.heap n0 Z8 O8 V7q (nb rfl) (nb rfl) (by decide) bq2 S_ad S_hi S_lo) hby d51_32 rfl pd_493 0 (by rw [hml]; rfl) rfl rfl rfl rfl (by decide) (by decide) fun _ T9 Lc9 X9 hQ9 => ?_
  obtain ⟨rfl, N9q, e9q⟩ := hQ9
  have N9 := Fr.app N7 N9q
  refine gs (fun _ k => XS.sipush X9.here hx rfl (hb hby d51_35) (jh (pc' := 54) X9 hx hby d51_38 (tlt dq2).2.2.1 (jf X9 hx hby d51_54 rfl rfl k))) ?_
  refine gout (v := some (.ref t7)) X9 Bd.notSynchronized (fun h => by rw [Bd.returns] at h; cases h) (by decide) (by decide) ?_ (fun fs hr => retOut X9 hx Bd.returns rfl (Or.inr (Or.inr (Or.inr (Or.inr ⟨rfl, rfl, rfl⟩)))) (hb hby d51_56) hr)
  rw [e9q]
  exact ⟨_, _, rfl, N9, K8, sz_t7, V7q⟩
theorem rm_cfl32 (l : Launch) (Z : State) (a0 : Array Value) (hw : HW Z a0) (ws : List Jvm.Cond) (t : Addr) (kb : ClassId) (vs : List Value) (h0 : Heap) (n0 : Nat) (Z0 : n0 ≤ h0.size) (O0 : Old Z n0 h0) (V_t : Arv Z h0 t kb .byte (6 : Int32) vs (.int (0 : Int32))) :
    Ctr l Z my3 jdk_52_method_15_code 2 ((Option.some Jvm.ClassFile.FieldType.byte)) ws (⟨0, 0, 0, 0⟩ : Room) #[(.ref t), (.int (3 : Int32))] h0 (fun v h L => v = some (.int (1 : Int32)) ∧ Fr n0 L ∧ h = h0) := by
  refine Ctr.go (plainFor_of_name pn_195) fun p e s m below meth c s₁ Bd hx hby hml hZ hown hnm X0 e0 => ?_
  have N0 := Fr.nil n0
  have K0 := Keep.refl h0 []
  refine gs (S' := s₁.setTop (mkF m 0 #[rv t, iv (3 : Int32)] [])) (fun tg kg => castTop (ef_196 m t (3 : Int32)) kg) ?_
  refine gs (fun _ k => jb X0 hx hby d52_0 rfl (ja X0 hx hby d52_1 rfl rfl k)) ?_
  obtain ⟨cl1, A1, a1q, a1S, a1N, a1H, a1G⟩ := id V_t
  refine gs (S' := s₁.setTop (mkF m 3 #[rv t, iv (3 : Int32)] [(.int (6 : Int32)), (.int (3 : Int32))])) (fun _ k => by refine X0.arraylength hx (by rw [e0]; exact A1.1) (State.isArrayOf_alike hZ.alike A1.2.1) (g := (mkF m 2 #[rv t, iv (3 : Int32)] [(.ref t), (.int (3 : Int32))])) rfl rfl (hb hby d52_2) _ ?_; rw [len_of a1S a1N]; exact k) ?_
  refine gs (fun _ k => jO X0 hx hby d52_3 (jr (v := (31 : Int32)) X0 hx hby d52_4 (o_iushr X0 hx hby d52_6 (jN X0 hx hby d52_7 k)))) ?_
  refine gout (v := some (.int (1 : Int32))) X0 Bd.notSynchronized (fun h => by rw [Bd.returns] at h; cases h) (by decide) (by decide) ?_ (fun fs hr => retN X0 hx (t := .byte) Bd.returns (by simp) (hb hby d52_8) hr)
  rw [e0]
  exact ⟨rfl, N0, rfl⟩
theorem rm_si4_32 (l : Launch) (Z : State) (a0 : Array Value) (hw : HW Z a0) (ws : List Jvm.Cond) (a : Addr) (b : Addr) (kc : ClassId) (ch0 : Int32) (ch1 : Int32) (ch2 : Int32) (z : Int32) (h0 : Heap) (n0 : Nat) (Z0 : n0 ≤ h0.size) (O0 : Old Z n0 h0) (E_a : Exa Z h0 a "java/lang/String") (F_va : Fld Z h0 a "java/lang/String" "value" "[B" .null) (F_ca : Fld Z h0 a "java/lang/String" "coder" "B" (.int (0 : Int32))) (g_a : n0 ≤ a) (V_b : Arv Z h0 b kc .char (3 : Int32) [(.int ch0), (.int ch1), (.int ch2)] (.int (0 : Int32))) (dq0 : ¬ (255 : Int32) < ch0) (dq1 : ¬ (255 : Int32) < ch1) (dq2 : (255 : Int32) < ch2) (bq0 : ¬ ch0 < 0 ∧ ¬ (65535 : Int32) < ch0) (bq1 : ¬ ch1 < 0 ∧ ¬ (65535 : Int32) < ch1) (bq2 : ¬ ch2 < 0 ∧ ¬ (65535 : Int32) < ch2) (S_ad : PS0 Z (.int (1 : Int32))) (S_hi : PS1 Z (.int (0 : Int32))) (S_lo : PS2 Z (.int (8 : Int32))) (S0 : PS3 Z (.int z)) (hz : ¬ z = 0) :
    Ctr l Z my0 jdk_42_method_149_code 6 ((Option.none : Option Jvm.ClassFile.FieldType)) ws (⟨4, 2, 203, 57⟩ : Room) #[(.ref a), (.ref b), (.int (0 : Int32)), (.int (3 : Int32)), .null] h0 (fun v h L => v = none ∧ Fr n0 L ∧ Keep h0 h [a] ∧ SG Z h a [ch0, ch1, ch2]) := by
  refine Ctr.go (plainFor_of_name pn_15) fun p e s m below meth c s₁ Bd hx hby hml hZ hown hnm X0 e0 => ?_
  have N0 := Fr.nil n0
  have K0 := Keep.refl h0 [a]
  refine gs (S' := s₁.setTop (mkF m 0 #[rv a, rv b, iv (0 : Int32), iv (3 : Int32), .val .null, uu] [])) (fun tg kg => castTop (ef_0 m a b (0 : Int32) (3 : Int32)) kg) ?_
  refine gs (fun _ k => ja X0 hx hby d0_0 rfl rfl k) ?_
  obtain ⟨T1, X1, e1, st1⟩ := initO X0 hx hZ hown (ow hw 15 rfl) (ow hw 16 rfl) (ow hw 17 rfl) e0 (g := (mkF m 1 #[rv a, rv b, iv (0 : Int32), iv (3 : Int32), .val .null, uu] [(.ref a)])) rfl (by rw [hml]; rfl) rfl (hb hby d0_1) (by decide) (W := 0) (jK rfl) (by decide)
  refine gs (S' := T1.setTop (mkF m 4 #[rv a, rv b, iv (0 : Int32), iv (3 : Int32), .val .null, uu] [])) st1 ?_
  refine gs (fun _ k => jb X1 hx hby d0_4 rfl (jt (pc' := 27) X1 hx hby d0_5 ((if0 _ _).trans (feq (by decide : ¬ ((3 : Int32) = (0 : Int32)))).2) k)) ?_
  refine gS X1 hx hZ hown (host := "") (Or.inl (ow hw 18 rfl)) Via.refl e1 (S0.ext O0.2) hby d0_27 fun T2 X2 e2 => ?_
  refine gs (fun _ k => jn X2 hx hby d0_30 ((if0 _ _).trans (feq hz).1) (ja X2 hx hby d0_33 rfl rfl (jb X2 hx hby d0_34 rfl (jb X2 hx hby d0_35 rfl k)))) ?_
  refine cS (rest := []) X2 hx hZ hown (ow hw 19 rfl) (ow hw 20 rfl) (ow hw 21 rfl) (ow hw 22 rfl) (rm_cp3_32 l Z a0 hw [] b kc ch0 ch1 ch2 h0 n0 Z0 O0 V_b dq0 dq1 dq2 bq0 bq1 bq2 S_ad S_hi S_lo) hby d0_36 e2 pd_803 0 (by rw [hml]; rfl) rfl rfl rfl rfl (by decide) (by decide) fun _ T3 Lc3 X3 hQ3 => ?_
  obtain ⟨t3, kb3, rfl, N3q, K3q, g3t, V3q⟩ := hQ3
  have N3 := Fr.app N0 N3q
  have g_t3 : n0 ≤ t3 := nt Z0 g3t
  have sz_t3 : h0.size ≤ t3 := nt K0.1 g3t
  have Z4 := nt Z0 K3q.1
  have O4 := O0.keep K3q all0
  have K4 := K0.trans K3q all0
  refine gs (fun _ k => jo X3 hx hby d0_39 rfl rfl (ja X3 hx hby d0_41 rfl rfl (jf X3 hx hby d0_42 rfl rfl (jb X3 hx hby d0_44 rfl k)))) ?_
  refine cS (rest := [(.ref a)]) X3 hx hZ hown (ow hw 27 rfl) (ow hw 28 rfl) (ow hw 21 rfl) (ow hw 29 rfl) (rm_cfl32 l Z a0 hw [] t3 kb3 _ T3.heap n0 Z4 O4 V3q) hby d0_45 rfl pd_834 1 (by rw [hml]; rfl) rfl rfl rfl rfl (by decide) (by decide) fun _ T5 Lc5 X5 hQ5 => ?_
  obtain ⟨rfl, N5q, e5q⟩ := hQ5
  have N5 := Fr.app N3 N5q
  have f6 := (F_ca.keep K3q nin0)
  have f7 := (E_a.keep K3q)
  obtain ⟨T8, h8, X8, e8, W8, st8⟩ := putFN X5 hx hZ hown (ow hw 30 rfl) Via.refl e5q f6 f7 (Or.inr ⟨(ow hw 31 rfl), rfl, hnm⟩) (ow hw 5 rfl) (ty := .byte) (v' := (.int (1 : Int32))) (by decide) rfl rfl (g := (mkF m 48 #[rv a, rv b, iv (0 : Int32), iv (3 : Int32), .val .null, rv t3] [(.int (1 : Int32)), (.ref a)])) rfl rfl (hb hby d0_48)
  have N8 := Fr.snoc X8 N5 g_a
  have Fw8 := f6.same W8
  have Z9 := nt Z4 (Keep.of_wr W8).1
  have O9 := O4.wr W8 g_a
  have K9 := K4.wr W8 (Or.inl (List.mem_of_getElem? (i := 0) rfl))
  refine gs (S' := T8.setTop (mkF m 51 #[rv a, rv b, iv (0 : Int32), iv (3 : Int32), .val .null, rv t3] [])) st8 ?_
  refine gs (fun _ k => ja X8 hx hby d0_51 rfl rfl (jf X8 hx hby d0_52 rfl rfl k)) ?_
  have f10 := ((F_va.keep K3q nin0).other W8 (Or.inr (slot_ne (Or.inr (ow hw 33 rfl)) (Or.inr (ow hw 31 rfl)) (by decide) (t := (.array .byte)) (t' := .byte) (by decide) (by decide))))
  have f11 := (f7.wr W8)
  obtain ⟨T12, h12, X12, e12, W12, st12⟩ := putF X8 hx hZ hown (host := "") (Or.inl (ow hw 32 rfl)) Via.refl e8 f10 f11 (Or.inr ⟨(ow hw 33 rfl), rfl, hnm⟩) (ow hw 5 rfl) (ty := (.array .byte)) (by decide) rfl rfl (g := (mkF m 54 #[rv a, rv b, iv (0 : Int32), iv (3 : Int32), .val .null, rv t3] [(.ref t3), (.ref a)])) rfl rfl (hb hby d0_54)
  have N12 := Fr.snoc X12 N8 g_a
  have Fw12 := f10.same W12
  have Z13 := nt Z9 (Keep.of_wr W12).1
  have O13 := O9.wr W12 g_a
  have K13 := K9.wr W12 (Or.inl (List.mem_of_getElem? (i := 0) rfl))
  refine gs (S' := T12.setTop (mkF m 57 #[rv a, rv b, iv (0 : Int32), iv (3 : Int32), .val .null, rv t3] [])) st12 ?_
  have f14 := ((V3q.other W8 (Ne.symm (nw (nu (nu E_a.lt (Nat.le_refl _)) g3t)))).other W12 (Ne.symm (nw (nu (nu E_a.lt (Nat.le_refl _)) g3t))))
  have f15 := (f11.wr W12)
  have f16 := (Fw8.other W12 (Or.inr (slot_ne (Or.inr (ow hw 31 rfl)) (Or.inr (ow hw 33 rfl)) (by decide) (t := .byte) (t' := (.array .byte)) (by decide) (by decide))))
  refine gout (v := none) X12 Bd.notSynchronized (fun _ => rfl) (by decide) (by decide) ?_ (fun fs hr => X12.returnOut hx Bd.returns (hb hby d0_57) hr)
  rw [e12]
  exact ⟨rfl, N12, K13, _, _, 1, _, f15, f16, Fw12, by rw [jA]; exact f14, Or.inr ⟨rfl, rfl, (by intro c hc; simp only [List.mem_cons, List.not_mem_nil, or_false] at hc; rcases hc with rfl | rfl | rfl; exact bq0; exact bq1; exact bq2)⟩⟩
theorem rm_cp5_33 (l : Launch) (Z : State) (a0 : Array Value) (hw : HW Z a0) (ws : List Jvm.Cond) (b : Addr) (kc : ClassId) (t : Addr) (kb : ClassId) (ch0 : Int32) (ch1 : Int32) (ch2 : Int32) (h0 : Heap) (n0 : Nat) (Z0 : n0 ≤ h0.size) (O0 : Old Z n0 h0) (V_b : Arv Z h0 b kc .char (3 : Int32) [(.int ch0), (.int ch1), (.int ch2)] (.int (0 : Int32))) (V_t : Arv Z h0 t kb .byte (3 : Int32) [(.int (0 : Int32)), (.int (0 : Int32)), (.int (0 : Int32))] (.int (0 : Int32))) (g_t : n0 ≤ t) (hbt : b ≠ t) (dq0 : ¬ (255 : Int32) < ch0) (dq1 : ¬ (255 : Int32) < ch1) (dq2 : ¬ (255 : Int32) < ch2) :
    Ctr l Z my1 jdk_52_method_21_code 7 ((Option.some Jvm.ClassFile.FieldType.int)) ws (⟨0, 0, 0, 0⟩ : Room) #[(.ref b), (.int (0 : Int32)), (.ref t), (.int (0 : Int32)), (.int (3 : Int32))] h0 (fun v h L => v = some (.int (3 : Int32)) ∧ Fr n0 L ∧ Keep h0 h [t] ∧ Arv Z h t kb .byte (3 : Int32) [(.int (nar .byte (ch0.toInt8.toInt32))), (.int (nar .byte (ch1.toInt8.toInt32))), (.int (nar .byte (ch2.toInt8.toInt32)))] (.int (0 : Int32))) := by
  refine Ctr.go (plainFor_of_name pn_195) fun p e s m below meth c s₁ Bd hx hby hml hZ hown hnm X0 e0 => ?_
  have N0 := Fr.nil n0
  have K0 := Keep.refl h0 [t]
  refine gs (S' := s₁.setTop (mkF m 0 #[rv b, iv (0 : Int32), rv t, iv (0 : Int32), iv (3 : Int32), uu, uu] [])) (fun tg kg => castTop (ef_767 m b (0 : Int32) t (0 : Int32) (3 : Int32)) kg) ?_
  refine gs (fun _ k => je (v := (0 : Int32)) X0 hx hby d50_0 (jj X0 hx hby d50_1 rfl (jd X0 hx hby d50_3 rfl (jd X0 hx hby d50_5 rfl (ji X0 hx hby d50_7 (tlt (by decide : (0 : Int32) < (3 : Int32))).2.1 (ja X0 hx hby d50_10 rfl rfl (jb X0 hx hby d50_11 rfl k))))))) ?_
  obtain ⟨cl1, A1, a1q, a1S, a1N, a1H, a1G⟩ := id V_b
  have hi1 := inb_of a1S (j := (0 : Int32)) ⟨by decide, by decide⟩
  refine gs (fun _ k => X0.caload hx (j := (0 : Int32)) (v := (.int ch0)) (by rw [e0]; exact A1.1) (State.isArrayOf_alike hZ.alike A1.2.1) A1.2.2 hi1 (Has.at a1H hi1 rfl) (g := (mkF m 12 #[rv b, iv (0 : Int32), rv t, iv (0 : Int32), iv (3 : Int32), iv (0 : Int32), uu] [(.int (0 : Int32)), (.ref b)])) rfl rfl (hb hby d50_12) _ (jj X0 hx hby d50_13 rfl (jd X0 hx hby d50_15 rfl (XS.sipush X0.here hx rfl (hb hby d50_17) (jh (pc' := 26) X0 hx hby d50_20 (flt dq0).2.2.2 (ja X0 hx hby d50_26 rfl rfl (jb X0 hx hby d50_27 rfl (jd X0 hx hby d50_28 rfl (jN X0 hx hby d50_30 k))))))))) ?_
  obtain ⟨cl2, A2, a2q, a2S, a2N, a2H, a2G⟩ := id V_t
  obtain ⟨T2, h2, X2, e2, W2, st2⟩ := stB X0 hx hZ e0 A2 (j := (0 : Int32)) (inb_of a2S ⟨by decide, by decide⟩) (g := (mkF m 31 #[rv b, iv (0 : Int32), rv t, iv (0 : Int32), iv (3 : Int32), iv (0 : Int32), iv ch0] [(.int (ch0.toInt8.toInt32)), (.int (0 : Int32)), (.ref t)])) rfl rfl (hb hby d50_31)
  have V2 : Arv Z h2 t kb .byte (3 : Int32) [(.int (nar .byte (ch0.toInt8.toInt32))), (.int (0 : Int32)), (.int (0 : Int32))] (.int (0 : Int32)) := Arv.set A2 a2q a2S a2N a2H a2G (fits_nar_byte _) W2 0 rfl (nb rfl)
  have N2 := Fr.snoc X2 N0 g_t
  have Z3 := nt Z0 (Keep.of_wr W2).1
  have O3 := O0.wr W2 g_t
  have K3 := K0.wr W2 (Or.inl (List.mem_of_getElem? (i := 0) rfl))
  refine gs (S' := T2.setTop (mkF m 32 #[rv b, iv (0 : Int32), rv t, iv (0 : Int32), iv (3 : Int32), iv (0 : Int32), iv ch0] [])) st2 ?_
  refine gs (fun _ k => jm X2 hx hby d50_32 rfl rfl (jm X2 hx hby d50_35 rfl rfl (jm X2 hx hby d50_38 rfl rfl (jl (pc' := 3) X2 hx hby d50_41 (jd X2 hx hby d50_3 rfl (jd X2 hx hby d50_5 rfl (ji X2 hx hby d50_7 (tlt (by decide : (1 : Int32) < (3 : Int32))).2.1 (ja X2 hx hby d50_10 rfl rfl (jb X2 hx hby d50_11 rfl k))))))))) ?_
  have f4 := (V_b.other W2 hbt)
  obtain ⟨cl5, A5, a5q, a5S, a5N, a5H, a5G⟩ := id f4
  have hi5 := inb_of a5S (j := (1 : Int32)) ⟨by decide, by decide⟩
  refine gs (fun _ k => X2.caload hx (j := (1 : Int32)) (v := (.int ch1)) (by rw [e2]; exact A5.1) (State.isArrayOf_alike hZ.alike A5.2.1) A5.2.2 hi5 (Has.at a5H hi5 rfl) (g := (mkF m 12 #[rv b, iv (1 : Int32), rv t, iv (1 : Int32), iv (3 : Int32), iv (1 : Int32), iv ch0] [(.int (1 : Int32)), (.ref b)])) rfl rfl (hb hby d50_12) _ (jj X2 hx hby d50_13 rfl (jd X2 hx hby d50_15 rfl (XS.sipush X2.here hx rfl (hb hby d50_17) (jh (pc' := 26) X2 hx hby d50_20 (flt dq1).2.2.2 (ja X2 hx hby d50_26 rfl rfl (jb X2 hx hby d50_27 rfl (jd X2 hx hby d50_28 rfl (jN X2 hx hby d50_30 k))))))))) ?_
  obtain ⟨cl6, A6, a6q, a6S, a6N, a6H, a6G⟩ := id V2
  obtain ⟨T6, h6, X6, e6, W6, st6⟩ := stB X2 hx hZ e2 A6 (j := (1 : Int32)) (inb_of a6S ⟨by decide, by decide⟩) (g := (mkF m 31 #[rv b, iv (1 : Int32), rv t, iv (1 : Int32), iv (3 : Int32), iv (1 : Int32), iv ch1] [(.int (ch1.toInt8.toInt32)), (.int (1 : Int32)), (.ref t)])) rfl rfl (hb hby d50_31)
  have V6 : Arv Z h6 t kb .byte (3 : Int32) [(.int (nar .byte (ch0.toInt8.toInt32))), (.int (nar .byte (ch1.toInt8.toInt32))), (.int (0 : Int32))] (.int (0 : Int32)) := Arv.set A6 a6q a6S a6N a6H a6G (fits_nar_byte _) W6 1 rfl (nb rfl)
  have N6 := Fr.snoc X6 N2 g_t
  have Z7 := nt Z3 (Keep.of_wr W6).1
  have O7 := O3.wr W6 g_t
  have K7 := K3.wr W6 (Or.inl (List.mem_of_getElem? (i := 0) rfl))
  refine gs (S' := T6.setTop (mkF m 32 #[rv b, iv (1 : Int32), rv t, iv (1 : Int32), iv (3 : Int32), iv (1 : Int32), iv ch1] [])) st6 ?_
  refine gs (fun _ k => jm X6 hx hby d50_32 rfl rfl (jm X6 hx hby d50_35 rfl rfl (jm X6 hx hby d50_38 rfl rfl (jl (pc' := 3) X6 hx hby d50_41 (jd X6 hx hby d50_3 rfl (jd X6 hx hby d50_5 rfl (ji X6 hx hby d50_7 (tlt (by decide : (2 : Int32) < (3 : Int32))).2.1 (ja X6 hx hby d50_10 rfl rfl (jb X6 hx hby d50_11 rfl k))))))))) ?_
  have f8 := (f4.other W6 hbt)
  obtain ⟨cl9, A9, a9q, a9S, a9N, a9H, a9G⟩ := id f8
  have hi9 := inb_of a9S (j := (2 : Int32)) ⟨by decide, by decide⟩
  refine gs (fun _ k => X6.caload hx (j := (2 : Int32)) (v := (.int ch2)) (by rw [e6]; exact A9.1) (State.isArrayOf_alike hZ.alike A9.2.1) A9.2.2 hi9 (Has.at a9H hi9 rfl) (g := (mkF m 12 #[rv b, iv (2 : Int32), rv t, iv (2 : Int32), iv (3 : Int32), iv (2 : Int32), iv ch1] [(.int (2 : Int32)), (.ref b)])) rfl rfl (hb hby d50_12) _ (jj X6 hx hby d50_13 rfl (jd X6 hx hby d50_15 rfl (XS.sipush X6.here hx rfl (hb hby d50_17) (jh (pc' := 26) X6 hx hby d50_20 (flt dq2).2.2.2 (ja X6 hx hby d50_26 rfl rfl (jb X6 hx hby d50_27 rfl (jd X6 hx hby d50_28 rfl (jN X6 hx hby d50_30 k))))))))) ?_
  obtain ⟨cl10, A10, a10q, a10S, a10N, a10H, a10G⟩ := id V6
  obtain ⟨T10, h10, X10, e10, W10, st10⟩ := stB X6 hx hZ e6 A10 (j := (2 : Int32)) (inb_of a10S ⟨by decide, by decide⟩) (g := (mkF m 31 #[rv b, iv (2 : Int32), rv t, iv (2 : Int32), iv (3 : Int32), iv (2 : Int32), iv ch2] [(.int (ch2.toInt8.toInt32)), (.int (2 : Int32)), (.ref t)])) rfl rfl (hb hby d50_31)
  have V10 : Arv Z h10 t kb .byte (3 : Int32) [(.int (nar .byte (ch0.toInt8.toInt32))), (.int (nar .byte (ch1.toInt8.toInt32))), (.int (nar .byte (ch2.toInt8.toInt32)))] (.int (0 : Int32)) := Arv.set A10 a10q a10S a10N a10H a10G (fits_nar_byte _) W10 2 rfl (nb rfl)
  have N10 := Fr.snoc X10 N6 g_t
  have Z11 := nt Z7 (Keep.of_wr W10).1
  have O11 := O7.wr W10 g_t
  have K11 := K7.wr W10 (Or.inl (List.mem_of_getElem? (i := 0) rfl))
  refine gs (S' := T10.setTop (mkF m 32 #[rv b, iv (2 : Int32), rv t, iv (2 : Int32), iv (3 : Int32), iv (2 : Int32), iv ch2] [])) st10 ?_
  refine gs (fun _ k => jm X10 hx hby d50_32 rfl rfl (jm X10 hx hby d50_35 rfl rfl (jm X10 hx hby d50_38 rfl rfl (jl (pc' := 3) X10 hx hby d50_41 (jd X10 hx hby d50_3 rfl (jd X10 hx hby d50_5 rfl (jh (pc' := 44) X10 hx hby d50_7 (flt (by decide : ¬ ((3 : Int32) < (3 : Int32)))).2.1 (jd X10 hx hby d50_44 rfl k)))))))) ?_
  refine gout (v := some (.int (3 : Int32))) X10 Bd.notSynchronized (fun h => by rw [Bd.returns] at h; cases h) (by decide) (by decide) ?_ (fun fs hr => retI X10 hx Bd.returns (hb hby d50_46) hr)
  rw [e10]
  exact ⟨rfl, N10, K11, V10⟩
theorem rm_cp3_33 (l : Launch) (Z : State) (a0 : Array Value) (hw : HW Z a0) (ws : List Jvm.Cond) (b : Addr) (kc : ClassId) (ch0 : Int32) (ch1 : Int32) (ch2 : Int32) (h0 : Heap) (n0 : Nat) (Z0 : n0 ≤ h0.size) (O0 : Old Z n0 h0) (V_b : Arv Z h0 b kc .char (3 : Int32) [(.int ch0), (.int ch1), (.int ch2)] (.int (0 : Int32))) (dq0 : ¬ (255 : Int32) < ch0) (dq1 : ¬ (255 : Int32) < ch1) (dq2 : ¬ (255 : Int32) < ch2) (bq0 : ¬ ch0 < 0 ∧ ¬ (65535 : Int32) < ch0) (bq1 : ¬ ch1 < 0 ∧ ¬ (65535 : Int32) < ch1) (bq2 : ¬ ch2 < 0 ∧ ¬ (65535 : Int32) < ch2) (S_ad : PS0 Z (.int (1 : Int32))) (S_hi : PS1 Z (.int (0 : Int32))) (S_lo : PS2 Z (.int (8 : Int32))) :
    Ctr l Z my2 jdk_52_method_16_code 6 ((Option.some (Jvm.ClassFile.FieldType.array Jvm.ClassFile.FieldType.byte))) ws (⟨1, 1, 3, 18⟩ : Room) #[(.ref b), (.int (0 : Int32)), (.int (3 : Int32))] h0 (fun v h L => ∃ (t1 : Addr) (k1 : ClassId), v = some (.ref t1) ∧ Fr n0 L ∧ Keep h0 h [] ∧ h0.size ≤ t1 ∧ Arv Z h t1 k1 .byte (3 : Int32) [(.int (nar .byte (ch0.toInt8.toInt32))), (.int (nar .byte (ch1.toInt8.toInt32))), (.int (nar .byte (ch2.toInt8.toInt32)))] (.int (0 : Int32))) := by
  refine Ctr.go (plainFor_of_name pn_195) fun p e s m below meth c s₁ Bd hx hby hml hZ hown hnm X0 e0 => ?_
  have N0 := Fr.nil n0
  have K0 := Keep.refl h0 []
  refine gs (S' := s₁.setTop (mkF m 0 #[rv b, iv (0 : Int32), iv (3 : Int32), uu, uu, uu] [])) (fun tg kg => castTop (ef_783 m b (0 : Int32) (3 : Int32)) kg) ?_
  refine gs (fun _ k => jb X0 hx hby d51_0 rfl k) ?_
  obtain ⟨T1, h1, k1, X1, e1, E1, A1, st1⟩ := newP X0 hx hZ (ow hw 23 rfl) e0 (g := (mkF m 1 #[rv b, iv (0 : Int32), iv (3 : Int32), uu, uu, uu] [(.int (3 : Int32))])) rfl (hb hby d51_1) rfl (by decide) (cap := 3) (by decide) (by decide) (by decide) (by decide)
  obtain ⟨b1, q1⟩ : ∃ z, z = h0.size := ⟨_, rfl⟩
  rw [← q1] at A1 st1
  have g_b1 : n0 ≤ b1 := nt Z0 (Nat.le_of_eq q1.symm)
  have sz_b1 : h0.size ≤ b1 := nt K0.1 (Nat.le_of_eq q1.symm)
  have Z2 := nt Z0 E1.1
  have O2 := O0.ext E1
  have K2 := K0.ext E1
  have V1 : Arv Z h1 b1 k1 .byte (3 : Int32) [(.int (0 : Int32)), (.int (0 : Int32)), (.int (0 : Int32))] (.int (0 : Int32)) := (Arv.new A1 (by decide)).pad (pad_rep [] (.int (0 : Int32)) 3)
  refine gs (S' := T1.setTop (mkF m 3 #[rv b, iv (0 : Int32), iv (3 : Int32), uu, uu, uu] [(.ref b1)])) st1 ?_
  refine gs (fun _ k => jw X1 hx hby d51_3 rfl rfl (ja X1 hx hby d51_4 rfl rfl (jb X1 hx hby d51_5 rfl (ja X1 hx hby d51_6 rfl rfl (je (v := (0 : Int32)) X1 hx hby d51_7 (jb X1 hx hby d51_8 rfl k)))))) ?_
  have f3 := (V_b.ext E1)
  refine cS (rest := []) X1 hx hZ hown (ow hw 24 rfl) (ow hw 25 rfl) (ow hw 21 rfl) (ow hw 26 rfl) (rm_cp5_33 l Z a0 hw [] b kc b1 k1 ch0 ch1 ch2 h1 n0 Z2 O2 f3 V1 g_b1 (nw (nu (nu V_b.lt (Nat.le_refl _)) (Nat.le_of_eq q1.symm))) dq0 dq1 dq2) hby d51_9 e1 pd_794 0 (by rw [hml]; rfl) rfl rfl rfl rfl (by decide) (by decide) fun _ T4 Lc4 X4 hQ4 => ?_
  obtain ⟨rfl, N4q, K4q, V4q⟩ := hQ4
  have N4 := Fr.app N0 N4q
  have Z5 := nt Z2 K4q.1
  have O5 := O2.keep K4q (allS g_b1 all0)
  have K5 := K2.trans K4q (allS (Or.inr sz_b1) all0)
  refine gs (fun _ k => jj X4 hx hby d51_12 rfl (jd X4 hx hby d51_14 rfl (jb X4 hx hby d51_16 rfl (jh (pc' := 57) X4 hx hby d51_17 (teq (by decide : (3 : Int32) = (3 : Int32))).1 (ja X4 hx hby d51_57 rfl rfl k))))) ?_
  refine gout (v := some (.ref b1)) X4 Bd.notSynchronized (fun h => by rw [Bd.returns] at h; cases h) (by decide) (by decide) ?_ (fun fs hr => retOut X4 hx Bd.returns rfl (Or.inr (Or.inr (Or.inr (Or.inr ⟨rfl, rfl, rfl⟩)))) (hb hby d51_58) hr)
  exact ⟨_, _, rfl, N4, K5, sz_b1, V4q⟩
theorem rm_cfl33 (l : Launch) (Z : State) (a0 : Array Value) (hw : HW Z a0) (ws : List Jvm.Cond) (t : Addr) (kb : ClassId) (vs : List Value) (h0 : Heap) (n0 : Nat) (Z0 : n0 ≤ h0.size) (O0 : Old Z n0 h0) (V_t : Arv Z h0 t kb .byte (3 : Int32) vs (.int (0 : Int32))) :
    Ctr l Z my3 jdk_52_method_15_code 2 ((Option.some Jvm.ClassFile.FieldType.byte)) ws (⟨0, 0, 0, 0⟩ : Room) #[(.ref t), (.int (3 : Int32))] h0 (fun v h L => v = some (.int (0 : Int32)) ∧ Fr n0 L ∧ h = h0) := by
  refine Ctr.go (plainFor_of_name pn_195) fun p e s m below meth c s₁ Bd hx hby hml hZ hown hnm X0 e0 => ?_
  have N0 := Fr.nil n0
  have K0 := Keep.refl h0 []
  refine gs (S' := s₁.setTop (mkF m 0 #[rv t, iv (3 : Int32)] [])) (fun tg kg => castTop (ef_196 m t (3 : Int32)) kg) ?_
  refine gs (fun _ k => jb X0 hx hby d52_0 rfl (ja X0 hx hby d52_1 rfl rfl k)) ?_
  obtain ⟨cl1, A1, a1q, a1S, a1N, a1H, a1G⟩ := id V_t
  refine gs (S' := s₁.setTop (mkF m 3 #[rv t, iv (3 : Int32)] [(.int (3 : Int32)), (.int (3 : Int32))])) (fun _ k => by refine X0.arraylength hx (by rw [e0]; exact A1.1) (State.isArrayOf_alike hZ.alike A1.2.1) (g := (mkF m 2 #[rv t, iv (3 : Int32)] [(.ref t), (.int (3 : Int32))])) rfl rfl (hb hby d52_2) _ ?_; rw [len_of a1S a1N]; exact k) ?_
  refine gs (fun _ k => jO X0 hx hby d52_3 (jr (v := (31 : Int32)) X0 hx hby d52_4 (o_iushr X0 hx hby d52_6 (jN X0 hx hby d52_7 k)))) ?_
  refine gout (v := some (.int (0 : Int32))) X0 Bd.notSynchronized (fun h => by rw [Bd.returns] at h; cases h) (by decide) (by decide) ?_ (fun fs hr => retN X0 hx (t := .byte) Bd.returns (by simp) (hb hby d52_8) hr)
  rw [e0]
  exact ⟨rfl, N0, rfl⟩
theorem rm_si4_33 (l : Launch) (Z : State) (a0 : Array Value) (hw : HW Z a0) (ws : List Jvm.Cond) (a : Addr) (b : Addr) (kc : ClassId) (ch0 : Int32) (ch1 : Int32) (ch2 : Int32) (z : Int32) (h0 : Heap) (n0 : Nat) (Z0 : n0 ≤ h0.size) (O0 : Old Z n0 h0) (E_a : Exa Z h0 a "java/lang/String") (F_va : Fld Z h0 a "java/lang/String" "value" "[B" .null) (F_ca : Fld Z h0 a "java/lang/String" "coder" "B" (.int (0 : Int32))) (g_a : n0 ≤ a) (V_b : Arv Z h0 b kc .char (3 : Int32) [(.int ch0), (.int ch1), (.int ch2)] (.int (0 : Int32))) (dq0 : ¬ (255 : Int32) < ch0) (dq1 : ¬ (255 : Int32) < ch1) (dq2 : ¬ (255 : Int32) < ch2) (bq0 : ¬ ch0 < 0 ∧ ¬ (65535 : Int32) < ch0) (bq1 : ¬ ch1 < 0 ∧ ¬ (65535 : Int32) < ch1) (bq2 : ¬ ch2 < 0 ∧ ¬ (65535 : Int32) < ch2) (S_ad : PS0 Z (.int (1 : Int32))) (S_hi : PS1 Z (.int (0 : Int32))) (S_lo : PS2 Z (.int (8 : Int32))) (S0 : PS3 Z (.int z)) (hz : ¬ z = 0) :
    Ctr l Z my0 jdk_42_method_149_code 6 ((Option.none : Option Jvm.ClassFile.FieldType)) ws (⟨2, 1, 3, 35⟩ : Room) #[(.ref a), (.ref b), (.int (0 : Int32)), (.int (3 : Int32)), .null] h0 (fun v h L => v = none ∧ Fr n0 L ∧ Keep h0 h [a] ∧ SG Z h a [ch0, ch1, ch2]) := by
  refine Ctr.go (plainFor_of_name pn_15) fun p e s m below meth c s₁ Bd hx hby hml hZ hown hnm X0 e0 => ?_
  have N0 := Fr.nil n0
  have K0 := Keep.refl h0 [a]
  refine gs (S' := s₁.setTop (mkF m 0 #[rv a, rv b, iv (0 : Int32), iv (3 : Int32), .val .null, uu] [])) (fun tg kg => castTop (ef_0 m a b (0 : Int32) (3 : Int32)) kg) ?_
  refine gs (fun _ k => ja X0 hx hby d0_0 rfl rfl k) ?_
  obtain ⟨T1, X1, e1, st1⟩ := initO X0 hx hZ hown (ow hw 15 rfl) (ow hw 16 rfl) (ow hw 17 rfl) e0 (g := (mkF m 1 #[rv a, rv b, iv (0 : Int32), iv (3 : Int32), .val .null, uu] [(.ref a)])) rfl (by rw [hml]; rfl) rfl (hb hby d0_1) (by decide) (W := 0) (jK rfl) (by decide)
  refine gs (S' := T1.setTop (mkF m 4 #[rv a, rv b, iv (0 : Int32), iv (3 : Int32), .val .null, uu] [])) st1 ?_
  refine gs (fun _ k => jb X1 hx hby d0_4 rfl (jt (pc' := 27) X1 hx hby d0_5 ((if0 _ _).trans (feq (by decide : ¬ ((3 : Int32) = (0 : Int32)))).2) k)) ?_
  refine gS X1 hx hZ hown (host := "") (Or.inl (ow hw 18 rfl)) Via.refl e1 (S0.ext O0.2) hby d0_27 fun T2 X2 e2 => ?_
  refine gs (fun _ k => jn X2 hx hby d0_30 ((if0 _ _).trans (feq hz).1) (ja X2 hx hby d0_33 rfl rfl (jb X2 hx hby d0_34 rfl (jb X2 hx hby d0_35 rfl k)))) ?_
  refine cS (rest := []) X2 hx hZ hown (ow hw 19 rfl) (ow hw 20 rfl) (ow hw 21 rfl) (ow hw 22 rfl) (rm_cp3_33 l Z a0 hw [] b kc ch0 ch1 ch2 h0 n0 Z0 O0 V_b dq0 dq1 dq2 bq0 bq1 bq2 S_ad S_hi S_lo) hby d0_36 e2 pd_803 0 (by rw [hml]; rfl) rfl rfl rfl rfl (by decide) (by decide) fun _ T3 Lc3 X3 hQ3 => ?_
  obtain ⟨t3, kb3, rfl, N3q, K3q, g3t, V3q⟩ := hQ3
  have N3 := Fr.app N0 N3q
  have g_t3 : n0 ≤ t3 := nt Z0 g3t
  have sz_t3 : h0.size ≤ t3 := nt K0.1 g3t
  have Z4 := nt Z0 K3q.1
  have O4 := O0.keep K3q all0
  have K4 := K0.trans K3q all0
  refine gs (fun _ k => jo X3 hx hby d0_39 rfl rfl (ja X3 hx hby d0_41 rfl rfl (jf X3 hx hby d0_42 rfl rfl (jb X3 hx hby d0_44 rfl k)))) ?_
  refine cS (rest := [(.ref a)]) X3 hx hZ hown (ow hw 27 rfl) (ow hw 28 rfl) (ow hw 21 rfl) (ow hw 29 rfl) (rm_cfl33 l Z a0 hw [] t3 kb3 _ T3.heap n0 Z4 O4 V3q) hby d0_45 rfl pd_834 1 (by rw [hml]; rfl) rfl rfl rfl rfl (by decide) (by decide) fun _ T5 Lc5 X5 hQ5 => ?_
  obtain ⟨rfl, N5q, e5q⟩ := hQ5
  have N5 := Fr.app N3 N5q
  have f6 := (F_ca.keep K3q nin0)
  have f7 := (E_a.keep K3q)
  obtain ⟨T8, h8, X8, e8, W8, st8⟩ := putFN X5 hx hZ hown (ow hw 30 rfl) Via.refl e5q f6 f7 (Or.inr ⟨(ow hw 31 rfl), rfl, hnm⟩) (ow hw 5 rfl) (ty := .byte) (v' := (.int (0 : Int32))) (by decide) rfl rfl (g := (mkF m 48 #[rv a, rv b, iv (0 : Int32), iv (3 : Int32), .val .null, rv t3] [(.int (0 : Int32)), (.ref a)])) rfl rfl (hb hby d0_48)
  have N8 := Fr.snoc X8 N5 g_a
  have Fw8 := f6.same W8
  have Z9 := nt Z4 (Keep.of_wr W8).1
  have O9 := O4.wr W8 g_a
  have K9 := K4.wr W8 (Or.inl (List.mem_of_getElem? (i := 0) rfl))
  refine gs (S' := T8.setTop (mkF m 51 #[rv a, rv b, iv (0 : Int32), iv (3 : Int32), .val .null, rv t3] [])) st8 ?_
  refine gs (fun _ k => ja X8 hx hby d0_51 rfl rfl (jf X8 hx hby d0_52 rfl rfl k)) ?_
  have f10 := ((F_va.keep K3q nin0).other W8 (Or.inr (slot_ne (Or.inr (ow hw 33 rfl)) (Or.inr (ow hw 31 rfl)) (by decide) (t := (.array .byte)) (t' := .byte) (by decide) (by decide))))
  have f11 := (f7.wr W8)
  obtain ⟨T12, h12, X12, e12, W12, st12⟩ := putF X8 hx hZ hown (host := "") (Or.inl (ow hw 32 rfl)) Via.refl e8 f10 f11 (Or.inr ⟨(ow hw 33 rfl), rfl, hnm⟩) (ow hw 5 rfl) (ty := (.array .byte)) (by decide) rfl rfl (g := (mkF m 54 #[rv a, rv b, iv (0 : Int32), iv (3 : Int32), .val .null, rv t3] [(.ref t3), (.ref a)])) rfl rfl (hb hby d0_54)
  have N12 := Fr.snoc X12 N8 g_a
  have Fw12 := f10.same W12
  have Z13 := nt Z9 (Keep.of_wr W12).1
  have O13 := O9.wr W12 g_a
  have K13 := K9.wr W12 (Or.inl (List.mem_of_getElem? (i := 0) rfl))
  refine gs (S' := T12.setTop (mkF m 57 #[rv a, rv b, iv (0 : Int32), iv (3 : Int32), .val .null, rv t3] [])) st12 ?_
  have f14 := ((V3q.other W8 (Ne.symm (nw (nu (nu E_a.lt (Nat.le_refl _)) g3t)))).other W12 (Ne.symm (nw (nu (nu E_a.lt (Nat.le_refl _)) g3t))))
  have Vb := f14
  rw [own_narb ch0, own_narb ch1, own_narb ch2] at Vb
  have f15 := (f11.wr W12)
  have f16 := (Fw8.other W12 (Or.inr (slot_ne (Or.inr (ow hw 31 rfl)) (Or.inr (ow hw 33 rfl)) (by decide) (t := .byte) (t' := (.array .byte)) (by decide) (by decide))))
  refine gout (v := none) X12 Bd.notSynchronized (fun _ => rfl) (by decide) (by decide) ?_ (fun fs hr => X12.returnOut hx Bd.returns (hb hby d0_57) hr)
  rw [e12]
  exact ⟨rfl, N12, K13, _, _, 0, _, f15, f16, Fw12, by rw [jy]; exact Vb, Or.inl ⟨rfl, rfl, (by intro c hc; simp only [List.mem_cons, List.not_mem_nil, or_false] at hc; rcases hc with rfl | rfl | rfl; exact ⟨bq0.1, dq0⟩; exact ⟨bq1.1, dq1⟩; exact ⟨bq2.1, dq2⟩)⟩⟩
theorem rm_s1_3 (l : Launch) (Z : State) (a0 : Array Value) (hw : HW Z a0) (ws : List Jvm.Cond) (a : Addr) (b : Addr) (kc : ClassId) (ch0 : Int32) (ch1 : Int32) (ch2 : Int32) (z : Int32) (h0 : Heap) (n0 : Nat) (Z0 : n0 ≤ h0.size) (O0 : Old Z n0 h0) (E_a : Exa Z h0 a "java/lang/String") (F_va : Fld Z h0 a "java/lang/String" "value" "[B" .null) (F_ca : Fld Z h0 a "java/lang/String" "coder" "B" (.int (0 : Int32))) (g_a : n0 ≤ a) (V_b : Arv Z h0 b kc .char (3 : Int32) [(.int ch0), (.int ch1), (.int ch2)] (.int (0 : Int32))) (bq0 : ¬ ch0 < 0 ∧ ¬ (65535 : Int32) < ch0) (bq1 : ¬ ch1 < 0 ∧ ¬ (65535 : Int32) < ch1) (bq2 : ¬ ch2 < 0 ∧ ¬ (65535 : Int32) < ch2) (S_ad : PS0 Z (.int (1 : Int32))) (S_hi : PS1 Z (.int (0 : Int32))) (S_lo : PS2 Z (.int (8 : Int32))) (S0 : PS3 Z (.int z)) (hz : ¬ z = 0) :
    Ctr l Z my4 jdk_42_method_3_code 2 ((Option.none : Option Jvm.ClassFile.FieldType)) ws (⟨5, 2, 203, 74⟩ : Room) #[(.ref a), (.ref b)] h0 (fun v h L => v = none ∧ Fr n0 L ∧ Keep h0 h [a] ∧ SG Z h a [ch0, ch1, ch2]) := by
  refine Ctr.go (plainFor_of_name pn_15) fun p e s m below meth c s₁ Bd hx hby hml hZ hown hnm X0 e0 => ?_
  have N0 := Fr.nil n0
  have K0 := Keep.refl h0 [a]
  refine gs (S' := s₁.setTop (mkF m 0 #[rv a, rv b] [])) (fun tg kg => castTop (ef_16 m a b) kg) ?_
  refine gs (fun _ k => ja X0 hx hby d1_0 rfl rfl (ja X0 hx hby d1_1 rfl rfl (je (v := (0 : Int32)) X0 hx hby d1_2 (ja X0 hx hby d1_3 rfl rfl k)))) ?_
  obtain ⟨cl1, A1, a1q, a1S, a1N, a1H, a1G⟩ := id V_b
  refine gs (S' := s₁.setTop (mkF m 5 #[rv a, rv b] [(.int (3 : Int32)), (.int (0 : Int32)), (.ref b), (.ref a)])) (fun _ k => by refine X0.arraylength hx (by rw [e0]; exact A1.1) (State.isArrayOf_alike hZ.alike A1.2.1) (g := (mkF m 4 #[rv a, rv b] [(.ref b), (.int (0 : Int32)), (.ref b), (.ref a)])) rfl rfl (hb hby d1_4) _ ?_; rw [len_of a1S a1N]; exact k) ?_
  refine gs (fun _ k => o_aconstNull X0 hx hby d1_5 k) ?_
  by_cases hc2 : (255 : Int32) < ch0
  · refine cI (rest := []) X0 hx hZ hown rfl (ow hw 11 rfl) (ow hw 12 rfl) (ow hw 6 rfl) (ow hw 14 rfl) (rm_si4_30 l Z a0 hw [] a b kc ch0 ch1 ch2 z h0 n0 Z0 O0 E_a F_va F_ca g_a V_b hc2 bq0 bq1 bq2 S_ad S_hi S_lo S0 hz) hby d1_6 e0 pd_25 0 (by rw [hml]; rfl) rfl rfl rfl rfl (by decide) (by decide) fun _ T3 Lc3 X3 hQ3 => ?_
    obtain ⟨rfl, N3q, K3q, T3q⟩ := hQ3
    have N3 := Fr.app N0 N3q
    have Z4 := nt Z0 K3q.1
    have O4 := O0.keep K3q (allS g_a all0)
    have K4 := K0.trans K3q (allS (Or.inl (List.mem_of_getElem? (i := 0) rfl)) all0)
    refine gout (v := none) X3 Bd.notSynchronized (fun _ => rfl) (by decide) (by decide) ?_ (fun fs hr => X3.returnOut hx Bd.returns (hb hby d1_9) hr)
    exact ⟨rfl, N3, K4, T3q⟩
  · by_cases hc5 : (255 : Int32) < ch1
    · refine cI (rest := []) X0 hx hZ hown rfl (ow hw 11 rfl) (ow hw 12 rfl) (ow hw 6 rfl) (ow hw 14 rfl) (rm_si4_31 l Z a0 hw [] a b kc ch0 ch1 ch2 z h0 n0 Z0 O0 E_a F_va F_ca g_a V_b hc2 hc5 bq0 bq1 bq2 S_ad S_hi S_lo S0 hz) hby d1_6 e0 pd_25 0 (by rw [hml]; rfl) rfl rfl rfl rfl (by decide) (by decide) fun _ T6 Lc6 X6 hQ6 => ?_
      obtain ⟨rfl, N6q, K6q, T6q⟩ := hQ6
      have N6 := Fr.app N0 N6q
      have Z7 := nt Z0 K6q.1
      have O7 := O0.keep K6q (allS g_a all0)
      have K7 := K0.trans K6q (allS (Or.inl (List.mem_of_getElem? (i := 0) rfl)) all0)
      refine gout (v := none) X6 Bd.notSynchronized (fun _ => rfl) (by decide) (by decide) ?_ (fun fs hr => X6.returnOut hx Bd.returns (hb hby d1_9) hr)
      exact ⟨rfl, N6, K7, T6q⟩
    · by_cases hc8 : (255 : Int32) < ch2
      · refine cI (rest := []) X0 hx hZ hown rfl (ow hw 11 rfl) (ow hw 12 rfl) (ow hw 6 rfl) (ow hw 14 rfl) (rm_si4_32 l Z a0 hw [] a b kc ch0 ch1 ch2 z h0 n0 Z0 O0 E_a F_va F_ca g_a V_b hc2 hc5 hc8 bq0 bq1 bq2 S_ad S_hi S_lo S0 hz) hby d1_6 e0 pd_25 0 (by rw [hml]; rfl) rfl rfl rfl rfl (by decide) (by decide) fun _ T9 Lc9 X9 hQ9 => ?_
        obtain ⟨rfl, N9q, K9q, T9q⟩ := hQ9
        have N9 := Fr.app N0 N9q
        have Z10 := nt Z0 K9q.1
        have O10 := O0.keep K9q (allS g_a all0)
        have K10 := K0.trans K9q (allS (Or.inl (List.mem_of_getElem? (i := 0) rfl)) all0)
        refine gout (v := none) X9 Bd.notSynchronized (fun _ => rfl) (by decide) (by decide) ?_ (fun fs hr => X9.returnOut hx Bd.returns (hb hby d1_9) hr)
        exact ⟨rfl, N9, K10, T9q⟩
      · refine cI (rest := []) X0 hx hZ hown rfl (ow hw 11 rfl) (ow hw 12 rfl) (ow hw 6 rfl) (ow hw 14 rfl) (rm_si4_33 l Z a0 hw [] a b kc ch0 ch1 ch2 z h0 n0 Z0 O0 E_a F_va F_ca g_a V_b hc2 hc5 hc8 bq0 bq1 bq2 S_ad S_hi S_lo S0 hz) hby d1_6 e0 pd_25 0 (by rw [hml]; rfl) rfl rfl rfl rfl (by decide) (by decide) fun _ T11 Lc11 X11 hQ11 => ?_
        obtain ⟨rfl, N11q, K11q, T11q⟩ := hQ11
        have N11 := Fr.app N0 N11q
        have Z12 := nt Z0 K11q.1
        have O12 := O0.keep K11q (allS g_a all0)
        have K12 := K0.trans K11q (allS (Or.inl (List.mem_of_getElem? (i := 0) rfl)) all0)
        refine gout (v := none) X11 Bd.notSynchronized (fun _ => rfl) (by decide) (by decide) ?_ (fun fs hr => X11.returnOut hx Bd.returns (hb hby d1_9) hr)
        exact ⟨rfl, N11, K12, T11q⟩
abbrev oc53 := jdk_43_method_46_code
theorem d53_0 : decode oc53 0 = .ok (.iconst 1, 1) := by decide +kernel
theorem d53_1 : decode oc53 1 = .ok (.newarray .byte, 2) := by decide +kernel
theorem d53_3 : decode oc53 3 = .ok (.dup, 1) := by decide +kernel
theorem d53_4 : decode oc53 4 = .ok (.iconst 0, 1) := by decide +kernel
theorem d53_5 : decode oc53 5 = .ok (.iload_n 0, 1) := by decide +kernel
theorem d53_6 : decode oc53 6 = .ok (.i2b, 1) := by decide +kernel
theorem d53_7 : decode oc53 7 = .ok (.bastore, 1) := by decide +kernel
theorem d53_8 : decode oc53 8 = .ok (.areturn, 1) := by decide +kernel
theorem rm_tbL (l : Launch) (Z : State) (a0 : Array Value) (hw : HW Z a0) (ws : List Jvm.Cond) (p1 : Int32) (h0 : Heap) (n0 : Nat) (Z0 : n0 ≤ h0.size) (O0 : Old Z n0 h0)  :
    Ctr l Z (⟨"java/lang/StringLatin1", "toBytes", "(C)[B"⟩ : MethodName) jdk_43_method_46_code 1 ((Option.some (Jvm.ClassFile.FieldType.array Jvm.ClassFile.FieldType.byte))) ws (⟨0, 1, 1, 0⟩ : Room) #[(.int p1)] h0 (fun v h L => ∃ (t1 : Addr) (k1 : ClassId), v = some (.ref t1) ∧ Fr n0 L ∧ Keep h0 h [] ∧ h0.size ≤ t1 ∧ Arv Z h t1 k1 .byte (1 : Int32) [(.int (nar .byte (p1.toInt8.toInt32)))] (.int (0 : Int32))) := by
  refine Ctr.go (plainFor_of_name pn_167) fun p e s m below meth c s₁ Bd hx hby hml hZ hown hnm X0 e0 => ?_
  have N0 := Fr.nil n0
  have K0 := Keep.refl h0 []
  refine gs (S' := s₁.setTop (mkF m 0 #[iv p1] [])) (fun tg kg => castTop (ef_160 m p1) kg) ?_
  refine gs (fun _ k => je (v := (1 : Int32)) X0 hx hby d53_0 k) ?_
  obtain ⟨T1, h1, k1, X1, e1, E1, A1, st1⟩ := newP X0 hx hZ (ow hw 23 rfl) e0 (g := (mkF m 1 #[iv p1] [(.int (1 : Int32))])) rfl (hb hby d53_1) rfl (by decide) (cap := 1) (by decide) (by decide) (by decide) (by decide)
  obtain ⟨b1, q1⟩ : ∃ z, z = h0.size := ⟨_, rfl⟩
  rw [← q1] at A1 st1
  have g_b1 : n0 ≤ b1 := nt Z0 (Nat.le_of_eq q1.symm)
  have sz_b1 : h0.size ≤ b1 := nt K0.1 (Nat.le_of_eq q1.symm)
  have Z2 := nt Z0 E1.1
  have O2 := O0.ext E1
  have K2 := K0.ext E1
  have V1 : Arv Z h1 b1 k1 .byte (1 : Int32) [(.int (0 : Int32))] (.int (0 : Int32)) := (Arv.new A1 (by decide)).pad (pad_rep [] (.int (0 : Int32)) 1)
  refine gs (S' := T1.setTop (mkF m 3 #[iv p1] [(.ref b1)])) st1 ?_
  refine gs (fun _ k => jP X1 hx hby d53_3 rfl (je (v := (0 : Int32)) X1 hx hby d53_4 (jb X1 hx hby d53_5 rfl (jN X1 hx hby d53_6 k)))) ?_
  obtain ⟨cl3, A3, a3q, a3S, a3N, a3H, a3G⟩ := id V1
  obtain ⟨T3, h3, X3, e3, W3, st3⟩ := stB X1 hx hZ e1 A3 (j := (0 : Int32)) (inb_of a3S ⟨by decide, by decide⟩) (g := (mkF m 7 #[iv p1] [(.int (p1.toInt8.toInt32)), (.int (0 : Int32)), (.ref b1), (.ref b1)])) rfl rfl (hb hby d53_7)
  have V3 : Arv Z h3 b1 k1 .byte (1 : Int32) [(.int (nar .byte (p1.toInt8.toInt32)))] (.int (0 : Int32)) := Arv.set A3 a3q a3S a3N a3H a3G (fits_nar_byte _) W3 0 rfl (nb rfl)
  have N3 := Fr.snoc X3 N0 g_b1
  have Z4 := nt Z2 (Keep.of_wr W3).1
  have O4 := O2.wr W3 g_b1
  have K4 := K2.wr W3 (Or.inr sz_b1)
  refine gs (S' := T3.setTop (mkF m 8 #[iv p1] [(.ref b1)])) st3 ?_
  refine gout (v := some (.ref b1)) X3 Bd.notSynchronized (fun h => by rw [Bd.returns] at h; cases h) (by decide) (by decide) ?_ (fun fs hr => retOut X3 hx Bd.returns rfl (Or.inr (Or.inr (Or.inr (Or.inr ⟨rfl, rfl, rfl⟩)))) (hb hby d53_8) hr)
  rw [e3]
  exact ⟨_, _, rfl, N3, K4, sz_b1, V3⟩
theorem ef_900 (m : MethodId) (x0 : Int32) : entryFrame m #[(.int x0)] 2 = mkF m 0 #[.val (.int x0), .unset] [] := by first | (simp [entryFrame, mkF, argsToLocals, Value.category]; done) | rfl
abbrev oc54 := jdk_52_method_24_code
theorem d54_0 : decode oc54 0 = .ok (.iconst 2, 1) := by decide +kernel
theorem d54_1 : decode oc54 1 = .ok (.newarray .byte, 2) := by decide +kernel
theorem d54_3 : decode oc54 3 = .ok (.astore_n 1, 1) := by decide +kernel
theorem d54_4 : decode oc54 4 = .ok (.aload_n 1, 1) := by decide +kernel
theorem d54_5 : decode oc54 5 = .ok (.iconst 0, 1) := by decide +kernel
theorem d54_6 : decode oc54 6 = .ok (.iload_n 0, 1) := by decide +kernel
theorem d54_7 : decode oc54 7 = .ok (.invokestatic 111, 3) := by decide +kernel
theorem d54_10 : decode oc54 10 = .ok (.aload_n 1, 1) := by decide +kernel
theorem d54_11 : decode oc54 11 = .ok (.areturn, 1) := by decide +kernel
theorem rm_tbU (l : Launch) (Z : State) (a0 : Array Value) (hw : HW Z a0) (ws : List Jvm.Cond) (p1 : Int32) (h0 : Heap) (n0 : Nat) (Z0 : n0 ≤ h0.size) (O0 : Old Z n0 h0) (S_ad : PS0 Z (.int (1 : Int32))) (S_hi : PS1 Z (.int (0 : Int32))) (S_lo : PS2 Z (.int (8 : Int32))) :
    Ctr l Z (⟨"java/lang/StringUTF16", "toBytes", "(C)[B"⟩ : MethodName) jdk_52_method_24_code 2 ((Option.some (Jvm.ClassFile.FieldType.array Jvm.ClassFile.FieldType.byte))) ws (⟨1, 1, 2, 14⟩ : Room) #[(.int p1)] h0 (fun v h L => ∃ (t1 : Addr) (k1 : ClassId), v = some (.ref t1) ∧ Fr n0 L ∧ Keep h0 h [] ∧ h0.size ≤ t1 ∧ Arv Z h t1 k1 .byte (2 : Int32) (jq [p1]) (.int (0 : Int32))) := by
  refine Ctr.go (plainFor_of_name pn_195) fun p e s m below meth c s₁ Bd hx hby hml hZ hown hnm X0 e0 => ?_
  have N0 := Fr.nil n0
  have K0 := Keep.refl h0 []
  refine gs (S' := s₁.setTop (mkF m 0 #[iv p1, uu] [])) (fun tg kg => castTop (ef_900 m p1) kg) ?_
  refine gs (fun _ k => je (v := (2 : Int32)) X0 hx hby d54_0 k) ?_
  obtain ⟨T1, h1, k1, X1, e1, E1, A1, st1⟩ := newP X0 hx hZ (ow hw 23 rfl) e0 (g := (mkF m 1 #[iv p1, uu] [(.int (2 : Int32))])) rfl (hb hby d54_1) rfl (by decide) (cap := 2) (by decide) (by decide) (by decide) (by decide)
  obtain ⟨b1, q1⟩ : ∃ z, z = h0.size := ⟨_, rfl⟩
  rw [← q1] at A1 st1
  have g_b1 : n0 ≤ b1 := nt Z0 (Nat.le_of_eq q1.symm)
  have sz_b1 : h0.size ≤ b1 := nt K0.1 (Nat.le_of_eq q1.symm)
  have Z2 := nt Z0 E1.1
  have O2 := O0.ext E1
  have K2 := K0.ext E1
  have V1 : Arv Z h1 b1 k1 .byte (2 : Int32) [] (.int (0 : Int32)) := Arv.new A1 (by decide)
  refine gs (S' := T1.setTop (mkF m 3 #[iv p1, uu] [(.ref b1)])) st1 ?_
  refine gs (fun _ k => jw X1 hx hby d54_3 rfl rfl (ja X1 hx hby d54_4 rfl rfl (je (v := (0 : Int32)) X1 hx hby d54_5 (jb X1 hx hby d54_6 rfl k)))) ?_
  refine cS (rest := []) X1 hx hZ hown (ow hw 254 rfl) (ow hw 255 rfl) (ow hw 21 rfl) (ow hw 256 rfl) (rm_pc l Z a0 hw [] b1 k1 ([] : List Int32) p1 (0 : Int32) 2 h1 n0 Z2 O2 V1 g_b1 rfl (nb rfl) (by decide) S_ad S_hi S_lo) hby d54_7 e1 pd_267 0 (by rw [hml]; rfl) rfl rfl rfl rfl (by decide) (by decide) fun _ T3 Lc3 X3 hQ3 => ?_
  obtain ⟨rfl, N3q, K3q, V3q⟩ := hQ3
  have N3 := Fr.app N0 N3q
  have Z4 := nt Z2 K3q.1
  have O4 := O2.keep K3q (allS g_b1 all0)
  have K4 := K2.trans K3q (allS (Or.inr sz_b1) all0)
  refine gs (fun _ k => ja X3 hx hby d54_10 rfl rfl k) ?_
  refine gout (v := some (.ref b1)) X3 Bd.notSynchronized (fun h => by rw [Bd.returns] at h; cases h) (by decide) (by decide) ?_ (fun fs hr => retOut X3 hx Bd.returns rfl (Or.inr (Or.inr (Or.inr (Or.inr ⟨rfl, rfl, rfl⟩)))) (hb hby d54_11) hr)
  exact ⟨_, _, rfl, N3, K4, sz_b1, V3q⟩
theorem ef_911 (m : MethodId) (x0 : Addr) (x1 : Addr) (x2 : Int32) : entryFrame m #[(.ref x0), (.ref x1), (.int x2)] 3 = mkF m 0 #[.val (.ref x0), .val (.ref x1), .val (.int x2)] [] := by first | (simp [entryFrame, mkF, argsToLocals, Value.category]; done) | rfl
abbrev oc55 := jdk_42_method_151_code
theorem d55_0 : decode oc55 0 = .ok (.aload_n 0, 1) := by decide +kernel
theorem d55_1 : decode oc55 1 = .ok (.invokespecial 1, 3) := by decide +kernel
theorem d55_4 : decode oc55 4 = .ok (.aload_n 0, 1) := by decide +kernel
theorem d55_5 : decode oc55 5 = .ok (.aload_n 1, 1) := by decide +kernel
theorem d55_6 : decode oc55 6 = .ok (.putfield 9, 3) := by decide +kernel
theorem d55_9 : decode oc55 9 = .ok (.aload_n 0, 1) := by decide +kernel
theorem d55_10 : decode oc55 10 = .ok (.iload_n 2, 1) := by decide +kernel
theorem d55_11 : decode oc55 11 = .ok (.putfield 15, 3) := by decide +kernel
theorem d55_14 : decode oc55 14 = .ok (.return_, 1) := by decide +kernel
theorem rm_sib0 (l : Launch) (Z : State) (a0 : Array Value) (hw : HW Z a0) (ws : List Jvm.Cond) (a : Addr) (t : Addr) (h0 : Heap) (n0 : Nat) (Z0 : n0 ≤ h0.size) (O0 : Old Z n0 h0) (E_a : Exa Z h0 a "java/lang/String") (F_va : Fld Z h0 a "java/lang/String" "value" "[B" .null) (F_ca : Fld Z h0 a "java/lang/String" "coder" "B" (.int (0 : Int32))) (g_a : n0 ≤ a) :
    Ctr l Z my16 jdk_42_method_151_code 3 ((Option.none : Option Jvm.ClassFile.FieldType)) ws (⟨1, 0, 0, 12⟩ : Room) #[(.ref a), (.ref t), (.int (0 : Int32))] h0 (fun v h L => v = none ∧ Fr n0 L ∧ Keep h0 h [a] ∧ Fld Z h a "java/lang/String" "value" "[B" (.ref t) ∧ Fld Z h a "java/lang/String" "coder" "B" (.int (0 : Int32))) := by
  refine Ctr.go (plainFor_of_name pn_15) fun p e s m below meth c s₁ Bd hx hby hml hZ hown hnm X0 e0 => ?_
  have N0 := Fr.nil n0
  have K0 := Keep.refl h0 [a]
  refine gs (S' := s₁.setTop (mkF m 0 #[rv a, rv t, iv (0 : Int32)] [])) (fun tg kg => castTop (ef_911 m a t (0 : Int32)) kg) ?_
  refine gs (fun _ k => ja X0 hx hby d55_0 rfl rfl k) ?_
  obtain ⟨T1, X1, e1, st1⟩ := initO X0 hx hZ hown (ow hw 15 rfl) (ow hw 16 rfl) (ow hw 17 rfl) e0 (g := (mkF m 1 #[rv a, rv t, iv (0 : Int32)] [(.ref a)])) rfl (by rw [hml]; rfl) rfl (hb hby d55_1) (by decide) (W := 0) (jK rfl) (by decide)
  refine gs (S' := T1.setTop (mkF m 4 #[rv a, rv t, iv (0 : Int32)] [])) st1 ?_
  refine gs (fun _ k => ja X1 hx hby d55_4 rfl rfl (ja X1 hx hby d55_5 rfl rfl k)) ?_
  obtain ⟨T2, h2, X2, e2, W2, st2⟩ := putF X1 hx hZ hown (host := "") (Or.inl (ow hw 32 rfl)) Via.refl e1 F_va E_a (Or.inr ⟨(ow hw 33 rfl), rfl, hnm⟩) (ow hw 5 rfl) (ty := (.array .byte)) (by decide) rfl rfl (g := (mkF m 6 #[rv a, rv t, iv (0 : Int32)] [(.ref t), (.ref a)])) rfl rfl (hb hby d55_6)
  have N2 := Fr.snoc X2 N0 g_a
  have Fw2 := F_va.same W2
  have Z3 := nt Z0 (Keep.of_wr W2).1
  have O3 := O0.wr W2 g_a
  have K3 := K0.wr W2 (Or.inl (List.mem_of_getElem? (i := 0) rfl))
  refine gs (S' := T2.setTop (mkF m 9 #[rv a, rv t, iv (0 : Int32)] [])) st2 ?_
  refine gs (fun _ k => ja X2 hx hby d55_9 rfl rfl (jb X2 hx hby d55_10 rfl k)) ?_
  have f4 := (F_ca.other W2 (Or.inr (slot_ne (Or.inr (ow hw 31 rfl)) (Or.inr (ow hw 33 rfl)) (by decide) (t := .byte) (t' := (.array .byte)) (by decide) (by decide))))
  have f5 := (E_a.wr W2)
  obtain ⟨T6, h6, X6, e6, W6, st6⟩ := putFN X2 hx hZ hown (ow hw 30 rfl) Via.refl e2 f4 f5 (Or.inr ⟨(ow hw 31 rfl), rfl, hnm⟩) (ow hw 5 rfl) (ty := .byte) (v' := (.int (0 : Int32))) (by decide) rfl rfl (g := (mkF m 11 #[rv a, rv t, iv (0 : Int32)] [(.int (0 : Int32)), (.ref a)])) rfl rfl (hb hby d55_11)
  have N6 := Fr.snoc X6 N2 g_a
  have Fw6 := f4.same W6
  have Z7 := nt Z3 (Keep.of_wr W6).1
  have O7 := O3.wr W6 g_a
  have K7 := K3.wr W6 (Or.inl (List.mem_of_getElem? (i := 0) rfl))
  refine gs (S' := T6.setTop (mkF m 14 #[rv a, rv t, iv (0 : Int32)] [])) st6 ?_
  have f8 := (Fw2.other W6 (Or.inr (slot_ne (Or.inr (ow hw 33 rfl)) (Or.inr (ow hw 31 rfl)) (by decide) (t := (.array .byte)) (t' := .byte) (by decide) (by decide))))
  refine gout (v := none) X6 Bd.notSynchronized (fun _ => rfl) (by decide) (by decide) ?_ (fun fs hr => X6.returnOut hx Bd.returns (hb hby d55_14) hr)
  rw [e6]
  exact ⟨rfl, N6, K7, f8, Fw6⟩
theorem rm_sib1 (l : Launch) (Z : State) (a0 : Array Value) (hw : HW Z a0) (ws : List Jvm.Cond) (a : Addr) (t : Addr) (h0 : Heap) (n0 : Nat) (Z0 : n0 ≤ h0.size) (O0 : Old Z n0 h0) (E_a : Exa Z h0 a "java/lang/String") (F_va : Fld Z h0 a "java/lang/String" "value" "[B" .null) (F_ca : Fld Z h0 a "java/lang/String" "coder" "B" (.int (0 : Int32))) (g_a : n0 ≤ a) :
    Ctr l Z my16 jdk_42_method_151_code 3 ((Option.none : Option Jvm.ClassFile.FieldType)) ws (⟨1, 0, 0, 12⟩ : Room) #[(.ref a), (.ref t), (.int (1 : Int32))] h0 (fun v h L => v = none ∧ Fr n0 L ∧ Keep h0 h [a] ∧ Fld Z h a "java/lang/String" "value" "[B" (.ref t) ∧ Fld Z h a "java/lang/String" "coder" "B" (.int (1 : Int32))) := by
  refine Ctr.go (plainFor_of_name pn_15) fun p e s m below meth c s₁ Bd hx hby hml hZ hown hnm X0 e0 => ?_
  have N0 := Fr.nil n0
  have K0 := Keep.refl h0 [a]
  refine gs (S' := s₁.setTop (mkF m 0 #[rv a, rv t, iv (1 : Int32)] [])) (fun tg kg => castTop (ef_911 m a t (1 : Int32)) kg) ?_
  refine gs (fun _ k => ja X0 hx hby d55_0 rfl rfl k) ?_
  obtain ⟨T1, X1, e1, st1⟩ := initO X0 hx hZ hown (ow hw 15 rfl) (ow hw 16 rfl) (ow hw 17 rfl) e0 (g := (mkF m 1 #[rv a, rv t, iv (1 : Int32)] [(.ref a)])) rfl (by rw [hml]; rfl) rfl (hb hby d55_1) (by decide) (W := 0) (jK rfl) (by decide)
  refine gs (S' := T1.setTop (mkF m 4 #[rv a, rv t, iv (1 : Int32)] [])) st1 ?_
  refine gs (fun _ k => ja X1 hx hby d55_4 rfl rfl (ja X1 hx hby d55_5 rfl rfl k)) ?_
  obtain ⟨T2, h2, X2, e2, W2, st2⟩ := putF X1 hx hZ hown (host := "") (Or.inl (ow hw 32 rfl)) Via.refl e1 F_va E_a (Or.inr ⟨(ow hw 33 rfl), rfl, hnm⟩) (ow hw 5 rfl) (ty := (.array .byte)) (by decide) rfl rfl (g := (mkF m 6 #[rv a, rv t, iv (1 : Int32)] [(.ref t), (.ref a)])) rfl rfl (hb hby d55_6)
  have N2 := Fr.snoc X2 N0 g_a
  have Fw2 := F_va.same W2
  have Z3 := nt Z0 (Keep.of_wr W2).1
  have O3 := O0.wr W2 g_a
  have K3 := K0.wr W2 (Or.inl (List.mem_of_getElem? (i := 0) rfl))
  refine gs (S' := T2.setTop (mkF m 9 #[rv a, rv t, iv (1 : Int32)] [])) st2 ?_
  refine gs (fun _ k => ja X2 hx hby d55_9 rfl rfl (jb X2 hx hby d55_10 rfl k)) ?_
  have f4 := (F_ca.other W2 (Or.inr (slot_ne (Or.inr (ow hw 31 rfl)) (Or.inr (ow hw 33 rfl)) (by decide) (t := .byte) (t' := (.array .byte)) (by decide) (by decide))))
  have f5 := (E_a.wr W2)
  obtain ⟨T6, h6, X6, e6, W6, st6⟩ := putFN X2 hx hZ hown (ow hw 30 rfl) Via.refl e2 f4 f5 (Or.inr ⟨(ow hw 31 rfl), rfl, hnm⟩) (ow hw 5 rfl) (ty := .byte) (v' := (.int (1 : Int32))) (by decide) rfl rfl (g := (mkF m 11 #[rv a, rv t, iv (1 : Int32)] [(.int (1 : Int32)), (.ref a)])) rfl rfl (hb hby d55_11)
  have N6 := Fr.snoc X6 N2 g_a
  have Fw6 := f4.same W6
  have Z7 := nt Z3 (Keep.of_wr W6).1
  have O7 := O3.wr W6 g_a
  have K7 := K3.wr W6 (Or.inl (List.mem_of_getElem? (i := 0) rfl))
  refine gs (S' := T6.setTop (mkF m 14 #[rv a, rv t, iv (1 : Int32)] [])) st6 ?_
  have f8 := (Fw2.other W6 (Or.inr (slot_ne (Or.inr (ow hw 33 rfl)) (Or.inr (ow hw 31 rfl)) (by decide) (t := (.array .byte)) (t' := .byte) (by decide) (by decide))))
  refine gout (v := none) X6 Bd.notSynchronized (fun _ => rfl) (by decide) (by decide) ?_ (fun fs hr => X6.returnOut hx Bd.returns (hb hby d55_14) hr)
  rw [e6]
  exact ⟨rfl, N6, K7, f8, Fw6⟩
abbrev oc56 := jdk_42_method_139_code
theorem d56_0 : decode oc56 0 = .ok (.getstatic 38, 3) := by decide +kernel
theorem d56_3 : decode oc56 3 = .ok (.ifCond .eq 23, 3) := by decide +kernel
theorem d56_6 : decode oc56 6 = .ok (.iload_n 0, 1) := by decide +kernel
theorem d56_7 : decode oc56 7 = .ok (.invokestatic 1015, 3) := by decide +kernel
theorem d56_10 : decode oc56 10 = .ok (.ifCond .eq 16, 3) := by decide +kernel
theorem d56_26 : decode oc56 26 = .ok (.new 10, 3) := by decide +kernel
theorem d56_29 : decode oc56 29 = .ok (.dup, 1) := by decide +kernel
theorem d56_30 : decode oc56 30 = .ok (.iload_n 0, 1) := by decide +kernel
theorem d56_31 : decode oc56 31 = .ok (.invokestatic 1021, 3) := by decide +kernel
theorem pd_934 : parseMethodDescriptor "(C)[B" = some ⟨[.char], some (.array .byte)⟩ := by decide +kernel
theorem d56_34 : decode oc56 34 = .ok (.iconst 1, 1) := by decide +kernel
theorem d56_35 : decode oc56 35 = .ok (.invokespecial 209, 3) := by decide +kernel
theorem pd_937 : parseMethodDescriptor "([BB)V" = some ⟨[(.array .byte), .byte], none⟩ := by decide +kernel
theorem d56_38 : decode oc56 38 = .ok (.areturn, 1) := by decide +kernel
theorem d56_13 : decode oc56 13 = .ok (.new 10, 3) := by decide +kernel
theorem d56_16 : decode oc56 16 = .ok (.dup, 1) := by decide +kernel
theorem d56_17 : decode oc56 17 = .ok (.iload_n 0, 1) := by decide +kernel
theorem d56_18 : decode oc56 18 = .ok (.invokestatic 1018, 3) := by decide +kernel
theorem d56_21 : decode oc56 21 = .ok (.iconst 0, 1) := by decide +kernel
theorem d56_22 : decode oc56 22 = .ok (.invokespecial 209, 3) := by decide +kernel
theorem d56_25 : decode oc56 25 = .ok (.areturn, 1) := by decide +kernel
theorem rm_vo (l : Launch) (Z : State) (a0 : Array Value) (hw : HW Z a0) (ws : List Jvm.Cond) (p1 : Int32) (z : Int32) (h0 : Heap) (n0 : Nat) (Z0 : n0 ≤ h0.size) (O0 : Old Z n0 h0) (hcc : ¬ p1 < 0 ∧ ¬ (65535 : Int32) < p1) (S0 : PS3 Z (.int z)) (hz : ¬ z = 0) (S_ad : PS0 Z (.int (1 : Int32))) (S_hi : PS1 Z (.int (0 : Int32))) (S_lo : PS2 Z (.int (8 : Int32))) :
    Ctr l Z (⟨"java/lang/String", "valueOf", "(C)Ljava/lang/String;"⟩ : MethodName) jdk_42_method_139_code 1 ((Option.some (Jvm.ClassFile.FieldType.object "java/lang/String"))) ws (⟨2, 2, 6, 29⟩ : Room) #[(.int p1)] h0 (fun v h L => ∃ a : Addr, v = some (.ref a) ∧ Fr n0 L ∧ Keep h0 h [] ∧ SG Z h a [p1]) := by
  refine Ctr.go (plainFor_of_name pn_15) fun p e s m below meth c s₁ Bd hx hby hml hZ hown hnm X0 e0 => ?_
  have N0 := Fr.nil n0
  have K0 := Keep.refl h0 []
  refine gs (S' := s₁.setTop (mkF m 0 #[iv p1] [])) (fun tg kg => castTop (ef_160 m p1) kg) ?_
  refine gS X0 hx hZ hown (host := "") (Or.inl (ow hw 18 rfl)) Via.refl e0 (S0.ext O0.2) hby d56_0 fun T1 X1 e1 => ?_
  refine gs (fun _ k => jn X1 hx hby d56_3 ((if0 _ _).trans (feq hz).1) (jb X1 hx hby d56_6 rfl k)) ?_
  by_cases hc2 : (255 : Int32) < p1
  · refine cS (rest := []) X1 hx hZ hown (ow hw 220 rfl) (ow hw 221 rfl) (ow hw 85 rfl) (ow hw 222 rfl) (rm_ce0 l Z a0 hw [] p1 h0 n0 Z0 O0 hc2) hby d56_7 e1 pd_397 0 (by rw [hml]; rfl) rfl rfl rfl rfl (by decide) (by decide) fun _ T3 Lc3 X3 hQ3 => ?_
    obtain ⟨rfl, N3q, e3q⟩ := hQ3
    have N3 := Fr.app N0 N3q
    refine gs (fun _ k => jt (pc' := 26) X3 hx hby d56_10 ((if0 _ _).trans (teq (by decide : (0 : Int32) = (0 : Int32))).1) k) ?_
    obtain ⟨T4, h4, X4, e4, E4, A4, D4, -, st4⟩ := newO X3 hx hZ hown (ow hw 223 rfl) (ow hw 5 rfl) (ow hw 6 rfl) e3q (g := (mkF m 26 #[iv p1] [])) rfl (hb hby d56_26) (by decide) (by decide)
    obtain ⟨b4, q4⟩ : ∃ z, z = h0.size := ⟨_, rfl⟩
    rw [← q4] at A4 D4 st4
    have g_b4 : n0 ≤ b4 := nt Z0 (Nat.le_of_eq q4.symm)
    have sz_b4 : h0.size ≤ b4 := nt K0.1 (Nat.le_of_eq q4.symm)
    have Z5 := nt Z0 E4.1
    have O5 := O0.ext E4
    have K5 := K0.ext E4
    have F_coder_b4 : Fld Z h4 b4 "java/lang/String" "coder" "B" (.int (0 : Int32)) := D4 (Or.inr (ow hw 31 rfl)) (ty := .byte) (by decide)
    have F_value_b4 : Fld Z h4 b4 "java/lang/String" "value" "[B" .null := D4 (Or.inr (ow hw 33 rfl)) (ty := (.array .byte)) (by decide)
    refine gs (S' := T4.setTop (mkF m 29 #[iv p1] [(.ref b4)])) st4 ?_
    refine gs (fun _ k => jP X4 hx hby d56_29 rfl (jb X4 hx hby d56_30 rfl k)) ?_
    refine cS (rest := [(.ref b4), (.ref b4)]) X4 hx hZ hown (ow hw 263 rfl) (ow hw 264 rfl) (ow hw 21 rfl) (ow hw 265 rfl) (rm_tbU l Z a0 hw [] p1 h4 n0 Z5 O5 S_ad S_hi S_lo) hby d56_31 e4 pd_934 2 (by rw [hml]; rfl) rfl rfl rfl rfl (by decide) (by decide) fun _ T6 Lc6 X6 hQ6 => ?_
    obtain ⟨t6, kb6, rfl, N6q, K6q, g6t, V6q⟩ := hQ6
    have N6 := Fr.app N3 N6q
    have g_t6 : n0 ≤ t6 := nt Z5 g6t
    have sz_t6 : h0.size ≤ t6 := nt K5.1 g6t
    have Z7 := nt Z5 K6q.1
    have O7 := O5.keep K6q all0
    have K7 := K5.trans K6q all0
    refine gs (fun _ k => je (v := (1 : Int32)) X6 hx hby d56_34 k) ?_
    have f8 := (A4.keep K6q)
    have f9 := (F_value_b4.keep K6q nin0)
    have f10 := (F_coder_b4.keep K6q nin0)
    refine cI (rest := [(.ref b4)]) X6 hx hZ hown rfl (ow hw 227 rfl) (ow hw 228 rfl) (ow hw 6 rfl) (ow hw 229 rfl) (rm_sib1 l Z a0 hw [] b4 t6 T6.heap n0 Z7 O7 f8 f9 f10 g_b4) hby d56_35 rfl pd_937 1 (by rw [hml]; rfl) rfl rfl rfl rfl (by decide) (by decide) fun _ T11 Lc11 X11 hQ11 => ?_
    obtain ⟨rfl, N11q, K11q, F11v, F11c⟩ := hQ11
    have N11 := Fr.app N6 N11q
    have Z12 := nt Z7 K11q.1
    have O12 := O7.keep K11q (allS g_b4 all0)
    have K12 := K7.trans K11q (allS (Or.inr sz_b4) all0)
    have f13 := (V6q.keep K11q (ninS (Ne.symm (nw (nu (nu A4.lt (Nat.le_refl _)) g6t))) nin0))
    have Vt := f13
    have f14 := (f8.keep K11q)
    refine gout (v := some (.ref b4)) X11 Bd.notSynchronized (fun h => by rw [Bd.returns] at h; cases h) (by decide) (by decide) ?_ (fun fs hr => retOut X11 hx Bd.returns rfl (Or.inr (Or.inr (Or.inr (Or.inr ⟨rfl, rfl, rfl⟩)))) (hb hby d56_38) hr)
    exact ⟨_, rfl, N11, K12, _, _, 1, _, f14, F11c, F11v, by rw [jA]; exact Vt, Or.inr ⟨rfl, rfl, fun c hc => (List.mem_singleton.mp hc) ▸ hcc⟩⟩
  · refine cS (rest := []) X1 hx hZ hown (ow hw 220 rfl) (ow hw 221 rfl) (ow hw 85 rfl) (ow hw 222 rfl) (rm_ce1 l Z a0 hw [] p1 h0 n0 Z0 O0 hc2) hby d56_7 e1 pd_397 0 (by rw [hml]; rfl) rfl rfl rfl rfl (by decide) (by decide) fun _ T15 Lc15 X15 hQ15 => ?_
    obtain ⟨rfl, N15q, e15q⟩ := hQ15
    have N15 := Fr.app N0 N15q
    refine gs (fun _ k => jn X15 hx hby d56_10 ((if0 _ _).trans (feq (by decide : ¬ ((1 : Int32) = (0 : Int32)))).1) k) ?_
    obtain ⟨T16, h16, X16, e16, E16, A16, D16, -, st16⟩ := newO X15 hx hZ hown (ow hw 223 rfl) (ow hw 5 rfl) (ow hw 6 rfl) e15q (g := (mkF m 13 #[iv p1] [])) rfl (hb hby d56_13) (by decide) (by decide)
    obtain ⟨b16, q16⟩ : ∃ z, z = h0.size := ⟨_, rfl⟩
    rw [← q16] at A16 D16 st16
    have g_b16 : n0 ≤ b16 := nt Z0 (Nat.le_of_eq q16.symm)
    have sz_b16 : h0.size ≤ b16 := nt K0.1 (Nat.le_of_eq q16.symm)
    have Z17 := nt Z0 E16.1
    have O17 := O0.ext E16
    have K17 := K0.ext E16
    have F_coder_b16 : Fld Z h16 b16 "java/lang/String" "coder" "B" (.int (0 : Int32)) := D16 (Or.inr (ow hw 31 rfl)) (ty := .byte) (by decide)
    have F_value_b16 : Fld Z h16 b16 "java/lang/String" "value" "[B" .null := D16 (Or.inr (ow hw 33 rfl)) (ty := (.array .byte)) (by decide)
    refine gs (S' := T16.setTop (mkF m 16 #[iv p1] [(.ref b16)])) st16 ?_
    refine gs (fun _ k => jP X16 hx hby d56_16 rfl (jb X16 hx hby d56_17 rfl k)) ?_
    refine cS (rest := [(.ref b16), (.ref b16)]) X16 hx hZ hown (ow hw 224 rfl) (ow hw 225 rfl) (ow hw 85 rfl) (ow hw 226 rfl) (rm_tbL l Z a0 hw [] p1 h16 n0 Z17 O17 ) hby d56_18 e16 pd_934 2 (by rw [hml]; rfl) rfl rfl rfl rfl (by decide) (by decide) fun _ T18 Lc18 X18 hQ18 => ?_
    obtain ⟨t18, kb18, rfl, N18q, K18q, g18t, V18q⟩ := hQ18
    have N18 := Fr.app N15 N18q
    have g_t18 : n0 ≤ t18 := nt Z17 g18t
    have sz_t18 : h0.size ≤ t18 := nt K17.1 g18t
    have Z19 := nt Z17 K18q.1
    have O19 := O17.keep K18q all0
    have K19 := K17.trans K18q all0
    refine gs (fun _ k => je (v := (0 : Int32)) X18 hx hby d56_21 k) ?_
    have f20 := (A16.keep K18q)
    have f21 := (F_value_b16.keep K18q nin0)
    have f22 := (F_coder_b16.keep K18q nin0)
    refine cI (rest := [(.ref b16)]) X18 hx hZ hown rfl (ow hw 227 rfl) (ow hw 228 rfl) (ow hw 6 rfl) (ow hw 229 rfl) (rm_sib0 l Z a0 hw [] b16 t18 T18.heap n0 Z19 O19 f20 f21 f22 g_b16) hby d56_22 rfl pd_937 1 (by rw [hml]; rfl) rfl rfl rfl rfl (by decide) (by decide) fun _ T23 Lc23 X23 hQ23 => ?_
    obtain ⟨rfl, N23q, K23q, F23v, F23c⟩ := hQ23
    have N23 := Fr.app N18 N23q
    have Z24 := nt Z19 K23q.1
    have O24 := O19.keep K23q (allS g_b16 all0)
    have K24 := K19.trans K23q (allS (Or.inr sz_b16) all0)
    have f25 := (V18q.keep K23q (ninS (Ne.symm (nw (nu (nu A16.lt (Nat.le_refl _)) g18t))) nin0))
    have Vt := f25
    rw [own_narb] at Vt
    have f26 := (f20.keep K23q)
    refine gout (v := some (.ref b16)) X23 Bd.notSynchronized (fun h => by rw [Bd.returns] at h; cases h) (by decide) (by decide) ?_ (fun fs hr => retOut X23 hx Bd.returns rfl (Or.inr (Or.inr (Or.inr (Or.inr ⟨rfl, rfl, rfl⟩)))) (hb hby d56_25) hr)
    exact ⟨_, rfl, N23, K24, _, _, 0, _, f26, F23c, F23v, by rw [jy]; exact Vt, Or.inl ⟨rfl, rfl, fun c hc => (List.mem_singleton.mp hc) ▸ ⟨hcc.1, hc2⟩⟩⟩
abbrev oc57 := method_3_code
theorem d57_0 : decode oc57 0 = .ok (.iload_n 0, 1) := by decide +kernel
theorem d57_1 : decode oc57 1 = .ok (.bipush 7, 2) := by decide +kernel
theorem d57_3 : decode oc57 3 = .ok (.iand, 1) := by decide +kernel
theorem d57_4 : decode oc57 4 = .ok (.istore_n 1, 1) := by decide +kernel
theorem d57_5 : decode oc57 5 = .ok (.iload_n 1, 1) := by decide +kernel
theorem d57_6 : decode oc57 6 = .ok (.ifCond .ne 6, 3) := by decide +kernel
theorem d57_9 : decode oc57 9 = .ok (.bipush 38, 2) := by decide +kernel
theorem d57_11 : decode oc57 11 = .ok (.ireturn, 1) := by decide +kernel
theorem d57_12 : decode oc57 12 = .ok (.iload_n 1, 1) := by decide +kernel
theorem d57_13 : decode oc57 13 = .ok (.iconst 1, 1) := by decide +kernel
theorem d57_14 : decode oc57 14 = .ok (.if_icmp .ne 6, 3) := by decide +kernel
theorem d57_17 : decode oc57 17 = .ok (.bipush 60, 2) := by decide +kernel
theorem d57_19 : decode oc57 19 = .ok (.ireturn, 1) := by decide +kernel
theorem d57_20 : decode oc57 20 = .ok (.iload_n 1, 1) := by decide +kernel
theorem d57_21 : decode oc57 21 = .ok (.iconst 2, 1) := by decide +kernel
theorem d57_22 : decode oc57 22 = .ok (.if_icmp .ne 6, 3) := by decide +kernel
theorem d57_25 : decode oc57 25 = .ok (.bipush 62, 2) := by decide +kernel
theorem d57_27 : decode oc57 27 = .ok (.ireturn, 1) := by decide +kernel
theorem d57_28 : decode oc57 28 = .ok (.iload_n 1, 1) := by decide +kernel
theorem d57_29 : decode oc57 29 = .ok (.iconst 3, 1) := by decide +kernel
theorem d57_30 : decode oc57 30 = .ok (.if_icmp .ne 6, 3) := by decide +kernel
theorem d57_33 : decode oc57 33 = .ok (.bipush 34, 2) := by decide +kernel
theorem d57_35 : decode oc57 35 = .ok (.ireturn, 1) := by decide +kernel
theorem d57_36 : decode oc57 36 = .ok (.iload_n 1, 1) := by decide +kernel
theorem d57_37 : decode oc57 37 = .ok (.iconst 4, 1) := by decide +kernel
theorem d57_38 : decode oc57 38 = .ok (.if_icmp .ne 6, 3) := by decide +kernel
theorem d57_41 : decode oc57 41 = .ok (.bipush 39, 2) := by decide +kernel
theorem d57_43 : decode oc57 43 = .ok (.ireturn, 1) := by decide +kernel
theorem d57_44 : decode oc57 44 = .ok (.iload_n 0, 1) := by decide +kernel
theorem d57_45 : decode oc57 45 = .ok (.iconst 3, 1) := by decide +kernel
theorem d57_46 : decode oc57 46 = .ok (.iushr, 1) := by decide +kernel
theorem d57_47 : decode oc57 47 = .ok (.i2c, 1) := by decide +kernel
theorem d57_48 : decode oc57 48 = .ok (.ireturn, 1) := by decide +kernel
theorem pn_981 : plainName "com/example/lushan/lushan/console/PageEscapePinLaw" = true := by first | (simp [plainName, overriddenIn]; done) | decide +kernel
theorem rm_draw (l : Launch) (Z : State) (a0 : Array Value) (hw : HW Z a0) (ws : List Jvm.Cond) (xi : Int32) (h0 : Heap) (n0 : Nat) (Z0 : n0 ≤ h0.size) (O0 : Old Z n0 h0)  :
    Ctr l Z (⟨"com/example/lushan/lushan/console/PageEscapePinLaw", "draw", "(I)C"⟩ : MethodName) method_3_code 2 ((Option.some Jvm.ClassFile.FieldType.char)) ws (⟨0, 0, 0, 0⟩ : Room) #[(.int xi)] h0 (fun v h L => ∃ d : Int32, v = some (.int d) ∧ (¬ d < 0 ∧ ¬ (65535 : Int32) < d) ∧ Fr n0 L ∧ h = h0) := by
  refine Ctr.go (plainFor_of_name pn_981) fun p e s m below meth c s₁ Bd hx hby hml hZ hown hnm X0 e0 => ?_
  have N0 := Fr.nil n0
  have K0 := Keep.refl h0 []
  refine gs (S' := s₁.setTop (mkF m 0 #[iv xi, uu] [])) (fun tg kg => castTop (ef_900 m xi) kg) ?_
  refine gs (fun _ k => jb X0 hx hby d57_0 rfl (jr (v := (7 : Int32)) X0 hx hby d57_1 (o_iand X0 hx hby d57_3 (jF X0 hx hby d57_4 rfl (jb X0 hx hby d57_5 rfl k))))) ?_
  by_cases hc1 : (xi &&& (7 : Int32)) = (0 : Int32)
  · refine gs (fun _ k => jn X0 hx hby d57_6 ((if0 _ _).trans (teq hc1).2) (jr (v := (38 : Int32)) X0 hx hby d57_9 k)) ?_
    refine gout (v := some (.int (38 : Int32))) X0 Bd.notSynchronized (fun h => by rw [Bd.returns] at h; cases h) (by decide) (by decide) ?_ (fun fs hr => retN X0 hx (t := .char) Bd.returns (by simp) (hb hby d57_11) hr)
    rw [e0]
    exact ⟨_, rfl, by decide, N0, rfl⟩
  · refine gs (fun _ k => jt (pc' := 12) X0 hx hby d57_6 ((if0 _ _).trans (feq hc1).2) (jb X0 hx hby d57_12 rfl (je (v := (1 : Int32)) X0 hx hby d57_13 k))) ?_
    by_cases hc2 : (xi &&& (7 : Int32)) = (1 : Int32)
    · refine gs (fun _ k => ji X0 hx hby d57_14 (teq hc2).2 (jr (v := (60 : Int32)) X0 hx hby d57_17 k)) ?_
      refine gout (v := some (.int (60 : Int32))) X0 Bd.notSynchronized (fun h => by rw [Bd.returns] at h; cases h) (by decide) (by decide) ?_ (fun fs hr => retN X0 hx (t := .char) Bd.returns (by simp) (hb hby d57_19) hr)
      rw [e0]
      exact ⟨_, rfl, by decide, N0, rfl⟩
    · refine gs (fun _ k => jh (pc' := 20) X0 hx hby d57_14 (feq hc2).2 (jb X0 hx hby d57_20 rfl (je (v := (2 : Int32)) X0 hx hby d57_21 k))) ?_
      by_cases hc3 : (xi &&& (7 : Int32)) = (2 : Int32)
      · refine gs (fun _ k => ji X0 hx hby d57_22 (teq hc3).2 (jr (v := (62 : Int32)) X0 hx hby d57_25 k)) ?_
        refine gout (v := some (.int (62 : Int32))) X0 Bd.notSynchronized (fun h => by rw [Bd.returns] at h; cases h) (by decide) (by decide) ?_ (fun fs hr => retN X0 hx (t := .char) Bd.returns (by simp) (hb hby d57_27) hr)
        rw [e0]
        exact ⟨_, rfl, by decide, N0, rfl⟩
      · refine gs (fun _ k => jh (pc' := 28) X0 hx hby d57_22 (feq hc3).2 (jb X0 hx hby d57_28 rfl (je (v := (3 : Int32)) X0 hx hby d57_29 k))) ?_
        by_cases hc4 : (xi &&& (7 : Int32)) = (3 : Int32)
        · refine gs (fun _ k => ji X0 hx hby d57_30 (teq hc4).2 (jr (v := (34 : Int32)) X0 hx hby d57_33 k)) ?_
          refine gout (v := some (.int (34 : Int32))) X0 Bd.notSynchronized (fun h => by rw [Bd.returns] at h; cases h) (by decide) (by decide) ?_ (fun fs hr => retN X0 hx (t := .char) Bd.returns (by simp) (hb hby d57_35) hr)
          rw [e0]
          exact ⟨_, rfl, by decide, N0, rfl⟩
        · refine gs (fun _ k => jh (pc' := 36) X0 hx hby d57_30 (feq hc4).2 (jb X0 hx hby d57_36 rfl (je (v := (4 : Int32)) X0 hx hby d57_37 k))) ?_
          by_cases hc5 : (xi &&& (7 : Int32)) = (4 : Int32)
          · refine gs (fun _ k => ji X0 hx hby d57_38 (teq hc5).2 (jr (v := (39 : Int32)) X0 hx hby d57_41 k)) ?_
            refine gout (v := some (.int (39 : Int32))) X0 Bd.notSynchronized (fun h => by rw [Bd.returns] at h; cases h) (by decide) (by decide) ?_ (fun fs hr => retN X0 hx (t := .char) Bd.returns (by simp) (hb hby d57_43) hr)
            rw [e0]
            exact ⟨_, rfl, by decide, N0, rfl⟩
          · refine gs (fun _ k => jh (pc' := 44) X0 hx hby d57_38 (feq hc5).2 (jb X0 hx hby d57_44 rfl (je (v := (3 : Int32)) X0 hx hby d57_45 (o_iushr X0 hx hby d57_46 (o_i2c X0 hx hby d57_47 k))))) ?_
            refine gout (v := some (.int (nar .char (((xi.toUInt32 >>> ((3 : Int32) &&& 31).toUInt32).toInt32).toUInt32.toUInt16.toUInt32.toInt32)))) X0 Bd.notSynchronized (fun h => by rw [Bd.returns] at h; cases h) (by decide) (by decide) ?_ (fun fs hr => retN X0 hx (t := .char) Bd.returns (by simp) (hb hby d57_48) hr)
            rw [e0]
            exact ⟨_, rfl, own_cb _, N0, rfl⟩
abbrev oc58 := method_4_code
theorem d58_0 : decode oc58 0 = .ok (.iload_n 0, 1) := by decide +kernel
theorem d58_1 : decode oc58 1 = .ok (.bipush 38, 2) := by decide +kernel
theorem d58_3 : decode oc58 3 = .ok (.if_icmp .ne 6, 3) := by decide +kernel
theorem d58_6 : decode oc58 6 = .ok (.ldc 38, 2) := by decide +kernel
theorem d58_8 : decode oc58 8 = .ok (.areturn, 1) := by decide +kernel
theorem d58_9 : decode oc58 9 = .ok (.iload_n 0, 1) := by decide +kernel
theorem d58_10 : decode oc58 10 = .ok (.bipush 60, 2) := by decide +kernel
theorem d58_12 : decode oc58 12 = .ok (.if_icmp .ne 6, 3) := by decide +kernel
theorem d58_15 : decode oc58 15 = .ok (.ldc 40, 2) := by decide +kernel
theorem d58_17 : decode oc58 17 = .ok (.areturn, 1) := by decide +kernel
theorem d58_18 : decode oc58 18 = .ok (.iload_n 0, 1) := by decide +kernel
theorem d58_19 : decode oc58 19 = .ok (.bipush 62, 2) := by decide +kernel
theorem d58_21 : decode oc58 21 = .ok (.if_icmp .ne 6, 3) := by decide +kernel
theorem d58_24 : decode oc58 24 = .ok (.ldc 42, 2) := by decide +kernel
theorem d58_26 : decode oc58 26 = .ok (.areturn, 1) := by decide +kernel
theorem d58_27 : decode oc58 27 = .ok (.iload_n 0, 1) := by decide +kernel
theorem d58_28 : decode oc58 28 = .ok (.bipush 34, 2) := by decide +kernel
theorem d58_30 : decode oc58 30 = .ok (.if_icmp .ne 6, 3) := by decide +kernel
theorem d58_33 : decode oc58 33 = .ok (.ldc 44, 2) := by decide +kernel
theorem d58_35 : decode oc58 35 = .ok (.areturn, 1) := by decide +kernel
theorem d58_36 : decode oc58 36 = .ok (.iload_n 0, 1) := by decide +kernel
theorem d58_37 : decode oc58 37 = .ok (.bipush 39, 2) := by decide +kernel
theorem d58_39 : decode oc58 39 = .ok (.if_icmp .ne 6, 3) := by decide +kernel
theorem d58_42 : decode oc58 42 = .ok (.ldc 46, 2) := by decide +kernel
theorem d58_44 : decode oc58 44 = .ok (.areturn, 1) := by decide +kernel
theorem d58_45 : decode oc58 45 = .ok (.iload_n 0, 1) := by decide +kernel
theorem d58_46 : decode oc58 46 = .ok (.invokestatic 48, 3) := by decide +kernel
theorem pd_1011 : parseMethodDescriptor "(C)Ljava/lang/String;" = some ⟨[.char], some (.object "java/lang/String")⟩ := by decide +kernel
theorem d58_49 : decode oc58 49 = .ok (.areturn, 1) := by decide +kernel
theorem rm_ref (l : Launch) (Z : State) (a0 : Array Value) (hw : HW Z a0) (ws : List Jvm.Cond) (cc : Int32) (z : Int32) (h0 : Heap) (n0 : Nat) (Z0 : n0 ≤ h0.size) (O0 : Old Z n0 h0) (hcc : ¬ cc < 0 ∧ ¬ (65535 : Int32) < cc) (S0 : PS3 Z (.int z)) (hz : ¬ z = 0) (S_ad : PS0 Z (.int (1 : Int32))) (S_hi : PS1 Z (.int (0 : Int32))) (S_lo : PS2 Z (.int (8 : Int32))) :
    CtrW l Z jg (⟨"com/example/lushan/lushan/console/PageEscapePinLaw", "ref", "(C)Ljava/lang/String;"⟩ : MethodName) method_4_code 1 ((Option.some (Jvm.ClassFile.FieldType.object "java/lang/String"))) ws (⟨3, 2, 28, 41⟩ : Room) #[(.int cc)] h0 (fun v h L => ∃ a : Addr, v = some (.ref a) ∧ Fr n0 L ∧ Keep h0 h [] ∧ SG Z h a (jc cc)) := by
  refine CtrW.of (MetFree.of_bodySF (plainFor_of_name pn_981) hisR ?_)
  intro p e s m args below meth c s₁ Bd hml0 hP hK
  obtain ⟨rfl, hZ0, hh, hC⟩ := hP
  have hx := Bd.exec
  have hby := Bd.bytes
  have hml : c.maxLocals = 1 := hml0
  have hZ : Z.Warmed39 (s.setVm s.vm).vm := hZ0
  have hown : (s.setVm s.vm).vm.findClass "com/example/lushan/lushan/console/PageEscapePinLaw" = some m.cls := findClass_of_methodNamed Bd.named
  have hnm := (name_of_methodNamed Bd.named Bd.method).1
  have X0 : Stand p l e (⟨3, 2, 28, 41⟩ : Room) (s.setVm s.vm) m #[(.int cc)] below meth c s₁ [] 0 0 := Stand.of_body Bd
  have e0 : s₁.heap = h0 := by rw [← hh, Bd.state]; rfl
  have N0 := Fr.nil n0
  have K0 : Keep h0 h0 [] := Keep.refl h0 []
  have hS : s.Since s.vm 0 := (State.WarmedH.refl s).since 0
  have hk : 0 ≤ h0.size := Nat.zero_le _
  have R0 : CHr Z jg s.vm h0 s.vm h0 := CHr.refl hC
  show OwnGoW p e below s Z jg (fun v h L => ∃ a : Addr, v = some (.ref a) ∧ Fr n0 L ∧ Keep h0 h [] ∧ SG Z h a (jc cc)) (⟨3, 2, 28, 41⟩ : Room).cells (⟨3, 2, 28, 41⟩ : Room).slots _
  refine gsW (S' := s₁.setTop (mkF m 0 #[iv cc] [])) (fun tg kg => castTop (ef_160 m cc) kg) ?_
  refine gsW (fun _ k => jb X0 hx hby d58_0 rfl (jr (v := (38 : Int32)) X0 hx hby d58_1 k)) ?_
  by_cases hc1 : cc = (38 : Int32)
  · refine gsW (fun _ k => ji X0 hx hby d58_3 (teq hc1).2 k) ?_
    obtain ⟨a2, T2, h2, k2, t2, kb2, X2, e2, E2, hS, hk2, hZ, hown, g2e, g2c, g2v, g2a, -, -, r2x, -, ne2, st2⟩ := ldcCH X0 hx hZ hown (ow hw 37 rfl) (jD hw) e0 hS hk (jp hw) (List.mem_of_getElem? (i := 6) rfl) R0.1 (vs := ((([38, 97, 109, 112, 59] : List Int32).map (fun c => c.toInt8.toInt32)).map Value.int)) (z := (5 : Int32)) ⟨by decide, by rfl⟩ (by decide) rfl (g := (mkF m 6 #[iv cc] [])) rfl (hb hby d58_6) (n := 20) (by decide) (by decide) (by decide) (by decide)
    have r3 : CHr Z jg s.vm h0 T2.vm h2 := r2x
    have R3 := R0.trans r3
    have Z3 := nt Z0 E2.1
    have O3 := O0.ext E2
    have K3 := K0.ext E2
    have T2q : Str Z h2 a2 ([38, 97, 109, 112, 59] : List Int32) := ⟨_, _, g2e, g2c, g2v, g2a⟩
    refine gsW (S' := T2.setTop (mkF m 8 #[iv cc] [(.ref a2)])) st2 ?_
    refine goutW (v := some (.ref a2)) X2 hS hk2 hZ (jp hw) hh e2 R3 Bd.notSynchronized (fun h => by rw [Bd.returns] at h; cases h) (by decide) (by decide) ?_ (fun fs hr => retOut X2 hx Bd.returns rfl (Or.inr (Or.inr (Or.inr (Or.inr ⟨rfl, rfl, rfl⟩)))) (hb hby d58_8) hr)
    exact ⟨_, rfl, N0, K3, by rw [hc1, own_escA]; exact T2q.sg (by decide)⟩
  · refine gsW (fun _ k => jh (pc' := 9) X0 hx hby d58_3 (feq hc1).2 (jb X0 hx hby d58_9 rfl (jr (v := (60 : Int32)) X0 hx hby d58_10 k))) ?_
    by_cases hc4 : cc = (60 : Int32)
    · refine gsW (fun _ k => ji X0 hx hby d58_12 (teq hc4).2 k) ?_
      obtain ⟨a5, T5, h5, k5, t5, kb5, X5, e5, E5, hS, hk5, hZ, hown, g5e, g5c, g5v, g5a, -, -, r5x, -, ne5, st5⟩ := ldcCH X0 hx hZ hown (ow hw 242 rfl) (jD hw) e0 hS hk (jp hw) (List.mem_of_getElem? (i := 7) rfl) R0.1 (vs := ((([38, 108, 116, 59] : List Int32).map (fun c => c.toInt8.toInt32)).map Value.int)) (z := (4 : Int32)) ⟨by decide, by rfl⟩ (by decide) rfl (g := (mkF m 15 #[iv cc] [])) rfl (hb hby d58_15) (n := 16) (by decide) (by decide) (by decide) (by decide)
      have r6 : CHr Z jg s.vm h0 T5.vm h5 := r5x
      have R6 := R0.trans r6
      have Z6 := nt Z0 E5.1
      have O6 := O0.ext E5
      have K6 := K0.ext E5
      have T5q : Str Z h5 a5 ([38, 108, 116, 59] : List Int32) := ⟨_, _, g5e, g5c, g5v, g5a⟩
      refine gsW (S' := T5.setTop (mkF m 17 #[iv cc] [(.ref a5)])) st5 ?_
      refine goutW (v := some (.ref a5)) X5 hS hk5 hZ (jp hw) hh e5 R6 Bd.notSynchronized (fun h => by rw [Bd.returns] at h; cases h) (by decide) (by decide) ?_ (fun fs hr => retOut X5 hx Bd.returns rfl (Or.inr (Or.inr (Or.inr (Or.inr ⟨rfl, rfl, rfl⟩)))) (hb hby d58_17) hr)
      exact ⟨_, rfl, N0, K6, by rw [hc4, own_escB]; exact T5q.sg (by decide)⟩
    · refine gsW (fun _ k => jh (pc' := 18) X0 hx hby d58_12 (feq hc4).2 (jb X0 hx hby d58_18 rfl (jr (v := (62 : Int32)) X0 hx hby d58_19 k))) ?_
      by_cases hc7 : cc = (62 : Int32)
      · refine gsW (fun _ k => ji X0 hx hby d58_21 (teq hc7).2 k) ?_
        obtain ⟨a8, T8, h8, k8, t8, kb8, X8, e8, E8, hS, hk8, hZ, hown, g8e, g8c, g8v, g8a, -, -, r8x, -, ne8, st8⟩ := ldcCH X0 hx hZ hown (ow hw 302 rfl) (jD hw) e0 hS hk (jp hw) (List.mem_of_getElem? (i := 8) rfl) R0.1 (vs := ((([38, 103, 116, 59] : List Int32).map (fun c => c.toInt8.toInt32)).map Value.int)) (z := (4 : Int32)) ⟨by decide, by rfl⟩ (by decide) rfl (g := (mkF m 24 #[iv cc] [])) rfl (hb hby d58_24) (n := 16) (by decide) (by decide) (by decide) (by decide)
        have r9 : CHr Z jg s.vm h0 T8.vm h8 := r8x
        have R9 := R0.trans r9
        have Z9 := nt Z0 E8.1
        have O9 := O0.ext E8
        have K9 := K0.ext E8
        have T8q : Str Z h8 a8 ([38, 103, 116, 59] : List Int32) := ⟨_, _, g8e, g8c, g8v, g8a⟩
        refine gsW (S' := T8.setTop (mkF m 26 #[iv cc] [(.ref a8)])) st8 ?_
        refine goutW (v := some (.ref a8)) X8 hS hk8 hZ (jp hw) hh e8 R9 Bd.notSynchronized (fun h => by rw [Bd.returns] at h; cases h) (by decide) (by decide) ?_ (fun fs hr => retOut X8 hx Bd.returns rfl (Or.inr (Or.inr (Or.inr (Or.inr ⟨rfl, rfl, rfl⟩)))) (hb hby d58_26) hr)
        exact ⟨_, rfl, N0, K9, by rw [hc7, own_escC]; exact T8q.sg (by decide)⟩
      · refine gsW (fun _ k => jh (pc' := 27) X0 hx hby d58_21 (feq hc7).2 (jb X0 hx hby d58_27 rfl (jr (v := (34 : Int32)) X0 hx hby d58_28 k))) ?_
        by_cases hc10 : cc = (34 : Int32)
        · refine gsW (fun _ k => ji X0 hx hby d58_30 (teq hc10).2 k) ?_
          obtain ⟨a11, T11, h11, k11, t11, kb11, X11, e11, E11, hS, hk11, hZ, hown, g11e, g11c, g11v, g11a, -, -, r11x, -, ne11, st11⟩ := ldcCH X0 hx hZ hown (ow hw 208 rfl) (jD hw) e0 hS hk (jp hw) (List.mem_of_getElem? (i := 9) rfl) R0.1 (vs := ((([38, 113, 117, 111, 116, 59] : List Int32).map (fun c => c.toInt8.toInt32)).map Value.int)) (z := (6 : Int32)) ⟨by decide, by rfl⟩ (by decide) rfl (g := (mkF m 33 #[iv cc] [])) rfl (hb hby d58_33) (n := 24) (by decide) (by decide) (by decide) (by decide)
          have r12 : CHr Z jg s.vm h0 T11.vm h11 := r11x
          have R12 := R0.trans r12
          have Z12 := nt Z0 E11.1
          have O12 := O0.ext E11
          have K12 := K0.ext E11
          have T11q : Str Z h11 a11 ([38, 113, 117, 111, 116, 59] : List Int32) := ⟨_, _, g11e, g11c, g11v, g11a⟩
          refine gsW (S' := T11.setTop (mkF m 35 #[iv cc] [(.ref a11)])) st11 ?_
          refine goutW (v := some (.ref a11)) X11 hS hk11 hZ (jp hw) hh e11 R12 Bd.notSynchronized (fun h => by rw [Bd.returns] at h; cases h) (by decide) (by decide) ?_ (fun fs hr => retOut X11 hx Bd.returns rfl (Or.inr (Or.inr (Or.inr (Or.inr ⟨rfl, rfl, rfl⟩)))) (hb hby d58_35) hr)
          exact ⟨_, rfl, N0, K12, by rw [hc10, own_escD]; exact T11q.sg (by decide)⟩
        · refine gsW (fun _ k => jh (pc' := 36) X0 hx hby d58_30 (feq hc10).2 (jb X0 hx hby d58_36 rfl (jr (v := (39 : Int32)) X0 hx hby d58_37 k))) ?_
          by_cases hc13 : cc = (39 : Int32)
          · refine gsW (fun _ k => ji X0 hx hby d58_39 (teq hc13).2 k) ?_
            obtain ⟨a14, T14, h14, k14, t14, kb14, X14, e14, E14, hS, hk14, hZ, hown, g14e, g14c, g14v, g14a, -, -, r14x, -, ne14, st14⟩ := ldcCH X0 hx hZ hown (ow hw 207 rfl) (jD hw) e0 hS hk (jp hw) (List.mem_of_getElem? (i := 10) rfl) R0.1 (vs := ((([38, 35, 51, 57, 59] : List Int32).map (fun c => c.toInt8.toInt32)).map Value.int)) (z := (5 : Int32)) ⟨by decide, by rfl⟩ (by decide) rfl (g := (mkF m 42 #[iv cc] [])) rfl (hb hby d58_42) (n := 20) (by decide) (by decide) (by decide) (by decide)
            have r15 : CHr Z jg s.vm h0 T14.vm h14 := r14x
            have R15 := R0.trans r15
            have Z15 := nt Z0 E14.1
            have O15 := O0.ext E14
            have K15 := K0.ext E14
            have T14q : Str Z h14 a14 ([38, 35, 51, 57, 59] : List Int32) := ⟨_, _, g14e, g14c, g14v, g14a⟩
            refine gsW (S' := T14.setTop (mkF m 44 #[iv cc] [(.ref a14)])) st14 ?_
            refine goutW (v := some (.ref a14)) X14 hS hk14 hZ (jp hw) hh e14 R15 Bd.notSynchronized (fun h => by rw [Bd.returns] at h; cases h) (by decide) (by decide) ?_ (fun fs hr => retOut X14 hx Bd.returns rfl (Or.inr (Or.inr (Or.inr (Or.inr ⟨rfl, rfl, rfl⟩)))) (hb hby d58_44) hr)
            exact ⟨_, rfl, N0, K15, by rw [hc13, own_escE]; exact T14q.sg (by decide)⟩
          · refine gsW (fun _ k => jh (pc' := 45) X0 hx hby d58_39 (feq hc13).2 (jb X0 hx hby d58_45 rfl k)) ?_
            refine cSW (rest := []) X0 hx hZ hown (ow hw 217 rfl) (ow hw 218 rfl) (ow hw 6 rfl) (ow hw 219 rfl) (rm_vo l Z a0 hw [] cc z h0 n0 Z0 O0 hcc S0 hz S_ad S_hi S_lo) hby d58_46 e0 pd_1011 0 (by rw [hml]; rfl) rfl rfl rfl rfl (by decide) (by decide) fun _ T16 Lc16 X16 hQ16 => ?_
            obtain ⟨a16, rfl, N16q, K16q, T16q⟩ := hQ16
            have N16 := Fr.app N0 N16q
            have r17 : CHr Z jg s.vm h0 s.vm T16.heap := CHr.keep K16q sf0 R0.1
            have R17 := R0.trans r17
            have Z17 := nt Z0 K16q.1
            have O17 := O0.keep K16q all0
            have K17 := K0.trans K16q all0
            refine goutW (v := some (.ref a16)) X16 hS (nt hk K16q.1) hZ (jp hw) hh rfl R17 Bd.notSynchronized (fun h => by rw [Bd.returns] at h; cases h) (by decide) (by decide) ?_ (fun fs hr => retOut X16 hx Bd.returns rfl (Or.inr (Or.inr (Or.inr (Or.inr ⟨rfl, rfl, rfl⟩)))) (hb hby d58_49) hr)
            exact ⟨_, rfl, N16, K17, by rw [own_escn hc1 hc4 hc7 hc10 hc13]; exact T16q⟩
theorem ef_1013 (m : MethodId) (x0 : Addr) : entryFrame m #[(.ref x0)] 4 = mkF m 0 #[.val (.ref x0), .unset, .unset, .unset] [] := by first | (simp [entryFrame, mkF, argsToLocals, Value.category]; done) | rfl
abbrev oc59 := prog_8_method_3_code
theorem d59_0 : decode oc59 0 = .ok (.new 45, 3) := by decide +kernel
theorem d59_3 : decode oc59 3 = .ok (.dup, 1) := by decide +kernel
theorem d59_4 : decode oc59 4 = .ok (.aload_n 0, 1) := by decide +kernel
theorem d59_5 : decode oc59 5 = .ok (.invokevirtual 47, 3) := by decide +kernel
theorem d59_8 : decode oc59 8 = .ok (.invokespecial 53, 3) := by decide +kernel
theorem d59_11 : decode oc59 11 = .ok (.astore_n 1, 1) := by decide +kernel
theorem d59_12 : decode oc59 12 = .ok (.iconst 0, 1) := by decide +kernel
theorem d59_13 : decode oc59 13 = .ok (.istore_n 2, 1) := by decide +kernel
theorem d59_14 : decode oc59 14 = .ok (.iload_n 2, 1) := by decide +kernel
theorem d59_15 : decode oc59 15 = .ok (.aload_n 0, 1) := by decide +kernel
theorem d59_16 : decode oc59 16 = .ok (.invokevirtual 47, 3) := by decide +kernel
theorem d59_19 : decode oc59 19 = .ok (.if_icmp .ge 123, 3) := by decide +kernel
theorem d59_142 : decode oc59 142 = .ok (.aload_n 1, 1) := by decide +kernel
theorem d59_143 : decode oc59 143 = .ok (.invokevirtual 77, 3) := by decide +kernel
theorem pd_1029 : parseMethodDescriptor "()Ljava/lang/String;" = some ⟨[], some (.object "java/lang/String")⟩ := by decide +kernel
theorem d59_146 : decode oc59 146 = .ok (.areturn, 1) := by decide +kernel
theorem d59_22 : decode oc59 22 = .ok (.aload_n 0, 1) := by decide +kernel
theorem d59_23 : decode oc59 23 = .ok (.iload_n 2, 1) := by decide +kernel
theorem d59_24 : decode oc59 24 = .ok (.invokevirtual 56, 3) := by decide +kernel
theorem pd_1034 : parseMethodDescriptor "(I)C" = some ⟨[.int], some .char⟩ := by decide +kernel
theorem d59_27 : decode oc59 27 = .ok (.istore_n 3, 1) := by decide +kernel
theorem d59_28 : decode oc59 28 = .ok (.iload_n 3, 1) := by decide +kernel
theorem d59_29 : decode oc59 29 = .ok (.lookupswitch 101 #[(34, 81), (38, 51), (39, 91), (60, 61), (62, 71)], 51) := by decide +kernel
theorem d59_110 : decode oc59 110 = .ok (.aload_n 1, 1) := by decide +kernel
theorem d59_111 : decode oc59 111 = .ok (.ldc 70, 2) := by decide +kernel
theorem d59_113 : decode oc59 113 = .ok (.invokevirtual 62, 3) := by decide +kernel
theorem pd_1041 : parseMethodDescriptor "(Ljava/lang/String;)Ljava/lang/StringBuilder;" = some ⟨[(.object "java/lang/String")], some (.object "java/lang/StringBuilder")⟩ := by decide +kernel
theorem d59_116 : decode oc59 116 = .ok (.pop, 1) := by decide +kernel
theorem d59_117 : decode oc59 117 = .ok (.goto 19, 3) := by decide +kernel
theorem d59_136 : decode oc59 136 = .ok (.iinc 2 1, 3) := by decide +kernel
theorem d59_139 : decode oc59 139 = .ok (.goto (-125), 3) := by decide +kernel
theorem d59_80 : decode oc59 80 = .ok (.aload_n 1, 1) := by decide +kernel
theorem d59_81 : decode oc59 81 = .ok (.ldc 60, 2) := by decide +kernel
theorem d59_83 : decode oc59 83 = .ok (.invokevirtual 62, 3) := by decide +kernel
theorem d59_86 : decode oc59 86 = .ok (.pop, 1) := by decide +kernel
theorem d59_87 : decode oc59 87 = .ok (.goto 49, 3) := by decide +kernel
theorem d59_120 : decode oc59 120 = .ok (.aload_n 1, 1) := by decide +kernel
theorem d59_121 : decode oc59 121 = .ok (.ldc 72, 2) := by decide +kernel
theorem d59_123 : decode oc59 123 = .ok (.invokevirtual 62, 3) := by decide +kernel
theorem d59_126 : decode oc59 126 = .ok (.pop, 1) := by decide +kernel
theorem d59_127 : decode oc59 127 = .ok (.goto 9, 3) := by decide +kernel
theorem d59_90 : decode oc59 90 = .ok (.aload_n 1, 1) := by decide +kernel
theorem d59_91 : decode oc59 91 = .ok (.ldc 66, 2) := by decide +kernel
theorem d59_93 : decode oc59 93 = .ok (.invokevirtual 62, 3) := by decide +kernel
theorem d59_96 : decode oc59 96 = .ok (.pop, 1) := by decide +kernel
theorem d59_97 : decode oc59 97 = .ok (.goto 39, 3) := by decide +kernel
theorem d59_100 : decode oc59 100 = .ok (.aload_n 1, 1) := by decide +kernel
theorem d59_101 : decode oc59 101 = .ok (.ldc 68, 2) := by decide +kernel
theorem d59_103 : decode oc59 103 = .ok (.invokevirtual 62, 3) := by decide +kernel
theorem d59_106 : decode oc59 106 = .ok (.pop, 1) := by decide +kernel
theorem d59_107 : decode oc59 107 = .ok (.goto 29, 3) := by decide +kernel
theorem d59_130 : decode oc59 130 = .ok (.aload_n 1, 1) := by decide +kernel
theorem d59_131 : decode oc59 131 = .ok (.iload_n 3, 1) := by decide +kernel
theorem d59_132 : decode oc59 132 = .ok (.invokevirtual 74, 3) := by decide +kernel
theorem pd_1069 : parseMethodDescriptor "(C)Ljava/lang/StringBuilder;" = some ⟨[.char], some (.object "java/lang/StringBuilder")⟩ := by decide +kernel
theorem d59_135 : decode oc59 135 = .ok (.pop, 1) := by decide +kernel
theorem pn_1071 : plainName "com/example/lushan/lushan/console/Page" = true := by first | (simp [plainName, overriddenIn]; done) | decide +kernel
theorem rm_es (l : Launch) (Z : State) (a0 : Array Value) (hw : HW Z a0) (ws : List Jvm.Cond) (x : Addr) (cs : List Int32) (z : Int32) (fm : Value) (h0 : Heap) (n0 : Nat) (Z0 : n0 ≤ h0.size) (O0 : Old Z n0 h0) (T_x : SG Z h0 x cs) (hl3 : cs.length ≤ 3) (S0 : PS3 Z (.int z)) (hz : ¬ z = 0) (S4 : PS4 Z fm) (hfm : fm.isRef = true) (S_ad : PS0 Z (.int (1 : Int32))) (S_hi : PS1 Z (.int (0 : Int32))) (S_lo : PS2 Z (.int (8 : Int32))) :
    CtrW l Z jg (⟨"com/example/lushan/lushan/console/Page", "escape", "(Ljava/lang/String;)Ljava/lang/String;"⟩ : MethodName) prog_8_method_3_code 4 ((Option.some (Jvm.ClassFile.FieldType.object "java/lang/String"))) ws (⟨9, 16, 2316, 132⟩ : Room) #[(.ref x)] h0 (fun v h L => ∃ a : Addr, v = some (.ref a) ∧ Fr n0 L ∧ Keep h0 h [] ∧ SG Z h a (cs.flatMap jc)) := by
  refine CtrW.of (MetFree.of_bodySF (plainFor_of_name pn_1071) hisR ?_)
  intro p e s m args below meth c s₁ Bd hml0 hP hK
  obtain ⟨rfl, hZ0, hh, hC⟩ := hP
  have hx := Bd.exec
  have hby := Bd.bytes
  have hml : c.maxLocals = 4 := hml0
  have hZ : Z.Warmed39 (s.setVm s.vm).vm := hZ0
  have hown : (s.setVm s.vm).vm.findClass "com/example/lushan/lushan/console/Page" = some m.cls := findClass_of_methodNamed Bd.named
  have hnm := (name_of_methodNamed Bd.named Bd.method).1
  have X0 : Stand p l e (⟨9, 16, 2316, 132⟩ : Room) (s.setVm s.vm) m #[(.ref x)] below meth c s₁ [] 0 0 := Stand.of_body Bd
  have e0 : s₁.heap = h0 := by rw [← hh, Bd.state]; rfl
  have N0 := Fr.nil n0
  have K0 : Keep h0 h0 [] := Keep.refl h0 []
  have hS : s.Since s.vm 0 := (State.WarmedH.refl s).since 0
  have hk : 0 ≤ h0.size := Nat.zero_le _
  have R0 : CHr Z jg s.vm h0 s.vm h0 := CHr.refl hC
  show OwnGoW p e below s Z jg (fun v h L => ∃ a : Addr, v = some (.ref a) ∧ Fr n0 L ∧ Keep h0 h [] ∧ SG Z h a (cs.flatMap jc)) (⟨9, 16, 2316, 132⟩ : Room).cells (⟨9, 16, 2316, 132⟩ : Room).slots _
  refine gsW (S' := s₁.setTop (mkF m 0 #[rv x, uu, uu, uu] [])) (fun tg kg => castTop (ef_1013 m x) kg) ?_
  have E_x := T_x.exa
  obtain ⟨T1, h1, X1, e1, E1, A1, D1, -, st1⟩ := newO X0 hx hZ hown (ow hw 45 rfl) (ow hw 46 rfl) (ow hw 47 rfl) e0 (g := (mkF m 0 #[rv x, uu, uu, uu] [])) rfl (hb hby d59_0) (by decide) (by decide)
  obtain ⟨b1, q1⟩ : ∃ z, z = h0.size := ⟨_, rfl⟩
  rw [← q1] at A1 D1 st1
  have g_b1 : n0 ≤ b1 := nt Z0 (Nat.le_of_eq q1.symm)
  have sz_b1 : h0.size ≤ b1 := nt K0.1 (Nat.le_of_eq q1.symm)
  have r2 : CHr Z jg s.vm h0 s.vm h1 := CHr.ext E1 R0.1
  have R2 := R0.trans r2
  have Z2 := nt Z0 E1.1
  have O2 := O0.ext E1
  have K2 := K0.ext E1
  have F_value_b1 : Fld Z h1 b1 "java/lang/AbstractStringBuilder" "value" "[B" .null := D1 (Or.inl (ow hw 70 rfl)) (ty := (.array .byte)) (by decide)
  have F_coder_b1 : Fld Z h1 b1 "java/lang/AbstractStringBuilder" "coder" "B" (.int (0 : Int32)) := D1 (Or.inl (ow hw 72 rfl)) (ty := .byte) (by decide)
  have F_count_b1 : Fld Z h1 b1 "java/lang/AbstractStringBuilder" "count" "I" (.int (0 : Int32)) := D1 (Or.inl (ow hw 108 rfl)) (ty := .int) (by decide)
  have F_maybeLatin1_b1 : Fld Z h1 b1 "java/lang/AbstractStringBuilder" "maybeLatin1" "Z" (.int (0 : Int32)) := D1 (Or.inl (ow hw 301 rfl)) (ty := .boolean) (by decide)
  refine gsW (S' := T1.setTop (mkF m 3 #[rv x, uu, uu, uu] [(.ref b1)])) st1 ?_
  refine gsW (fun _ k => jP X1 hx hby d59_3 rfl (ja X1 hx hby d59_4 rfl rfl k)) ?_
  refine cVW (rest := [(.ref b1), (.ref b1)]) X1 hx hZ hown (ow hw 48 rfl) (ow hw 49 rfl) (nfs hZ (ow hw 51 rfl)) (ow hw 51 rfl) (ow hw 50 rfl) (ow hw 6 rfl) (ow hw 52 rfl) (rm_len l Z a0 hw [] x cs z h1 n0 Z2 O2 (T_x.keep0 K2) (by omega) S0 hz) hby d59_5 e1 pd_573 2 (by rw [hml]; rfl) (T_x.keep0 K2).exa rfl rfl rfl rfl (by decide) (by decide) fun _ T3 Lc3 X3 hQ3 => ?_
  obtain ⟨rfl, N3q, e3q⟩ := hQ3
  have N3 := Fr.app N0 N3q
  refine cIW (rest := [(.ref b1)]) X3 hx hZ hown rfl (ow hw 58 rfl) (ow hw 59 rfl) (ow hw 47 rfl) (ow hw 60 rfl) (rm_sbi l Z a0 hw [] b1 cs.length z h1 n0 Z2 O2 A1 F_value_b1 F_coder_b1 F_count_b1 F_maybeLatin1_b1 g_b1 hl3 S0 hz) hby d59_8 e3q pd_391 1 (by rw [hml]; rfl) rfl rfl rfl rfl (by decide) (by decide) fun _ T4 Lc4 X4 hQ4 => ?_
  obtain ⟨t4, rfl, N4q, K4q, g4t, B4q⟩ := hQ4
  have N4 := Fr.app N3 N4q
  have g_t4 : n0 ≤ t4 := nt Z2 g4t
  have sz_t4 : h0.size ≤ t4 := nt K2.1 g4t
  have r5 : CHr Z jg s.vm h1 s.vm T4.heap := CHr.keep K4q (sfS (Safe.exa hZ.alike A1 (by decide) (by decide)) sf0) R2.1
  have R5 := R2.trans r5
  have Z5 := nt Z2 K4q.1
  have O5 := O2.keep K4q (allS g_b1 all0)
  have K5 := K2.trans K4q (allS (Or.inr sz_b1) all0)
  have Bz : BG Z T4.heap b1 t4 ((cs.take 0).flatMap jc) := B4q
  have Et4 := Bz.exat
  have Eb4 := Bz.exa
  have sfc4 := Safe.keep K4q (sfS (Safe.exa hZ.alike A1 (by decide) (by decide)) sf0) R2.1 (Safe.new (EL := jg) (Z := Z) (vm := s.vm) g4t)
  refine gsW (fun _ k => jw X4 hx hby d59_11 rfl rfl (je (v := (0 : Int32)) X4 hx hby d59_12 (jF X4 hx hby d59_13 rfl k))) ?_
  have mid3 : ∀ (vmj : Vm) (kj : Nat) (Tj : State) (hj : Heap) (lj : List Loc) (tj : Addr) (cj : Int32), s.Since vmj kj → kj ≤ hj.size → Z.Warmed39 (s.setVm vmj).vm → (s.setVm vmj).vm.findClass "com/example/lushan/lushan/console/Page" = some m.cls → Stand p l e (⟨9, 16, 2316, 132⟩ : Room) (s.setVm vmj) m #[(.ref x)] below meth c Tj lj 14 2112 → Tj.heap = hj → Fr n0 lj → n0 ≤ hj.size → Old Z n0 hj → Keep h0 hj [] → CHr Z jg s.vm h0 vmj hj → n0 ≤ tj → h0.size ≤ tj → Safe Z jg vmj hj tj → BG Z hj b1 tj ((cs.take 3).flatMap jc) → OwnGoW p e below s Z jg (fun v h L => ∃ a : Addr, v = some (.ref a) ∧ Fr n0 L ∧ Keep h0 h [] ∧ SG Z h a (cs.flatMap jc)) (⟨9, 16, 2316, 132⟩ : Room).cells (⟨9, 16, 2316, 132⟩ : Room).slots (Tj.setTop (mkF m 14 #[rv x, rv b1, iv (3 : Int32), iv cj] [])) := by
    intro vmj kj Tj hj lj tj cj hS hkj hZ hown Xj ej Nj Zj Oj Kj Rj gtj stj Qj Bj
    have Ej := Bj.exat
    have Ebj := Bj.exa
    refine gsW (fun _ k => jb Xj hx hby d59_14 rfl (ja Xj hx hby d59_15 rfl rfl k)) ?_
    refine cVW (rest := [(.int (3 : Int32))]) Xj hx hZ hown (ow hw 48 rfl) (ow hw 49 rfl) (nfs hZ (ow hw 51 rfl)) (ow hw 51 rfl) (ow hw 50 rfl) (ow hw 6 rfl) (ow hw 52 rfl) (rm_len l Z a0 hw [] x cs z hj n0 Zj Oj (T_x.keep0 Kj) (by omega) S0 hz) hby d59_16 ej pd_573 1 (by rw [hml]; rfl) (T_x.keep0 Kj).exa rfl rfl rfl rfl (by decide) (by decide) fun _ T6 Lc6 X6 hQ6 => ?_
    obtain ⟨rfl, N6q, e6q⟩ := hQ6
    have N6 := Fr.app Nj N6q
    refine gsW (fun _ k => jh (pc' := 142) X6 hx hby d59_19 (flt (show ¬ ((3 : Int32) < (oI cs.length)) from own_nlt32 (a := 3) (by omega) hl3)).2.1 (ja X6 hx hby d59_142 rfl rfl k)) ?_
    refine cVW (rest := []) X6 hx hZ hown (ow hw 157 rfl) (ow hw 158 rfl) (nfs hZ (ow hw 160 rfl)) (ow hw 160 rfl) (ow hw 159 rfl) (ow hw 47 rfl) (ow hw 161 rfl) (rm_ts l Z a0 hw [] b1 tj ((cs.take 3).flatMap jc) z hj n0 Zj Oj Bj (by have q := jE cs 3; omega) S0 hz) hby d59_143 e6q pd_1029 0 (by rw [hml]; rfl) Ebj rfl rfl rfl rfl (by decide) (by decide) fun _ T7 Lc7 X7 hQ7 => ?_
    obtain ⟨a7, rfl, N7q, K7q, T7q⟩ := hQ7
    have N7 := Fr.app N6 N7q
    have r8 : CHr Z jg vmj hj vmj T7.heap := CHr.keep K7q sf0 Rj.1
    have R8 := Rj.trans r8
    have Z8 := nt Zj K7q.1
    have O8 := Oj.keep K7q all0
    have K8 := Kj.trans K7q all0
    have hge : cs.length ≤ 3 := by have q := mt (jS (a := 3) (b := cs.length) (by omega) (by omega)).mpr (show ¬ ((3 : Int32) < (oI cs.length)) from own_nlt32 (a := 3) (by omega) hl3); omega
    have Tq := T7q
    rw [List.take_of_length_le hge] at Tq
    refine goutW (v := some (.ref a7)) X7 hS (nt hkj K7q.1) hZ (jp hw) hh rfl R8 Bd.notSynchronized (fun h => by rw [Bd.returns] at h; cases h) (by decide) (by decide) ?_ (fun fs hr => retOut X7 hx Bd.returns rfl (Or.inr (Or.inr (Or.inr (Or.inr ⟨rfl, rfl, rfl⟩)))) (hb hby d59_146) hr)
    exact ⟨_, rfl, N7, K8, Tq⟩
  have mid2 : ∀ (vmj : Vm) (kj : Nat) (Tj : State) (hj : Heap) (lj : List Loc) (tj : Addr) (cj : Int32), s.Since vmj kj → kj ≤ hj.size → Z.Warmed39 (s.setVm vmj).vm → (s.setVm vmj).vm.findClass "com/example/lushan/lushan/console/Page" = some m.cls → Stand p l e (⟨9, 16, 2316, 132⟩ : Room) (s.setVm vmj) m #[(.ref x)] below meth c Tj lj 10 1412 → Tj.heap = hj → Fr n0 lj → n0 ≤ hj.size → Old Z n0 hj → Keep h0 hj [] → CHr Z jg s.vm h0 vmj hj → n0 ≤ tj → h0.size ≤ tj → Safe Z jg vmj hj tj → BG Z hj b1 tj ((cs.take 2).flatMap jc) → OwnGoW p e below s Z jg (fun v h L => ∃ a : Addr, v = some (.ref a) ∧ Fr n0 L ∧ Keep h0 h [] ∧ SG Z h a (cs.flatMap jc)) (⟨9, 16, 2316, 132⟩ : Room).cells (⟨9, 16, 2316, 132⟩ : Room).slots (Tj.setTop (mkF m 14 #[rv x, rv b1, iv (2 : Int32), iv cj] [])) := by
    intro vmj kj Tj hj lj tj cj hS hkj hZ hown Xj ej Nj Zj Oj Kj Rj gtj stj Qj Bj
    have Ej := Bj.exat
    have Ebj := Bj.exa
    refine gsW (fun _ k => jb Xj hx hby d59_14 rfl (ja Xj hx hby d59_15 rfl rfl k)) ?_
    refine cVW (rest := [(.int (2 : Int32))]) Xj hx hZ hown (ow hw 48 rfl) (ow hw 49 rfl) (nfs hZ (ow hw 51 rfl)) (ow hw 51 rfl) (ow hw 50 rfl) (ow hw 6 rfl) (ow hw 52 rfl) (rm_len l Z a0 hw [] x cs z hj n0 Zj Oj (T_x.keep0 Kj) (by omega) S0 hz) hby d59_16 ej pd_573 1 (by rw [hml]; rfl) (T_x.keep0 Kj).exa rfl rfl rfl rfl (by decide) (by decide) fun _ T9 Lc9 X9 hQ9 => ?_
    obtain ⟨rfl, N9q, e9q⟩ := hQ9
    have N9 := Fr.app Nj N9q
    by_cases hc10 : (2 : Int32) < (oI cs.length)
    · refine gsW (fun _ k => ji X9 hx hby d59_19 (tlt hc10).2.1 k) ?_
      have hlt : 2 < cs.length := (jS (a := 2) (by omega) (by omega)).mp hc10
      refine gsW (fun _ k => ja X9 hx hby d59_22 rfl rfl (jb X9 hx hby d59_23 rfl k)) ?_
      refine cVW (rest := []) X9 hx hZ hown (ow hw 73 rfl) (ow hw 74 rfl) (nfs hZ (ow hw 76 rfl)) (ow hw 76 rfl) (ow hw 75 rfl) (ow hw 6 rfl) (ow hw 77 rfl) (rm_ch l Z a0 hw [] x cs 2 z fm hj n0 Zj Oj (T_x.keep0 Kj) hlt (by omega) S0 hz S4 hfm S_ad S_hi S_lo) hby d59_24 e9q pd_1034 0 (by rw [hml]; rfl) (T_x.keep0 Kj).exa rfl rfl rfl rfl (by decide) (by decide) fun _ T11 Lc11 X11 hQ11 => ?_
      obtain ⟨rfl, N11q, e11q⟩ := hQ11
      have N11 := Fr.app N9 N11q
      refine gsW (fun _ k => jF X11 hx hby d59_27 rfl (jb X11 hx hby d59_28 rfl k)) ?_
      by_cases hc12 : (cs.getD 2 0) = (34 : Int32)
      · refine gsW (fun _ k => X11.lookupswitchHit hx (g := (mkF m 29 #[rv x, rv b1, iv (2 : Int32), iv (cs.getD 2 0)] [(.int (cs.getD 2 0))])) rfl rfl (hb hby d59_29) (by decide) (a := 34) (off := 81) (by rw [hc12]; decide) (of_decide_eq_true rfl) _ (ja X11 hx hby d59_110 rfl rfl k)) ?_
        obtain ⟨a13, T13, h13, k13, t13, kb13, X13, e13, E13, hS, hk13, hZ, hown, g13e, g13c, g13v, g13a, -, -, r13x, -, ne13, st13⟩ := ldcCH X11 hx hZ hown (ow hw 210 rfl) (jD hw) e11q hS hkj (jp hw) (List.mem_of_getElem? (i := 3) rfl) Rj.1 (vs := ((([38, 113, 117, 111, 116, 59] : List Int32).map (fun c => c.toInt8.toInt32)).map Value.int)) (z := (6 : Int32)) ⟨by decide, by rfl⟩ (by decide) rfl (g := (mkF m 111 #[rv x, rv b1, iv (2 : Int32), iv (cs.getD 2 0)] [(.ref b1)])) rfl (hb hby d59_111) (n := 24) (by decide) (by decide) (by decide) (by decide)
        have r14 : CHr Z jg vmj hj T13.vm h13 := r13x
        have R14 := Rj.trans r14
        have Z14 := nt Zj E13.1
        have O14 := Oj.ext E13
        have K14 := Kj.ext E13
        have T13q : Str Z h13 a13 ([38, 113, 117, 111, 116, 59] : List Int32) := ⟨_, _, g13e, g13c, g13v, g13a⟩
        have f15 := (r14.safe (nu Ej.lt (Nat.le_refl _)) Qj)
        refine gsW (S' := T13.setTop (mkF m 113 #[rv x, rv b1, iv (2 : Int32), iv (cs.getD 2 0)] [(.ref a13), (.ref b1)])) st13 ?_
        have f16 := (Bj.ext E13)
        have f18 := (Ebj.ext E13)
        refine cVW (rest := []) X13 hx hZ hown (ow hw 96 rfl) (ow hw 97 rfl) (nfs hZ (ow hw 99 rfl)) (ow hw 99 rfl) (ow hw 98 rfl) (ow hw 47 rfl) (ow hw 100 rfl) (rm_sa l Z a0 hw [] b1 tj ((cs.take 2).flatMap jc) a13 t13 kb13 ([38, 113, 117, 111, 116, 59] : List Int32) z fm h13 n0 Z14 O14 f16 g_b1 gtj g13e g13c g13v g13a (by decide) (Ne.symm (ne13 _ f15).2) (by have q := jE cs 2; show ((cs.take 2).flatMap jc).length + 6 ≤ 18; omega) S0 hz S4 hfm S_ad S_hi S_lo) hby d59_113 e13 pd_1041 0 (by rw [hml]; rfl) f18 rfl rfl rfl rfl (by decide) (by decide) fun _ T17 Lc17 X17 hQ17 => ?_
        obtain ⟨t17, rfl, N17q, K17q, o17t, B17q⟩ := hQ17
        have N17 := Fr.app N11 N17q
        have g_t17 : n0 ≤ t17 := o17t.elim (fun q => q ▸ gtj) (fun q => nt Z14 q)
        have sz_t17 : h0.size ≤ t17 := o17t.elim (fun q => q ▸ stj) (fun q => nt K14.1 q)
        have r19 : CHr Z jg T13.vm h13 T13.vm T17.heap := CHr.keep K17q (sfS (Safe.exa hZ.alike f18 (by decide) (by decide)) (sfS f15 sf0)) R14.1
        have R19 := R14.trans r19
        have Z19 := nt Z14 K17q.1
        have O19 := O14.keep K17q (allS g_b1 (allS gtj all0))
        have K19 := K14.trans K17q (allS (Or.inr sz_b1) (allS (Or.inr stj) all0))
        have Bn17 : BG Z T17.heap b1 t17 ((cs.take 3).flatMap jc) := by rw [(show ((cs.take 3).flatMap jc) = ((cs.take 2).flatMap jc) ++ jc (cs.getD 2 0) from jv cs 2 hlt), hc12, own_escD]; exact B17q
        have Et17 := Bn17.exat
        have Eb17 := Bn17.exa
        have sfc17 := Safe.keep K17q (sfS (Safe.exa hZ.alike f18 (by decide) (by decide)) (sfS f15 sf0)) R14.1 (o17t.elim (fun q => by rw [q]; exact f15) (fun q => Safe.new q))
        refine gsW (fun _ k => jR X17 hx hby d59_116 rfl (jl (pc' := 136) X17 hx hby d59_117 (jm X17 hx hby d59_136 rfl rfl (jl (pc' := 14) X17 hx hby d59_139 k)))) ?_
        exact mid3 T13.vm _ T17 T17.heap _ t17 (cs.getD 2 0) hS (nt hk13 K17q.1) hZ hown (X17.more (by decide) (by decide)) rfl N17 Z19 O19 K19 R19 g_t17 sz_t17 sfc17 Bn17
      · by_cases hc20 : (cs.getD 2 0) = (38 : Int32)
        · refine gsW (fun _ k => X11.lookupswitchHit hx (g := (mkF m 29 #[rv x, rv b1, iv (2 : Int32), iv (cs.getD 2 0)] [(.int (cs.getD 2 0))])) rfl rfl (hb hby d59_29) (by decide) (a := 38) (off := 51) (by rw [hc20]; decide) (of_decide_eq_true rfl) _ (ja X11 hx hby d59_80 rfl rfl k)) ?_
          obtain ⟨a21, T21, h21, k21, t21, kb21, X21, e21, E21, hS, hk21, hZ, hown, g21e, g21c, g21v, g21a, -, -, r21x, -, ne21, st21⟩ := ldcCH X11 hx hZ hown (ow hw 95 rfl) (jD hw) e11q hS hkj (jp hw) (List.mem_of_getElem? (i := 0) rfl) Rj.1 (vs := ((([38, 97, 109, 112, 59] : List Int32).map (fun c => c.toInt8.toInt32)).map Value.int)) (z := (5 : Int32)) ⟨by decide, by rfl⟩ (by decide) rfl (g := (mkF m 81 #[rv x, rv b1, iv (2 : Int32), iv (cs.getD 2 0)] [(.ref b1)])) rfl (hb hby d59_81) (n := 20) (by decide) (by decide) (by decide) (by decide)
          have r22 : CHr Z jg vmj hj T21.vm h21 := r21x
          have R22 := Rj.trans r22
          have Z22 := nt Zj E21.1
          have O22 := Oj.ext E21
          have K22 := Kj.ext E21
          have T21q : Str Z h21 a21 ([38, 97, 109, 112, 59] : List Int32) := ⟨_, _, g21e, g21c, g21v, g21a⟩
          have f23 := (r22.safe (nu Ej.lt (Nat.le_refl _)) Qj)
          refine gsW (S' := T21.setTop (mkF m 83 #[rv x, rv b1, iv (2 : Int32), iv (cs.getD 2 0)] [(.ref a21), (.ref b1)])) st21 ?_
          have f24 := (Bj.ext E21)
          have f26 := (Ebj.ext E21)
          refine cVW (rest := []) X21 hx hZ hown (ow hw 96 rfl) (ow hw 97 rfl) (nfs hZ (ow hw 99 rfl)) (ow hw 99 rfl) (ow hw 98 rfl) (ow hw 47 rfl) (ow hw 100 rfl) (rm_sa l Z a0 hw [] b1 tj ((cs.take 2).flatMap jc) a21 t21 kb21 ([38, 97, 109, 112, 59] : List Int32) z fm h21 n0 Z22 O22 f24 g_b1 gtj g21e g21c g21v g21a (by decide) (Ne.symm (ne21 _ f23).2) (by have q := jE cs 2; show ((cs.take 2).flatMap jc).length + 5 ≤ 18; omega) S0 hz S4 hfm S_ad S_hi S_lo) hby d59_83 e21 pd_1041 0 (by rw [hml]; rfl) f26 rfl rfl rfl rfl (by decide) (by decide) fun _ T25 Lc25 X25 hQ25 => ?_
          obtain ⟨t25, rfl, N25q, K25q, o25t, B25q⟩ := hQ25
          have N25 := Fr.app N11 N25q
          have g_t25 : n0 ≤ t25 := o25t.elim (fun q => q ▸ gtj) (fun q => nt Z22 q)
          have sz_t25 : h0.size ≤ t25 := o25t.elim (fun q => q ▸ stj) (fun q => nt K22.1 q)
          have r27 : CHr Z jg T21.vm h21 T21.vm T25.heap := CHr.keep K25q (sfS (Safe.exa hZ.alike f26 (by decide) (by decide)) (sfS f23 sf0)) R22.1
          have R27 := R22.trans r27
          have Z27 := nt Z22 K25q.1
          have O27 := O22.keep K25q (allS g_b1 (allS gtj all0))
          have K27 := K22.trans K25q (allS (Or.inr sz_b1) (allS (Or.inr stj) all0))
          have Bn25 : BG Z T25.heap b1 t25 ((cs.take 3).flatMap jc) := by rw [(show ((cs.take 3).flatMap jc) = ((cs.take 2).flatMap jc) ++ jc (cs.getD 2 0) from jv cs 2 hlt), hc20, own_escA]; exact B25q
          have Et25 := Bn25.exat
          have Eb25 := Bn25.exa
          have sfc25 := Safe.keep K25q (sfS (Safe.exa hZ.alike f26 (by decide) (by decide)) (sfS f23 sf0)) R22.1 (o25t.elim (fun q => by rw [q]; exact f23) (fun q => Safe.new q))
          refine gsW (fun _ k => jR X25 hx hby d59_86 rfl (jl (pc' := 136) X25 hx hby d59_87 (jm X25 hx hby d59_136 rfl rfl (jl (pc' := 14) X25 hx hby d59_139 k)))) ?_
          exact mid3 T21.vm _ T25 T25.heap _ t25 (cs.getD 2 0) hS (nt hk21 K25q.1) hZ hown (X25.more (by decide) (by decide)) rfl N25 Z27 O27 K27 R27 g_t25 sz_t25 sfc25 Bn25
        · by_cases hc28 : (cs.getD 2 0) = (39 : Int32)
          · refine gsW (fun _ k => X11.lookupswitchHit hx (g := (mkF m 29 #[rv x, rv b1, iv (2 : Int32), iv (cs.getD 2 0)] [(.int (cs.getD 2 0))])) rfl rfl (hb hby d59_29) (by decide) (a := 39) (off := 91) (by rw [hc28]; decide) (of_decide_eq_true rfl) _ (ja X11 hx hby d59_120 rfl rfl k)) ?_
            obtain ⟨a29, T29, h29, k29, t29, kb29, X29, e29, E29, hS, hk29, hZ, hown, g29e, g29c, g29v, g29a, -, -, r29x, -, ne29, st29⟩ := ldcCH X11 hx hZ hown (ow hw 209 rfl) (jD hw) e11q hS hkj (jp hw) (List.mem_of_getElem? (i := 4) rfl) Rj.1 (vs := ((([38, 35, 51, 57, 59] : List Int32).map (fun c => c.toInt8.toInt32)).map Value.int)) (z := (5 : Int32)) ⟨by decide, by rfl⟩ (by decide) rfl (g := (mkF m 121 #[rv x, rv b1, iv (2 : Int32), iv (cs.getD 2 0)] [(.ref b1)])) rfl (hb hby d59_121) (n := 20) (by decide) (by decide) (by decide) (by decide)
            have r30 : CHr Z jg vmj hj T29.vm h29 := r29x
            have R30 := Rj.trans r30
            have Z30 := nt Zj E29.1
            have O30 := Oj.ext E29
            have K30 := Kj.ext E29
            have T29q : Str Z h29 a29 ([38, 35, 51, 57, 59] : List Int32) := ⟨_, _, g29e, g29c, g29v, g29a⟩
            have f31 := (r30.safe (nu Ej.lt (Nat.le_refl _)) Qj)
            refine gsW (S' := T29.setTop (mkF m 123 #[rv x, rv b1, iv (2 : Int32), iv (cs.getD 2 0)] [(.ref a29), (.ref b1)])) st29 ?_
            have f32 := (Bj.ext E29)
            have f34 := (Ebj.ext E29)
            refine cVW (rest := []) X29 hx hZ hown (ow hw 96 rfl) (ow hw 97 rfl) (nfs hZ (ow hw 99 rfl)) (ow hw 99 rfl) (ow hw 98 rfl) (ow hw 47 rfl) (ow hw 100 rfl) (rm_sa l Z a0 hw [] b1 tj ((cs.take 2).flatMap jc) a29 t29 kb29 ([38, 35, 51, 57, 59] : List Int32) z fm h29 n0 Z30 O30 f32 g_b1 gtj g29e g29c g29v g29a (by decide) (Ne.symm (ne29 _ f31).2) (by have q := jE cs 2; show ((cs.take 2).flatMap jc).length + 5 ≤ 18; omega) S0 hz S4 hfm S_ad S_hi S_lo) hby d59_123 e29 pd_1041 0 (by rw [hml]; rfl) f34 rfl rfl rfl rfl (by decide) (by decide) fun _ T33 Lc33 X33 hQ33 => ?_
            obtain ⟨t33, rfl, N33q, K33q, o33t, B33q⟩ := hQ33
            have N33 := Fr.app N11 N33q
            have g_t33 : n0 ≤ t33 := o33t.elim (fun q => q ▸ gtj) (fun q => nt Z30 q)
            have sz_t33 : h0.size ≤ t33 := o33t.elim (fun q => q ▸ stj) (fun q => nt K30.1 q)
            have r35 : CHr Z jg T29.vm h29 T29.vm T33.heap := CHr.keep K33q (sfS (Safe.exa hZ.alike f34 (by decide) (by decide)) (sfS f31 sf0)) R30.1
            have R35 := R30.trans r35
            have Z35 := nt Z30 K33q.1
            have O35 := O30.keep K33q (allS g_b1 (allS gtj all0))
            have K35 := K30.trans K33q (allS (Or.inr sz_b1) (allS (Or.inr stj) all0))
            have Bn33 : BG Z T33.heap b1 t33 ((cs.take 3).flatMap jc) := by rw [(show ((cs.take 3).flatMap jc) = ((cs.take 2).flatMap jc) ++ jc (cs.getD 2 0) from jv cs 2 hlt), hc28, own_escE]; exact B33q
            have Et33 := Bn33.exat
            have Eb33 := Bn33.exa
            have sfc33 := Safe.keep K33q (sfS (Safe.exa hZ.alike f34 (by decide) (by decide)) (sfS f31 sf0)) R30.1 (o33t.elim (fun q => by rw [q]; exact f31) (fun q => Safe.new q))
            refine gsW (fun _ k => jR X33 hx hby d59_126 rfl (jl (pc' := 136) X33 hx hby d59_127 (jm X33 hx hby d59_136 rfl rfl (jl (pc' := 14) X33 hx hby d59_139 k)))) ?_
            exact mid3 T29.vm _ T33 T33.heap _ t33 (cs.getD 2 0) hS (nt hk29 K33q.1) hZ hown (X33.more (by decide) (by decide)) rfl N33 Z35 O35 K35 R35 g_t33 sz_t33 sfc33 Bn33
          · by_cases hc36 : (cs.getD 2 0) = (60 : Int32)
            · refine gsW (fun _ k => X11.lookupswitchHit hx (g := (mkF m 29 #[rv x, rv b1, iv (2 : Int32), iv (cs.getD 2 0)] [(.int (cs.getD 2 0))])) rfl rfl (hb hby d59_29) (by decide) (a := 60) (off := 61) (by rw [hc36]; decide) (of_decide_eq_true rfl) _ (ja X11 hx hby d59_90 rfl rfl k)) ?_
              obtain ⟨a37, T37, h37, k37, t37, kb37, X37, e37, E37, hS, hk37, hZ, hown, g37e, g37c, g37v, g37a, -, -, r37x, -, ne37, st37⟩ := ldcCH X11 hx hZ hown (ow hw 243 rfl) (jD hw) e11q hS hkj (jp hw) (List.mem_of_getElem? (i := 1) rfl) Rj.1 (vs := ((([38, 108, 116, 59] : List Int32).map (fun c => c.toInt8.toInt32)).map Value.int)) (z := (4 : Int32)) ⟨by decide, by rfl⟩ (by decide) rfl (g := (mkF m 91 #[rv x, rv b1, iv (2 : Int32), iv (cs.getD 2 0)] [(.ref b1)])) rfl (hb hby d59_91) (n := 16) (by decide) (by decide) (by decide) (by decide)
              have r38 : CHr Z jg vmj hj T37.vm h37 := r37x
              have R38 := Rj.trans r38
              have Z38 := nt Zj E37.1
              have O38 := Oj.ext E37
              have K38 := Kj.ext E37
              have T37q : Str Z h37 a37 ([38, 108, 116, 59] : List Int32) := ⟨_, _, g37e, g37c, g37v, g37a⟩
              have f39 := (r38.safe (nu Ej.lt (Nat.le_refl _)) Qj)
              refine gsW (S' := T37.setTop (mkF m 93 #[rv x, rv b1, iv (2 : Int32), iv (cs.getD 2 0)] [(.ref a37), (.ref b1)])) st37 ?_
              have f40 := (Bj.ext E37)
              have f42 := (Ebj.ext E37)
              refine cVW (rest := []) X37 hx hZ hown (ow hw 96 rfl) (ow hw 97 rfl) (nfs hZ (ow hw 99 rfl)) (ow hw 99 rfl) (ow hw 98 rfl) (ow hw 47 rfl) (ow hw 100 rfl) (rm_sa l Z a0 hw [] b1 tj ((cs.take 2).flatMap jc) a37 t37 kb37 ([38, 108, 116, 59] : List Int32) z fm h37 n0 Z38 O38 f40 g_b1 gtj g37e g37c g37v g37a (by decide) (Ne.symm (ne37 _ f39).2) (by have q := jE cs 2; show ((cs.take 2).flatMap jc).length + 4 ≤ 18; omega) S0 hz S4 hfm S_ad S_hi S_lo) hby d59_93 e37 pd_1041 0 (by rw [hml]; rfl) f42 rfl rfl rfl rfl (by decide) (by decide) fun _ T41 Lc41 X41 hQ41 => ?_
              obtain ⟨t41, rfl, N41q, K41q, o41t, B41q⟩ := hQ41
              have N41 := Fr.app N11 N41q
              have g_t41 : n0 ≤ t41 := o41t.elim (fun q => q ▸ gtj) (fun q => nt Z38 q)
              have sz_t41 : h0.size ≤ t41 := o41t.elim (fun q => q ▸ stj) (fun q => nt K38.1 q)
              have r43 : CHr Z jg T37.vm h37 T37.vm T41.heap := CHr.keep K41q (sfS (Safe.exa hZ.alike f42 (by decide) (by decide)) (sfS f39 sf0)) R38.1
              have R43 := R38.trans r43
              have Z43 := nt Z38 K41q.1
              have O43 := O38.keep K41q (allS g_b1 (allS gtj all0))
              have K43 := K38.trans K41q (allS (Or.inr sz_b1) (allS (Or.inr stj) all0))
              have Bn41 : BG Z T41.heap b1 t41 ((cs.take 3).flatMap jc) := by rw [(show ((cs.take 3).flatMap jc) = ((cs.take 2).flatMap jc) ++ jc (cs.getD 2 0) from jv cs 2 hlt), hc36, own_escB]; exact B41q
              have Et41 := Bn41.exat
              have Eb41 := Bn41.exa
              have sfc41 := Safe.keep K41q (sfS (Safe.exa hZ.alike f42 (by decide) (by decide)) (sfS f39 sf0)) R38.1 (o41t.elim (fun q => by rw [q]; exact f39) (fun q => Safe.new q))
              refine gsW (fun _ k => jR X41 hx hby d59_96 rfl (jl (pc' := 136) X41 hx hby d59_97 (jm X41 hx hby d59_136 rfl rfl (jl (pc' := 14) X41 hx hby d59_139 k)))) ?_
              exact mid3 T37.vm _ T41 T41.heap _ t41 (cs.getD 2 0) hS (nt hk37 K41q.1) hZ hown (X41.more (by decide) (by decide)) rfl N41 Z43 O43 K43 R43 g_t41 sz_t41 sfc41 Bn41
            · by_cases hc44 : (cs.getD 2 0) = (62 : Int32)
              · refine gsW (fun _ k => X11.lookupswitchHit hx (g := (mkF m 29 #[rv x, rv b1, iv (2 : Int32), iv (cs.getD 2 0)] [(.int (cs.getD 2 0))])) rfl rfl (hb hby d59_29) (by decide) (a := 62) (off := 71) (by rw [hc44]; decide) (of_decide_eq_true rfl) _ (ja X11 hx hby d59_100 rfl rfl k)) ?_
                obtain ⟨a45, T45, h45, k45, t45, kb45, X45, e45, E45, hS, hk45, hZ, hown, g45e, g45c, g45v, g45a, -, -, r45x, -, ne45, st45⟩ := ldcCH X11 hx hZ hown (ow hw 303 rfl) (jD hw) e11q hS hkj (jp hw) (List.mem_of_getElem? (i := 2) rfl) Rj.1 (vs := ((([38, 103, 116, 59] : List Int32).map (fun c => c.toInt8.toInt32)).map Value.int)) (z := (4 : Int32)) ⟨by decide, by rfl⟩ (by decide) rfl (g := (mkF m 101 #[rv x, rv b1, iv (2 : Int32), iv (cs.getD 2 0)] [(.ref b1)])) rfl (hb hby d59_101) (n := 16) (by decide) (by decide) (by decide) (by decide)
                have r46 : CHr Z jg vmj hj T45.vm h45 := r45x
                have R46 := Rj.trans r46
                have Z46 := nt Zj E45.1
                have O46 := Oj.ext E45
                have K46 := Kj.ext E45
                have T45q : Str Z h45 a45 ([38, 103, 116, 59] : List Int32) := ⟨_, _, g45e, g45c, g45v, g45a⟩
                have f47 := (r46.safe (nu Ej.lt (Nat.le_refl _)) Qj)
                refine gsW (S' := T45.setTop (mkF m 103 #[rv x, rv b1, iv (2 : Int32), iv (cs.getD 2 0)] [(.ref a45), (.ref b1)])) st45 ?_
                have f48 := (Bj.ext E45)
                have f50 := (Ebj.ext E45)
                refine cVW (rest := []) X45 hx hZ hown (ow hw 96 rfl) (ow hw 97 rfl) (nfs hZ (ow hw 99 rfl)) (ow hw 99 rfl) (ow hw 98 rfl) (ow hw 47 rfl) (ow hw 100 rfl) (rm_sa l Z a0 hw [] b1 tj ((cs.take 2).flatMap jc) a45 t45 kb45 ([38, 103, 116, 59] : List Int32) z fm h45 n0 Z46 O46 f48 g_b1 gtj g45e g45c g45v g45a (by decide) (Ne.symm (ne45 _ f47).2) (by have q := jE cs 2; show ((cs.take 2).flatMap jc).length + 4 ≤ 18; omega) S0 hz S4 hfm S_ad S_hi S_lo) hby d59_103 e45 pd_1041 0 (by rw [hml]; rfl) f50 rfl rfl rfl rfl (by decide) (by decide) fun _ T49 Lc49 X49 hQ49 => ?_
                obtain ⟨t49, rfl, N49q, K49q, o49t, B49q⟩ := hQ49
                have N49 := Fr.app N11 N49q
                have g_t49 : n0 ≤ t49 := o49t.elim (fun q => q ▸ gtj) (fun q => nt Z46 q)
                have sz_t49 : h0.size ≤ t49 := o49t.elim (fun q => q ▸ stj) (fun q => nt K46.1 q)
                have r51 : CHr Z jg T45.vm h45 T45.vm T49.heap := CHr.keep K49q (sfS (Safe.exa hZ.alike f50 (by decide) (by decide)) (sfS f47 sf0)) R46.1
                have R51 := R46.trans r51
                have Z51 := nt Z46 K49q.1
                have O51 := O46.keep K49q (allS g_b1 (allS gtj all0))
                have K51 := K46.trans K49q (allS (Or.inr sz_b1) (allS (Or.inr stj) all0))
                have Bn49 : BG Z T49.heap b1 t49 ((cs.take 3).flatMap jc) := by rw [(show ((cs.take 3).flatMap jc) = ((cs.take 2).flatMap jc) ++ jc (cs.getD 2 0) from jv cs 2 hlt), hc44, own_escC]; exact B49q
                have Et49 := Bn49.exat
                have Eb49 := Bn49.exa
                have sfc49 := Safe.keep K49q (sfS (Safe.exa hZ.alike f50 (by decide) (by decide)) (sfS f47 sf0)) R46.1 (o49t.elim (fun q => by rw [q]; exact f47) (fun q => Safe.new q))
                refine gsW (fun _ k => jR X49 hx hby d59_106 rfl (jl (pc' := 136) X49 hx hby d59_107 (jm X49 hx hby d59_136 rfl rfl (jl (pc' := 14) X49 hx hby d59_139 k)))) ?_
                exact mid3 T45.vm _ T49 T49.heap _ t49 (cs.getD 2 0) hS (nt hk45 K49q.1) hZ hown (X49.more (by decide) (by decide)) rfl N49 Z51 O51 K51 R51 g_t49 sz_t49 sfc49 Bn49
              · refine gsW (fun _ k => X11.lookupswitchMiss hx (g := (mkF m 29 #[rv x, rv b1, iv (2 : Int32), iv (cs.getD 2 0)] [(.int (cs.getD 2 0))])) rfl rfl (hb hby d59_29) (by decide) (own_miss hc12 hc20 hc28 hc36 hc44 _ _ _ _ _) (of_decide_eq_true rfl) _ (ja X11 hx hby d59_130 rfl rfl (jb X11 hx hby d59_131 rfl k))) ?_
                refine cVW (rest := []) X11 hx hZ hown (ow hw 230 rfl) (ow hw 231 rfl) (nfs hZ (ow hw 233 rfl)) (ow hw 233 rfl) (ow hw 232 rfl) (ow hw 47 rfl) (ow hw 234 rfl) (rm_sc l Z a0 hw [] b1 tj ((cs.take 2).flatMap jc) (cs.getD 2 0) z fm hj n0 Zj Oj Bj g_b1 gtj (jG cs T_x.b16 hlt) (by have q := jE cs 2; show ((cs.take 2).flatMap jc).length + 1 ≤ 18; omega) S0 hz S4 hfm S_ad S_hi S_lo) hby d59_132 e11q pd_1069 0 (by rw [hml]; rfl) Ebj rfl rfl rfl rfl (by decide) (by decide) fun _ T52 Lc52 X52 hQ52 => ?_
                obtain ⟨t52, rfl, N52q, K52q, o52t, B52q⟩ := hQ52
                have N52 := Fr.app N11 N52q
                have g_t52 : n0 ≤ t52 := o52t.elim (fun q => q ▸ gtj) (fun q => nt Zj q)
                have sz_t52 : h0.size ≤ t52 := o52t.elim (fun q => q ▸ stj) (fun q => nt Kj.1 q)
                have r53 : CHr Z jg vmj hj vmj T52.heap := CHr.keep K52q (sfS (Safe.exa hZ.alike Ebj (by decide) (by decide)) (sfS Qj sf0)) Rj.1
                have R53 := Rj.trans r53
                have Z53 := nt Zj K52q.1
                have O53 := Oj.keep K52q (allS g_b1 (allS gtj all0))
                have K53 := Kj.trans K52q (allS (Or.inr sz_b1) (allS (Or.inr stj) all0))
                have Bn52 : BG Z T52.heap b1 t52 ((cs.take 3).flatMap jc) := by rw [(show ((cs.take 3).flatMap jc) = ((cs.take 2).flatMap jc) ++ jc (cs.getD 2 0) from jv cs 2 hlt), own_escn hc20 hc36 hc44 hc12 hc28]; exact B52q
                have Et52 := Bn52.exat
                have Eb52 := Bn52.exa
                have sfc52 := Safe.keep K52q (sfS (Safe.exa hZ.alike Ebj (by decide) (by decide)) (sfS Qj sf0)) Rj.1 (o52t.elim (fun q => by rw [q]; exact Qj) (fun q => Safe.new q))
                refine gsW (fun _ k => jR X52 hx hby d59_135 rfl (jm X52 hx hby d59_136 rfl rfl (jl (pc' := 14) X52 hx hby d59_139 k))) ?_
                exact mid3 vmj _ T52 T52.heap _ t52 (cs.getD 2 0) hS (nt hkj K52q.1) hZ hown (X52.more (by decide) (by decide)) rfl N52 Z53 O53 K53 R53 g_t52 sz_t52 sfc52 Bn52
    · refine gsW (fun _ k => jh (pc' := 142) X9 hx hby d59_19 (flt hc10).2.1 (ja X9 hx hby d59_142 rfl rfl k)) ?_
      refine cVW (rest := []) X9 hx hZ hown (ow hw 157 rfl) (ow hw 158 rfl) (nfs hZ (ow hw 160 rfl)) (ow hw 160 rfl) (ow hw 159 rfl) (ow hw 47 rfl) (ow hw 161 rfl) (rm_ts l Z a0 hw [] b1 tj ((cs.take 2).flatMap jc) z hj n0 Zj Oj Bj (by have q := jE cs 2; omega) S0 hz) hby d59_143 e9q pd_1029 0 (by rw [hml]; rfl) Ebj rfl rfl rfl rfl (by decide) (by decide) fun _ T54 Lc54 X54 hQ54 => ?_
      obtain ⟨a54, rfl, N54q, K54q, T54q⟩ := hQ54
      have N54 := Fr.app N9 N54q
      have r55 : CHr Z jg vmj hj vmj T54.heap := CHr.keep K54q sf0 Rj.1
      have R55 := Rj.trans r55
      have Z55 := nt Zj K54q.1
      have O55 := Oj.keep K54q all0
      have K55 := Kj.trans K54q all0
      have hge : cs.length ≤ 2 := by have q := mt (jS (a := 2) (b := cs.length) (by omega) (by omega)).mpr hc10; omega
      have Tq := T54q
      rw [List.take_of_length_le hge] at Tq
      refine goutW (v := some (.ref a54)) X54 hS (nt hkj K54q.1) hZ (jp hw) hh rfl R55 Bd.notSynchronized (fun h => by rw [Bd.returns] at h; cases h) (by decide) (by decide) ?_ (fun fs hr => retOut X54 hx Bd.returns rfl (Or.inr (Or.inr (Or.inr (Or.inr ⟨rfl, rfl, rfl⟩)))) (hb hby d59_146) hr)
      exact ⟨_, rfl, N54, K55, Tq⟩
  have mid1 : ∀ (vmj : Vm) (kj : Nat) (Tj : State) (hj : Heap) (lj : List Loc) (tj : Addr) (cj : Int32), s.Since vmj kj → kj ≤ hj.size → Z.Warmed39 (s.setVm vmj).vm → (s.setVm vmj).vm.findClass "com/example/lushan/lushan/console/Page" = some m.cls → Stand p l e (⟨9, 16, 2316, 132⟩ : Room) (s.setVm vmj) m #[(.ref x)] below meth c Tj lj 6 712 → Tj.heap = hj → Fr n0 lj → n0 ≤ hj.size → Old Z n0 hj → Keep h0 hj [] → CHr Z jg s.vm h0 vmj hj → n0 ≤ tj → h0.size ≤ tj → Safe Z jg vmj hj tj → BG Z hj b1 tj ((cs.take 1).flatMap jc) → OwnGoW p e below s Z jg (fun v h L => ∃ a : Addr, v = some (.ref a) ∧ Fr n0 L ∧ Keep h0 h [] ∧ SG Z h a (cs.flatMap jc)) (⟨9, 16, 2316, 132⟩ : Room).cells (⟨9, 16, 2316, 132⟩ : Room).slots (Tj.setTop (mkF m 14 #[rv x, rv b1, iv (1 : Int32), iv cj] [])) := by
    intro vmj kj Tj hj lj tj cj hS hkj hZ hown Xj ej Nj Zj Oj Kj Rj gtj stj Qj Bj
    have Ej := Bj.exat
    have Ebj := Bj.exa
    refine gsW (fun _ k => jb Xj hx hby d59_14 rfl (ja Xj hx hby d59_15 rfl rfl k)) ?_
    refine cVW (rest := [(.int (1 : Int32))]) Xj hx hZ hown (ow hw 48 rfl) (ow hw 49 rfl) (nfs hZ (ow hw 51 rfl)) (ow hw 51 rfl) (ow hw 50 rfl) (ow hw 6 rfl) (ow hw 52 rfl) (rm_len l Z a0 hw [] x cs z hj n0 Zj Oj (T_x.keep0 Kj) (by omega) S0 hz) hby d59_16 ej pd_573 1 (by rw [hml]; rfl) (T_x.keep0 Kj).exa rfl rfl rfl rfl (by decide) (by decide) fun _ T56 Lc56 X56 hQ56 => ?_
    obtain ⟨rfl, N56q, e56q⟩ := hQ56
    have N56 := Fr.app Nj N56q
    by_cases hc57 : (1 : Int32) < (oI cs.length)
    · refine gsW (fun _ k => ji X56 hx hby d59_19 (tlt hc57).2.1 k) ?_
      have hlt : 1 < cs.length := (jS (a := 1) (by omega) (by omega)).mp hc57
      refine gsW (fun _ k => ja X56 hx hby d59_22 rfl rfl (jb X56 hx hby d59_23 rfl k)) ?_
      refine cVW (rest := []) X56 hx hZ hown (ow hw 73 rfl) (ow hw 74 rfl) (nfs hZ (ow hw 76 rfl)) (ow hw 76 rfl) (ow hw 75 rfl) (ow hw 6 rfl) (ow hw 77 rfl) (rm_ch l Z a0 hw [] x cs 1 z fm hj n0 Zj Oj (T_x.keep0 Kj) hlt (by omega) S0 hz S4 hfm S_ad S_hi S_lo) hby d59_24 e56q pd_1034 0 (by rw [hml]; rfl) (T_x.keep0 Kj).exa rfl rfl rfl rfl (by decide) (by decide) fun _ T58 Lc58 X58 hQ58 => ?_
      obtain ⟨rfl, N58q, e58q⟩ := hQ58
      have N58 := Fr.app N56 N58q
      refine gsW (fun _ k => jF X58 hx hby d59_27 rfl (jb X58 hx hby d59_28 rfl k)) ?_
      by_cases hc59 : (cs.getD 1 0) = (34 : Int32)
      · refine gsW (fun _ k => X58.lookupswitchHit hx (g := (mkF m 29 #[rv x, rv b1, iv (1 : Int32), iv (cs.getD 1 0)] [(.int (cs.getD 1 0))])) rfl rfl (hb hby d59_29) (by decide) (a := 34) (off := 81) (by rw [hc59]; decide) (of_decide_eq_true rfl) _ (ja X58 hx hby d59_110 rfl rfl k)) ?_
        obtain ⟨a60, T60, h60, k60, t60, kb60, X60, e60, E60, hS, hk60, hZ, hown, g60e, g60c, g60v, g60a, -, -, r60x, -, ne60, st60⟩ := ldcCH X58 hx hZ hown (ow hw 210 rfl) (jD hw) e58q hS hkj (jp hw) (List.mem_of_getElem? (i := 3) rfl) Rj.1 (vs := ((([38, 113, 117, 111, 116, 59] : List Int32).map (fun c => c.toInt8.toInt32)).map Value.int)) (z := (6 : Int32)) ⟨by decide, by rfl⟩ (by decide) rfl (g := (mkF m 111 #[rv x, rv b1, iv (1 : Int32), iv (cs.getD 1 0)] [(.ref b1)])) rfl (hb hby d59_111) (n := 24) (by decide) (by decide) (by decide) (by decide)
        have r61 : CHr Z jg vmj hj T60.vm h60 := r60x
        have R61 := Rj.trans r61
        have Z61 := nt Zj E60.1
        have O61 := Oj.ext E60
        have K61 := Kj.ext E60
        have T60q : Str Z h60 a60 ([38, 113, 117, 111, 116, 59] : List Int32) := ⟨_, _, g60e, g60c, g60v, g60a⟩
        have f62 := (r61.safe (nu Ej.lt (Nat.le_refl _)) Qj)
        refine gsW (S' := T60.setTop (mkF m 113 #[rv x, rv b1, iv (1 : Int32), iv (cs.getD 1 0)] [(.ref a60), (.ref b1)])) st60 ?_
        have f63 := (Bj.ext E60)
        have f65 := (Ebj.ext E60)
        refine cVW (rest := []) X60 hx hZ hown (ow hw 96 rfl) (ow hw 97 rfl) (nfs hZ (ow hw 99 rfl)) (ow hw 99 rfl) (ow hw 98 rfl) (ow hw 47 rfl) (ow hw 100 rfl) (rm_sa l Z a0 hw [] b1 tj ((cs.take 1).flatMap jc) a60 t60 kb60 ([38, 113, 117, 111, 116, 59] : List Int32) z fm h60 n0 Z61 O61 f63 g_b1 gtj g60e g60c g60v g60a (by decide) (Ne.symm (ne60 _ f62).2) (by have q := jE cs 1; show ((cs.take 1).flatMap jc).length + 6 ≤ 18; omega) S0 hz S4 hfm S_ad S_hi S_lo) hby d59_113 e60 pd_1041 0 (by rw [hml]; rfl) f65 rfl rfl rfl rfl (by decide) (by decide) fun _ T64 Lc64 X64 hQ64 => ?_
        obtain ⟨t64, rfl, N64q, K64q, o64t, B64q⟩ := hQ64
        have N64 := Fr.app N58 N64q
        have g_t64 : n0 ≤ t64 := o64t.elim (fun q => q ▸ gtj) (fun q => nt Z61 q)
        have sz_t64 : h0.size ≤ t64 := o64t.elim (fun q => q ▸ stj) (fun q => nt K61.1 q)
        have r66 : CHr Z jg T60.vm h60 T60.vm T64.heap := CHr.keep K64q (sfS (Safe.exa hZ.alike f65 (by decide) (by decide)) (sfS f62 sf0)) R61.1
        have R66 := R61.trans r66
        have Z66 := nt Z61 K64q.1
        have O66 := O61.keep K64q (allS g_b1 (allS gtj all0))
        have K66 := K61.trans K64q (allS (Or.inr sz_b1) (allS (Or.inr stj) all0))
        have Bn64 : BG Z T64.heap b1 t64 ((cs.take 2).flatMap jc) := by rw [(show ((cs.take 2).flatMap jc) = ((cs.take 1).flatMap jc) ++ jc (cs.getD 1 0) from jv cs 1 hlt), hc59, own_escD]; exact B64q
        have Et64 := Bn64.exat
        have Eb64 := Bn64.exa
        have sfc64 := Safe.keep K64q (sfS (Safe.exa hZ.alike f65 (by decide) (by decide)) (sfS f62 sf0)) R61.1 (o64t.elim (fun q => by rw [q]; exact f62) (fun q => Safe.new q))
        refine gsW (fun _ k => jR X64 hx hby d59_116 rfl (jl (pc' := 136) X64 hx hby d59_117 (jm X64 hx hby d59_136 rfl rfl (jl (pc' := 14) X64 hx hby d59_139 k)))) ?_
        exact mid2 T60.vm _ T64 T64.heap _ t64 (cs.getD 1 0) hS (nt hk60 K64q.1) hZ hown (X64.more (by decide) (by decide)) rfl N64 Z66 O66 K66 R66 g_t64 sz_t64 sfc64 Bn64
      · by_cases hc67 : (cs.getD 1 0) = (38 : Int32)
        · refine gsW (fun _ k => X58.lookupswitchHit hx (g := (mkF m 29 #[rv x, rv b1, iv (1 : Int32), iv (cs.getD 1 0)] [(.int (cs.getD 1 0))])) rfl rfl (hb hby d59_29) (by decide) (a := 38) (off := 51) (by rw [hc67]; decide) (of_decide_eq_true rfl) _ (ja X58 hx hby d59_80 rfl rfl k)) ?_
          obtain ⟨a68, T68, h68, k68, t68, kb68, X68, e68, E68, hS, hk68, hZ, hown, g68e, g68c, g68v, g68a, -, -, r68x, -, ne68, st68⟩ := ldcCH X58 hx hZ hown (ow hw 95 rfl) (jD hw) e58q hS hkj (jp hw) (List.mem_of_getElem? (i := 0) rfl) Rj.1 (vs := ((([38, 97, 109, 112, 59] : List Int32).map (fun c => c.toInt8.toInt32)).map Value.int)) (z := (5 : Int32)) ⟨by decide, by rfl⟩ (by decide) rfl (g := (mkF m 81 #[rv x, rv b1, iv (1 : Int32), iv (cs.getD 1 0)] [(.ref b1)])) rfl (hb hby d59_81) (n := 20) (by decide) (by decide) (by decide) (by decide)
          have r69 : CHr Z jg vmj hj T68.vm h68 := r68x
          have R69 := Rj.trans r69
          have Z69 := nt Zj E68.1
          have O69 := Oj.ext E68
          have K69 := Kj.ext E68
          have T68q : Str Z h68 a68 ([38, 97, 109, 112, 59] : List Int32) := ⟨_, _, g68e, g68c, g68v, g68a⟩
          have f70 := (r69.safe (nu Ej.lt (Nat.le_refl _)) Qj)
          refine gsW (S' := T68.setTop (mkF m 83 #[rv x, rv b1, iv (1 : Int32), iv (cs.getD 1 0)] [(.ref a68), (.ref b1)])) st68 ?_
          have f71 := (Bj.ext E68)
          have f73 := (Ebj.ext E68)
          refine cVW (rest := []) X68 hx hZ hown (ow hw 96 rfl) (ow hw 97 rfl) (nfs hZ (ow hw 99 rfl)) (ow hw 99 rfl) (ow hw 98 rfl) (ow hw 47 rfl) (ow hw 100 rfl) (rm_sa l Z a0 hw [] b1 tj ((cs.take 1).flatMap jc) a68 t68 kb68 ([38, 97, 109, 112, 59] : List Int32) z fm h68 n0 Z69 O69 f71 g_b1 gtj g68e g68c g68v g68a (by decide) (Ne.symm (ne68 _ f70).2) (by have q := jE cs 1; show ((cs.take 1).flatMap jc).length + 5 ≤ 18; omega) S0 hz S4 hfm S_ad S_hi S_lo) hby d59_83 e68 pd_1041 0 (by rw [hml]; rfl) f73 rfl rfl rfl rfl (by decide) (by decide) fun _ T72 Lc72 X72 hQ72 => ?_
          obtain ⟨t72, rfl, N72q, K72q, o72t, B72q⟩ := hQ72
          have N72 := Fr.app N58 N72q
          have g_t72 : n0 ≤ t72 := o72t.elim (fun q => q ▸ gtj) (fun q => nt Z69 q)
          have sz_t72 : h0.size ≤ t72 := o72t.elim (fun q => q ▸ stj) (fun q => nt K69.1 q)
          have r74 : CHr Z jg T68.vm h68 T68.vm T72.heap := CHr.keep K72q (sfS (Safe.exa hZ.alike f73 (by decide) (by decide)) (sfS f70 sf0)) R69.1
          have R74 := R69.trans r74
          have Z74 := nt Z69 K72q.1
          have O74 := O69.keep K72q (allS g_b1 (allS gtj all0))
          have K74 := K69.trans K72q (allS (Or.inr sz_b1) (allS (Or.inr stj) all0))
          have Bn72 : BG Z T72.heap b1 t72 ((cs.take 2).flatMap jc) := by rw [(show ((cs.take 2).flatMap jc) = ((cs.take 1).flatMap jc) ++ jc (cs.getD 1 0) from jv cs 1 hlt), hc67, own_escA]; exact B72q
          have Et72 := Bn72.exat
          have Eb72 := Bn72.exa
          have sfc72 := Safe.keep K72q (sfS (Safe.exa hZ.alike f73 (by decide) (by decide)) (sfS f70 sf0)) R69.1 (o72t.elim (fun q => by rw [q]; exact f70) (fun q => Safe.new q))
          refine gsW (fun _ k => jR X72 hx hby d59_86 rfl (jl (pc' := 136) X72 hx hby d59_87 (jm X72 hx hby d59_136 rfl rfl (jl (pc' := 14) X72 hx hby d59_139 k)))) ?_
          exact mid2 T68.vm _ T72 T72.heap _ t72 (cs.getD 1 0) hS (nt hk68 K72q.1) hZ hown (X72.more (by decide) (by decide)) rfl N72 Z74 O74 K74 R74 g_t72 sz_t72 sfc72 Bn72
        · by_cases hc75 : (cs.getD 1 0) = (39 : Int32)
          · refine gsW (fun _ k => X58.lookupswitchHit hx (g := (mkF m 29 #[rv x, rv b1, iv (1 : Int32), iv (cs.getD 1 0)] [(.int (cs.getD 1 0))])) rfl rfl (hb hby d59_29) (by decide) (a := 39) (off := 91) (by rw [hc75]; decide) (of_decide_eq_true rfl) _ (ja X58 hx hby d59_120 rfl rfl k)) ?_
            obtain ⟨a76, T76, h76, k76, t76, kb76, X76, e76, E76, hS, hk76, hZ, hown, g76e, g76c, g76v, g76a, -, -, r76x, -, ne76, st76⟩ := ldcCH X58 hx hZ hown (ow hw 209 rfl) (jD hw) e58q hS hkj (jp hw) (List.mem_of_getElem? (i := 4) rfl) Rj.1 (vs := ((([38, 35, 51, 57, 59] : List Int32).map (fun c => c.toInt8.toInt32)).map Value.int)) (z := (5 : Int32)) ⟨by decide, by rfl⟩ (by decide) rfl (g := (mkF m 121 #[rv x, rv b1, iv (1 : Int32), iv (cs.getD 1 0)] [(.ref b1)])) rfl (hb hby d59_121) (n := 20) (by decide) (by decide) (by decide) (by decide)
            have r77 : CHr Z jg vmj hj T76.vm h76 := r76x
            have R77 := Rj.trans r77
            have Z77 := nt Zj E76.1
            have O77 := Oj.ext E76
            have K77 := Kj.ext E76
            have T76q : Str Z h76 a76 ([38, 35, 51, 57, 59] : List Int32) := ⟨_, _, g76e, g76c, g76v, g76a⟩
            have f78 := (r77.safe (nu Ej.lt (Nat.le_refl _)) Qj)
            refine gsW (S' := T76.setTop (mkF m 123 #[rv x, rv b1, iv (1 : Int32), iv (cs.getD 1 0)] [(.ref a76), (.ref b1)])) st76 ?_
            have f79 := (Bj.ext E76)
            have f81 := (Ebj.ext E76)
            refine cVW (rest := []) X76 hx hZ hown (ow hw 96 rfl) (ow hw 97 rfl) (nfs hZ (ow hw 99 rfl)) (ow hw 99 rfl) (ow hw 98 rfl) (ow hw 47 rfl) (ow hw 100 rfl) (rm_sa l Z a0 hw [] b1 tj ((cs.take 1).flatMap jc) a76 t76 kb76 ([38, 35, 51, 57, 59] : List Int32) z fm h76 n0 Z77 O77 f79 g_b1 gtj g76e g76c g76v g76a (by decide) (Ne.symm (ne76 _ f78).2) (by have q := jE cs 1; show ((cs.take 1).flatMap jc).length + 5 ≤ 18; omega) S0 hz S4 hfm S_ad S_hi S_lo) hby d59_123 e76 pd_1041 0 (by rw [hml]; rfl) f81 rfl rfl rfl rfl (by decide) (by decide) fun _ T80 Lc80 X80 hQ80 => ?_
            obtain ⟨t80, rfl, N80q, K80q, o80t, B80q⟩ := hQ80
            have N80 := Fr.app N58 N80q
            have g_t80 : n0 ≤ t80 := o80t.elim (fun q => q ▸ gtj) (fun q => nt Z77 q)
            have sz_t80 : h0.size ≤ t80 := o80t.elim (fun q => q ▸ stj) (fun q => nt K77.1 q)
            have r82 : CHr Z jg T76.vm h76 T76.vm T80.heap := CHr.keep K80q (sfS (Safe.exa hZ.alike f81 (by decide) (by decide)) (sfS f78 sf0)) R77.1
            have R82 := R77.trans r82
            have Z82 := nt Z77 K80q.1
            have O82 := O77.keep K80q (allS g_b1 (allS gtj all0))
            have K82 := K77.trans K80q (allS (Or.inr sz_b1) (allS (Or.inr stj) all0))
            have Bn80 : BG Z T80.heap b1 t80 ((cs.take 2).flatMap jc) := by rw [(show ((cs.take 2).flatMap jc) = ((cs.take 1).flatMap jc) ++ jc (cs.getD 1 0) from jv cs 1 hlt), hc75, own_escE]; exact B80q
            have Et80 := Bn80.exat
            have Eb80 := Bn80.exa
            have sfc80 := Safe.keep K80q (sfS (Safe.exa hZ.alike f81 (by decide) (by decide)) (sfS f78 sf0)) R77.1 (o80t.elim (fun q => by rw [q]; exact f78) (fun q => Safe.new q))
            refine gsW (fun _ k => jR X80 hx hby d59_126 rfl (jl (pc' := 136) X80 hx hby d59_127 (jm X80 hx hby d59_136 rfl rfl (jl (pc' := 14) X80 hx hby d59_139 k)))) ?_
            exact mid2 T76.vm _ T80 T80.heap _ t80 (cs.getD 1 0) hS (nt hk76 K80q.1) hZ hown (X80.more (by decide) (by decide)) rfl N80 Z82 O82 K82 R82 g_t80 sz_t80 sfc80 Bn80
          · by_cases hc83 : (cs.getD 1 0) = (60 : Int32)
            · refine gsW (fun _ k => X58.lookupswitchHit hx (g := (mkF m 29 #[rv x, rv b1, iv (1 : Int32), iv (cs.getD 1 0)] [(.int (cs.getD 1 0))])) rfl rfl (hb hby d59_29) (by decide) (a := 60) (off := 61) (by rw [hc83]; decide) (of_decide_eq_true rfl) _ (ja X58 hx hby d59_90 rfl rfl k)) ?_
              obtain ⟨a84, T84, h84, k84, t84, kb84, X84, e84, E84, hS, hk84, hZ, hown, g84e, g84c, g84v, g84a, -, -, r84x, -, ne84, st84⟩ := ldcCH X58 hx hZ hown (ow hw 243 rfl) (jD hw) e58q hS hkj (jp hw) (List.mem_of_getElem? (i := 1) rfl) Rj.1 (vs := ((([38, 108, 116, 59] : List Int32).map (fun c => c.toInt8.toInt32)).map Value.int)) (z := (4 : Int32)) ⟨by decide, by rfl⟩ (by decide) rfl (g := (mkF m 91 #[rv x, rv b1, iv (1 : Int32), iv (cs.getD 1 0)] [(.ref b1)])) rfl (hb hby d59_91) (n := 16) (by decide) (by decide) (by decide) (by decide)
              have r85 : CHr Z jg vmj hj T84.vm h84 := r84x
              have R85 := Rj.trans r85
              have Z85 := nt Zj E84.1
              have O85 := Oj.ext E84
              have K85 := Kj.ext E84
              have T84q : Str Z h84 a84 ([38, 108, 116, 59] : List Int32) := ⟨_, _, g84e, g84c, g84v, g84a⟩
              have f86 := (r85.safe (nu Ej.lt (Nat.le_refl _)) Qj)
              refine gsW (S' := T84.setTop (mkF m 93 #[rv x, rv b1, iv (1 : Int32), iv (cs.getD 1 0)] [(.ref a84), (.ref b1)])) st84 ?_
              have f87 := (Bj.ext E84)
              have f89 := (Ebj.ext E84)
              refine cVW (rest := []) X84 hx hZ hown (ow hw 96 rfl) (ow hw 97 rfl) (nfs hZ (ow hw 99 rfl)) (ow hw 99 rfl) (ow hw 98 rfl) (ow hw 47 rfl) (ow hw 100 rfl) (rm_sa l Z a0 hw [] b1 tj ((cs.take 1).flatMap jc) a84 t84 kb84 ([38, 108, 116, 59] : List Int32) z fm h84 n0 Z85 O85 f87 g_b1 gtj g84e g84c g84v g84a (by decide) (Ne.symm (ne84 _ f86).2) (by have q := jE cs 1; show ((cs.take 1).flatMap jc).length + 4 ≤ 18; omega) S0 hz S4 hfm S_ad S_hi S_lo) hby d59_93 e84 pd_1041 0 (by rw [hml]; rfl) f89 rfl rfl rfl rfl (by decide) (by decide) fun _ T88 Lc88 X88 hQ88 => ?_
              obtain ⟨t88, rfl, N88q, K88q, o88t, B88q⟩ := hQ88
              have N88 := Fr.app N58 N88q
              have g_t88 : n0 ≤ t88 := o88t.elim (fun q => q ▸ gtj) (fun q => nt Z85 q)
              have sz_t88 : h0.size ≤ t88 := o88t.elim (fun q => q ▸ stj) (fun q => nt K85.1 q)
              have r90 : CHr Z jg T84.vm h84 T84.vm T88.heap := CHr.keep K88q (sfS (Safe.exa hZ.alike f89 (by decide) (by decide)) (sfS f86 sf0)) R85.1
              have R90 := R85.trans r90
              have Z90 := nt Z85 K88q.1
              have O90 := O85.keep K88q (allS g_b1 (allS gtj all0))
              have K90 := K85.trans K88q (allS (Or.inr sz_b1) (allS (Or.inr stj) all0))
              have Bn88 : BG Z T88.heap b1 t88 ((cs.take 2).flatMap jc) := by rw [(show ((cs.take 2).flatMap jc) = ((cs.take 1).flatMap jc) ++ jc (cs.getD 1 0) from jv cs 1 hlt), hc83, own_escB]; exact B88q
              have Et88 := Bn88.exat
              have Eb88 := Bn88.exa
              have sfc88 := Safe.keep K88q (sfS (Safe.exa hZ.alike f89 (by decide) (by decide)) (sfS f86 sf0)) R85.1 (o88t.elim (fun q => by rw [q]; exact f86) (fun q => Safe.new q))
              refine gsW (fun _ k => jR X88 hx hby d59_96 rfl (jl (pc' := 136) X88 hx hby d59_97 (jm X88 hx hby d59_136 rfl rfl (jl (pc' := 14) X88 hx hby d59_139 k)))) ?_
              exact mid2 T84.vm _ T88 T88.heap _ t88 (cs.getD 1 0) hS (nt hk84 K88q.1) hZ hown (X88.more (by decide) (by decide)) rfl N88 Z90 O90 K90 R90 g_t88 sz_t88 sfc88 Bn88
            · by_cases hc91 : (cs.getD 1 0) = (62 : Int32)
              · refine gsW (fun _ k => X58.lookupswitchHit hx (g := (mkF m 29 #[rv x, rv b1, iv (1 : Int32), iv (cs.getD 1 0)] [(.int (cs.getD 1 0))])) rfl rfl (hb hby d59_29) (by decide) (a := 62) (off := 71) (by rw [hc91]; decide) (of_decide_eq_true rfl) _ (ja X58 hx hby d59_100 rfl rfl k)) ?_
                obtain ⟨a92, T92, h92, k92, t92, kb92, X92, e92, E92, hS, hk92, hZ, hown, g92e, g92c, g92v, g92a, -, -, r92x, -, ne92, st92⟩ := ldcCH X58 hx hZ hown (ow hw 303 rfl) (jD hw) e58q hS hkj (jp hw) (List.mem_of_getElem? (i := 2) rfl) Rj.1 (vs := ((([38, 103, 116, 59] : List Int32).map (fun c => c.toInt8.toInt32)).map Value.int)) (z := (4 : Int32)) ⟨by decide, by rfl⟩ (by decide) rfl (g := (mkF m 101 #[rv x, rv b1, iv (1 : Int32), iv (cs.getD 1 0)] [(.ref b1)])) rfl (hb hby d59_101) (n := 16) (by decide) (by decide) (by decide) (by decide)
                have r93 : CHr Z jg vmj hj T92.vm h92 := r92x
                have R93 := Rj.trans r93
                have Z93 := nt Zj E92.1
                have O93 := Oj.ext E92
                have K93 := Kj.ext E92
                have T92q : Str Z h92 a92 ([38, 103, 116, 59] : List Int32) := ⟨_, _, g92e, g92c, g92v, g92a⟩
                have f94 := (r93.safe (nu Ej.lt (Nat.le_refl _)) Qj)
                refine gsW (S' := T92.setTop (mkF m 103 #[rv x, rv b1, iv (1 : Int32), iv (cs.getD 1 0)] [(.ref a92), (.ref b1)])) st92 ?_
                have f95 := (Bj.ext E92)
                have f97 := (Ebj.ext E92)
                refine cVW (rest := []) X92 hx hZ hown (ow hw 96 rfl) (ow hw 97 rfl) (nfs hZ (ow hw 99 rfl)) (ow hw 99 rfl) (ow hw 98 rfl) (ow hw 47 rfl) (ow hw 100 rfl) (rm_sa l Z a0 hw [] b1 tj ((cs.take 1).flatMap jc) a92 t92 kb92 ([38, 103, 116, 59] : List Int32) z fm h92 n0 Z93 O93 f95 g_b1 gtj g92e g92c g92v g92a (by decide) (Ne.symm (ne92 _ f94).2) (by have q := jE cs 1; show ((cs.take 1).flatMap jc).length + 4 ≤ 18; omega) S0 hz S4 hfm S_ad S_hi S_lo) hby d59_103 e92 pd_1041 0 (by rw [hml]; rfl) f97 rfl rfl rfl rfl (by decide) (by decide) fun _ T96 Lc96 X96 hQ96 => ?_
                obtain ⟨t96, rfl, N96q, K96q, o96t, B96q⟩ := hQ96
                have N96 := Fr.app N58 N96q
                have g_t96 : n0 ≤ t96 := o96t.elim (fun q => q ▸ gtj) (fun q => nt Z93 q)
                have sz_t96 : h0.size ≤ t96 := o96t.elim (fun q => q ▸ stj) (fun q => nt K93.1 q)
                have r98 : CHr Z jg T92.vm h92 T92.vm T96.heap := CHr.keep K96q (sfS (Safe.exa hZ.alike f97 (by decide) (by decide)) (sfS f94 sf0)) R93.1
                have R98 := R93.trans r98
                have Z98 := nt Z93 K96q.1
                have O98 := O93.keep K96q (allS g_b1 (allS gtj all0))
                have K98 := K93.trans K96q (allS (Or.inr sz_b1) (allS (Or.inr stj) all0))
                have Bn96 : BG Z T96.heap b1 t96 ((cs.take 2).flatMap jc) := by rw [(show ((cs.take 2).flatMap jc) = ((cs.take 1).flatMap jc) ++ jc (cs.getD 1 0) from jv cs 1 hlt), hc91, own_escC]; exact B96q
                have Et96 := Bn96.exat
                have Eb96 := Bn96.exa
                have sfc96 := Safe.keep K96q (sfS (Safe.exa hZ.alike f97 (by decide) (by decide)) (sfS f94 sf0)) R93.1 (o96t.elim (fun q => by rw [q]; exact f94) (fun q => Safe.new q))
                refine gsW (fun _ k => jR X96 hx hby d59_106 rfl (jl (pc' := 136) X96 hx hby d59_107 (jm X96 hx hby d59_136 rfl rfl (jl (pc' := 14) X96 hx hby d59_139 k)))) ?_
                exact mid2 T92.vm _ T96 T96.heap _ t96 (cs.getD 1 0) hS (nt hk92 K96q.1) hZ hown (X96.more (by decide) (by decide)) rfl N96 Z98 O98 K98 R98 g_t96 sz_t96 sfc96 Bn96
              · refine gsW (fun _ k => X58.lookupswitchMiss hx (g := (mkF m 29 #[rv x, rv b1, iv (1 : Int32), iv (cs.getD 1 0)] [(.int (cs.getD 1 0))])) rfl rfl (hb hby d59_29) (by decide) (own_miss hc59 hc67 hc75 hc83 hc91 _ _ _ _ _) (of_decide_eq_true rfl) _ (ja X58 hx hby d59_130 rfl rfl (jb X58 hx hby d59_131 rfl k))) ?_
                refine cVW (rest := []) X58 hx hZ hown (ow hw 230 rfl) (ow hw 231 rfl) (nfs hZ (ow hw 233 rfl)) (ow hw 233 rfl) (ow hw 232 rfl) (ow hw 47 rfl) (ow hw 234 rfl) (rm_sc l Z a0 hw [] b1 tj ((cs.take 1).flatMap jc) (cs.getD 1 0) z fm hj n0 Zj Oj Bj g_b1 gtj (jG cs T_x.b16 hlt) (by have q := jE cs 1; show ((cs.take 1).flatMap jc).length + 1 ≤ 18; omega) S0 hz S4 hfm S_ad S_hi S_lo) hby d59_132 e58q pd_1069 0 (by rw [hml]; rfl) Ebj rfl rfl rfl rfl (by decide) (by decide) fun _ T99 Lc99 X99 hQ99 => ?_
                obtain ⟨t99, rfl, N99q, K99q, o99t, B99q⟩ := hQ99
                have N99 := Fr.app N58 N99q
                have g_t99 : n0 ≤ t99 := o99t.elim (fun q => q ▸ gtj) (fun q => nt Zj q)
                have sz_t99 : h0.size ≤ t99 := o99t.elim (fun q => q ▸ stj) (fun q => nt Kj.1 q)
                have r100 : CHr Z jg vmj hj vmj T99.heap := CHr.keep K99q (sfS (Safe.exa hZ.alike Ebj (by decide) (by decide)) (sfS Qj sf0)) Rj.1
                have R100 := Rj.trans r100
                have Z100 := nt Zj K99q.1
                have O100 := Oj.keep K99q (allS g_b1 (allS gtj all0))
                have K100 := Kj.trans K99q (allS (Or.inr sz_b1) (allS (Or.inr stj) all0))
                have Bn99 : BG Z T99.heap b1 t99 ((cs.take 2).flatMap jc) := by rw [(show ((cs.take 2).flatMap jc) = ((cs.take 1).flatMap jc) ++ jc (cs.getD 1 0) from jv cs 1 hlt), own_escn hc67 hc83 hc91 hc59 hc75]; exact B99q
                have Et99 := Bn99.exat
                have Eb99 := Bn99.exa
                have sfc99 := Safe.keep K99q (sfS (Safe.exa hZ.alike Ebj (by decide) (by decide)) (sfS Qj sf0)) Rj.1 (o99t.elim (fun q => by rw [q]; exact Qj) (fun q => Safe.new q))
                refine gsW (fun _ k => jR X99 hx hby d59_135 rfl (jm X99 hx hby d59_136 rfl rfl (jl (pc' := 14) X99 hx hby d59_139 k))) ?_
                exact mid2 vmj _ T99 T99.heap _ t99 (cs.getD 1 0) hS (nt hkj K99q.1) hZ hown (X99.more (by decide) (by decide)) rfl N99 Z100 O100 K100 R100 g_t99 sz_t99 sfc99 Bn99
    · refine gsW (fun _ k => jh (pc' := 142) X56 hx hby d59_19 (flt hc57).2.1 (ja X56 hx hby d59_142 rfl rfl k)) ?_
      refine cVW (rest := []) X56 hx hZ hown (ow hw 157 rfl) (ow hw 158 rfl) (nfs hZ (ow hw 160 rfl)) (ow hw 160 rfl) (ow hw 159 rfl) (ow hw 47 rfl) (ow hw 161 rfl) (rm_ts l Z a0 hw [] b1 tj ((cs.take 1).flatMap jc) z hj n0 Zj Oj Bj (by have q := jE cs 1; omega) S0 hz) hby d59_143 e56q pd_1029 0 (by rw [hml]; rfl) Ebj rfl rfl rfl rfl (by decide) (by decide) fun _ T101 Lc101 X101 hQ101 => ?_
      obtain ⟨a101, rfl, N101q, K101q, T101q⟩ := hQ101
      have N101 := Fr.app N56 N101q
      have r102 : CHr Z jg vmj hj vmj T101.heap := CHr.keep K101q sf0 Rj.1
      have R102 := Rj.trans r102
      have Z102 := nt Zj K101q.1
      have O102 := Oj.keep K101q all0
      have K102 := Kj.trans K101q all0
      have hge : cs.length ≤ 1 := by have q := mt (jS (a := 1) (b := cs.length) (by omega) (by omega)).mpr hc57; omega
      have Tq := T101q
      rw [List.take_of_length_le hge] at Tq
      refine goutW (v := some (.ref a101)) X101 hS (nt hkj K101q.1) hZ (jp hw) hh rfl R102 Bd.notSynchronized (fun h => by rw [Bd.returns] at h; cases h) (by decide) (by decide) ?_ (fun fs hr => retOut X101 hx Bd.returns rfl (Or.inr (Or.inr (Or.inr (Or.inr ⟨rfl, rfl, rfl⟩)))) (hb hby d59_146) hr)
      exact ⟨_, rfl, N101, K102, Tq⟩
  refine gsW (fun _ k => jb X4 hx hby d59_14 rfl (ja X4 hx hby d59_15 rfl rfl k)) ?_
  refine cVW (rest := [(.int (0 : Int32))]) X4 hx hZ hown (ow hw 48 rfl) (ow hw 49 rfl) (nfs hZ (ow hw 51 rfl)) (ow hw 51 rfl) (ow hw 50 rfl) (ow hw 6 rfl) (ow hw 52 rfl) (rm_len l Z a0 hw [] x cs z T4.heap n0 Z5 O5 (T_x.keep0 K5) (by omega) S0 hz) hby d59_16 rfl pd_573 1 (by rw [hml]; rfl) (T_x.keep0 K5).exa rfl rfl rfl rfl (by decide) (by decide) fun _ T103 Lc103 X103 hQ103 => ?_
  obtain ⟨rfl, N103q, e103q⟩ := hQ103
  have N103 := Fr.app N4 N103q
  by_cases hc104 : (0 : Int32) < (oI cs.length)
  · refine gsW (fun _ k => ji X103 hx hby d59_19 (tlt hc104).2.1 k) ?_
    have hlt : 0 < cs.length := (jS (a := 0) (by omega) (by omega)).mp hc104
    refine gsW (fun _ k => ja X103 hx hby d59_22 rfl rfl (jb X103 hx hby d59_23 rfl k)) ?_
    refine cVW (rest := []) X103 hx hZ hown (ow hw 73 rfl) (ow hw 74 rfl) (nfs hZ (ow hw 76 rfl)) (ow hw 76 rfl) (ow hw 75 rfl) (ow hw 6 rfl) (ow hw 77 rfl) (rm_ch l Z a0 hw [] x cs 0 z fm T4.heap n0 Z5 O5 (T_x.keep0 K5) hlt (by omega) S0 hz S4 hfm S_ad S_hi S_lo) hby d59_24 e103q pd_1034 0 (by rw [hml]; rfl) (T_x.keep0 K5).exa rfl rfl rfl rfl (by decide) (by decide) fun _ T105 Lc105 X105 hQ105 => ?_
    obtain ⟨rfl, N105q, e105q⟩ := hQ105
    have N105 := Fr.app N103 N105q
    refine gsW (fun _ k => jF X105 hx hby d59_27 rfl (jb X105 hx hby d59_28 rfl k)) ?_
    by_cases hc106 : (cs.getD 0 0) = (34 : Int32)
    · refine gsW (fun _ k => X105.lookupswitchHit hx (g := (mkF m 29 #[rv x, rv b1, iv (0 : Int32), iv (cs.getD 0 0)] [(.int (cs.getD 0 0))])) rfl rfl (hb hby d59_29) (by decide) (a := 34) (off := 81) (by rw [hc106]; decide) (of_decide_eq_true rfl) _ (ja X105 hx hby d59_110 rfl rfl k)) ?_
      have zs108 := nt E1.1 K4q.1
      obtain ⟨a107, T107, h107, k107, t107, kb107, X107, e107, E107, hS, hk107, hZ, hown, g107e, g107c, g107v, g107a, -, -, r107x, -, ne107, st107⟩ := ldcCH X105 hx hZ hown (ow hw 210 rfl) (jD hw) e105q hS (nt hk zs108) (jp hw) (List.mem_of_getElem? (i := 3) rfl) R5.1 (vs := ((([38, 113, 117, 111, 116, 59] : List Int32).map (fun c => c.toInt8.toInt32)).map Value.int)) (z := (6 : Int32)) ⟨by decide, by rfl⟩ (by decide) rfl (g := (mkF m 111 #[rv x, rv b1, iv (0 : Int32), iv (cs.getD 0 0)] [(.ref b1)])) rfl (hb hby d59_111) (n := 24) (by decide) (by decide) (by decide) (by decide)
      have r109 : CHr Z jg s.vm T4.heap T107.vm h107 := r107x
      have R109 := R5.trans r109
      have Z109 := nt Z5 E107.1
      have O109 := O5.ext E107
      have K109 := K5.ext E107
      have T107q : Str Z h107 a107 ([38, 113, 117, 111, 116, 59] : List Int32) := ⟨_, _, g107e, g107c, g107v, g107a⟩
      have f110 := (r109.safe (nu Et4.lt (Nat.le_refl _)) sfc4)
      refine gsW (S' := T107.setTop (mkF m 113 #[rv x, rv b1, iv (0 : Int32), iv (cs.getD 0 0)] [(.ref a107), (.ref b1)])) st107 ?_
      have f111 := (Bz.ext E107)
      have f113 := (Eb4.ext E107)
      refine cVW (rest := []) X107 hx hZ hown (ow hw 96 rfl) (ow hw 97 rfl) (nfs hZ (ow hw 99 rfl)) (ow hw 99 rfl) (ow hw 98 rfl) (ow hw 47 rfl) (ow hw 100 rfl) (rm_sa l Z a0 hw [] b1 t4 ((cs.take 0).flatMap jc) a107 t107 kb107 ([38, 113, 117, 111, 116, 59] : List Int32) z fm h107 n0 Z109 O109 f111 g_b1 g_t4 g107e g107c g107v g107a (by decide) (Ne.symm (ne107 _ f110).2) (by have q := jE cs 0; show ((cs.take 0).flatMap jc).length + 6 ≤ 18; omega) S0 hz S4 hfm S_ad S_hi S_lo) hby d59_113 e107 pd_1041 0 (by rw [hml]; rfl) f113 rfl rfl rfl rfl (by decide) (by decide) fun _ T112 Lc112 X112 hQ112 => ?_
      obtain ⟨t112, rfl, N112q, K112q, o112t, B112q⟩ := hQ112
      have N112 := Fr.app N105 N112q
      have g_t112 : n0 ≤ t112 := o112t.elim (fun q => q ▸ g_t4) (fun q => nt Z109 q)
      have sz_t112 : h0.size ≤ t112 := o112t.elim (fun q => q ▸ sz_t4) (fun q => nt K109.1 q)
      have r114 : CHr Z jg T107.vm h107 T107.vm T112.heap := CHr.keep K112q (sfS (Safe.exa hZ.alike f113 (by decide) (by decide)) (sfS f110 sf0)) R109.1
      have R114 := R109.trans r114
      have Z114 := nt Z109 K112q.1
      have O114 := O109.keep K112q (allS g_b1 (allS g_t4 all0))
      have K114 := K109.trans K112q (allS (Or.inr sz_b1) (allS (Or.inr sz_t4) all0))
      have Bn112 : BG Z T112.heap b1 t112 ((cs.take 1).flatMap jc) := by rw [(show ((cs.take 1).flatMap jc) = ((cs.take 0).flatMap jc) ++ jc (cs.getD 0 0) from jv cs 0 hlt), hc106, own_escD]; exact B112q
      have Et112 := Bn112.exat
      have Eb112 := Bn112.exa
      have sfc112 := Safe.keep K112q (sfS (Safe.exa hZ.alike f113 (by decide) (by decide)) (sfS f110 sf0)) R109.1 (o112t.elim (fun q => by rw [q]; exact f110) (fun q => Safe.new q))
      refine gsW (fun _ k => jR X112 hx hby d59_116 rfl (jl (pc' := 136) X112 hx hby d59_117 (jm X112 hx hby d59_136 rfl rfl (jl (pc' := 14) X112 hx hby d59_139 k)))) ?_
      exact mid1 T107.vm _ T112 T112.heap _ t112 (cs.getD 0 0) hS (nt hk107 K112q.1) hZ hown (X112.more (by decide) (by decide)) rfl N112 Z114 O114 K114 R114 g_t112 sz_t112 sfc112 Bn112
    · by_cases hc115 : (cs.getD 0 0) = (38 : Int32)
      · refine gsW (fun _ k => X105.lookupswitchHit hx (g := (mkF m 29 #[rv x, rv b1, iv (0 : Int32), iv (cs.getD 0 0)] [(.int (cs.getD 0 0))])) rfl rfl (hb hby d59_29) (by decide) (a := 38) (off := 51) (by rw [hc115]; decide) (of_decide_eq_true rfl) _ (ja X105 hx hby d59_80 rfl rfl k)) ?_
        have zs117 := nt E1.1 K4q.1
        obtain ⟨a116, T116, h116, k116, t116, kb116, X116, e116, E116, hS, hk116, hZ, hown, g116e, g116c, g116v, g116a, -, -, r116x, -, ne116, st116⟩ := ldcCH X105 hx hZ hown (ow hw 95 rfl) (jD hw) e105q hS (nt hk zs117) (jp hw) (List.mem_of_getElem? (i := 0) rfl) R5.1 (vs := ((([38, 97, 109, 112, 59] : List Int32).map (fun c => c.toInt8.toInt32)).map Value.int)) (z := (5 : Int32)) ⟨by decide, by rfl⟩ (by decide) rfl (g := (mkF m 81 #[rv x, rv b1, iv (0 : Int32), iv (cs.getD 0 0)] [(.ref b1)])) rfl (hb hby d59_81) (n := 20) (by decide) (by decide) (by decide) (by decide)
        have r118 : CHr Z jg s.vm T4.heap T116.vm h116 := r116x
        have R118 := R5.trans r118
        have Z118 := nt Z5 E116.1
        have O118 := O5.ext E116
        have K118 := K5.ext E116
        have T116q : Str Z h116 a116 ([38, 97, 109, 112, 59] : List Int32) := ⟨_, _, g116e, g116c, g116v, g116a⟩
        have f119 := (r118.safe (nu Et4.lt (Nat.le_refl _)) sfc4)
        refine gsW (S' := T116.setTop (mkF m 83 #[rv x, rv b1, iv (0 : Int32), iv (cs.getD 0 0)] [(.ref a116), (.ref b1)])) st116 ?_
        have f120 := (Bz.ext E116)
        have f122 := (Eb4.ext E116)
        refine cVW (rest := []) X116 hx hZ hown (ow hw 96 rfl) (ow hw 97 rfl) (nfs hZ (ow hw 99 rfl)) (ow hw 99 rfl) (ow hw 98 rfl) (ow hw 47 rfl) (ow hw 100 rfl) (rm_sa l Z a0 hw [] b1 t4 ((cs.take 0).flatMap jc) a116 t116 kb116 ([38, 97, 109, 112, 59] : List Int32) z fm h116 n0 Z118 O118 f120 g_b1 g_t4 g116e g116c g116v g116a (by decide) (Ne.symm (ne116 _ f119).2) (by have q := jE cs 0; show ((cs.take 0).flatMap jc).length + 5 ≤ 18; omega) S0 hz S4 hfm S_ad S_hi S_lo) hby d59_83 e116 pd_1041 0 (by rw [hml]; rfl) f122 rfl rfl rfl rfl (by decide) (by decide) fun _ T121 Lc121 X121 hQ121 => ?_
        obtain ⟨t121, rfl, N121q, K121q, o121t, B121q⟩ := hQ121
        have N121 := Fr.app N105 N121q
        have g_t121 : n0 ≤ t121 := o121t.elim (fun q => q ▸ g_t4) (fun q => nt Z118 q)
        have sz_t121 : h0.size ≤ t121 := o121t.elim (fun q => q ▸ sz_t4) (fun q => nt K118.1 q)
        have r123 : CHr Z jg T116.vm h116 T116.vm T121.heap := CHr.keep K121q (sfS (Safe.exa hZ.alike f122 (by decide) (by decide)) (sfS f119 sf0)) R118.1
        have R123 := R118.trans r123
        have Z123 := nt Z118 K121q.1
        have O123 := O118.keep K121q (allS g_b1 (allS g_t4 all0))
        have K123 := K118.trans K121q (allS (Or.inr sz_b1) (allS (Or.inr sz_t4) all0))
        have Bn121 : BG Z T121.heap b1 t121 ((cs.take 1).flatMap jc) := by rw [(show ((cs.take 1).flatMap jc) = ((cs.take 0).flatMap jc) ++ jc (cs.getD 0 0) from jv cs 0 hlt), hc115, own_escA]; exact B121q
        have Et121 := Bn121.exat
        have Eb121 := Bn121.exa
        have sfc121 := Safe.keep K121q (sfS (Safe.exa hZ.alike f122 (by decide) (by decide)) (sfS f119 sf0)) R118.1 (o121t.elim (fun q => by rw [q]; exact f119) (fun q => Safe.new q))
        refine gsW (fun _ k => jR X121 hx hby d59_86 rfl (jl (pc' := 136) X121 hx hby d59_87 (jm X121 hx hby d59_136 rfl rfl (jl (pc' := 14) X121 hx hby d59_139 k)))) ?_
        exact mid1 T116.vm _ T121 T121.heap _ t121 (cs.getD 0 0) hS (nt hk116 K121q.1) hZ hown (X121.more (by decide) (by decide)) rfl N121 Z123 O123 K123 R123 g_t121 sz_t121 sfc121 Bn121
      · by_cases hc124 : (cs.getD 0 0) = (39 : Int32)
        · refine gsW (fun _ k => X105.lookupswitchHit hx (g := (mkF m 29 #[rv x, rv b1, iv (0 : Int32), iv (cs.getD 0 0)] [(.int (cs.getD 0 0))])) rfl rfl (hb hby d59_29) (by decide) (a := 39) (off := 91) (by rw [hc124]; decide) (of_decide_eq_true rfl) _ (ja X105 hx hby d59_120 rfl rfl k)) ?_
          have zs126 := nt E1.1 K4q.1
          obtain ⟨a125, T125, h125, k125, t125, kb125, X125, e125, E125, hS, hk125, hZ, hown, g125e, g125c, g125v, g125a, -, -, r125x, -, ne125, st125⟩ := ldcCH X105 hx hZ hown (ow hw 209 rfl) (jD hw) e105q hS (nt hk zs126) (jp hw) (List.mem_of_getElem? (i := 4) rfl) R5.1 (vs := ((([38, 35, 51, 57, 59] : List Int32).map (fun c => c.toInt8.toInt32)).map Value.int)) (z := (5 : Int32)) ⟨by decide, by rfl⟩ (by decide) rfl (g := (mkF m 121 #[rv x, rv b1, iv (0 : Int32), iv (cs.getD 0 0)] [(.ref b1)])) rfl (hb hby d59_121) (n := 20) (by decide) (by decide) (by decide) (by decide)
          have r127 : CHr Z jg s.vm T4.heap T125.vm h125 := r125x
          have R127 := R5.trans r127
          have Z127 := nt Z5 E125.1
          have O127 := O5.ext E125
          have K127 := K5.ext E125
          have T125q : Str Z h125 a125 ([38, 35, 51, 57, 59] : List Int32) := ⟨_, _, g125e, g125c, g125v, g125a⟩
          have f128 := (r127.safe (nu Et4.lt (Nat.le_refl _)) sfc4)
          refine gsW (S' := T125.setTop (mkF m 123 #[rv x, rv b1, iv (0 : Int32), iv (cs.getD 0 0)] [(.ref a125), (.ref b1)])) st125 ?_
          have f129 := (Bz.ext E125)
          have f131 := (Eb4.ext E125)
          refine cVW (rest := []) X125 hx hZ hown (ow hw 96 rfl) (ow hw 97 rfl) (nfs hZ (ow hw 99 rfl)) (ow hw 99 rfl) (ow hw 98 rfl) (ow hw 47 rfl) (ow hw 100 rfl) (rm_sa l Z a0 hw [] b1 t4 ((cs.take 0).flatMap jc) a125 t125 kb125 ([38, 35, 51, 57, 59] : List Int32) z fm h125 n0 Z127 O127 f129 g_b1 g_t4 g125e g125c g125v g125a (by decide) (Ne.symm (ne125 _ f128).2) (by have q := jE cs 0; show ((cs.take 0).flatMap jc).length + 5 ≤ 18; omega) S0 hz S4 hfm S_ad S_hi S_lo) hby d59_123 e125 pd_1041 0 (by rw [hml]; rfl) f131 rfl rfl rfl rfl (by decide) (by decide) fun _ T130 Lc130 X130 hQ130 => ?_
          obtain ⟨t130, rfl, N130q, K130q, o130t, B130q⟩ := hQ130
          have N130 := Fr.app N105 N130q
          have g_t130 : n0 ≤ t130 := o130t.elim (fun q => q ▸ g_t4) (fun q => nt Z127 q)
          have sz_t130 : h0.size ≤ t130 := o130t.elim (fun q => q ▸ sz_t4) (fun q => nt K127.1 q)
          have r132 : CHr Z jg T125.vm h125 T125.vm T130.heap := CHr.keep K130q (sfS (Safe.exa hZ.alike f131 (by decide) (by decide)) (sfS f128 sf0)) R127.1
          have R132 := R127.trans r132
          have Z132 := nt Z127 K130q.1
          have O132 := O127.keep K130q (allS g_b1 (allS g_t4 all0))
          have K132 := K127.trans K130q (allS (Or.inr sz_b1) (allS (Or.inr sz_t4) all0))
          have Bn130 : BG Z T130.heap b1 t130 ((cs.take 1).flatMap jc) := by rw [(show ((cs.take 1).flatMap jc) = ((cs.take 0).flatMap jc) ++ jc (cs.getD 0 0) from jv cs 0 hlt), hc124, own_escE]; exact B130q
          have Et130 := Bn130.exat
          have Eb130 := Bn130.exa
          have sfc130 := Safe.keep K130q (sfS (Safe.exa hZ.alike f131 (by decide) (by decide)) (sfS f128 sf0)) R127.1 (o130t.elim (fun q => by rw [q]; exact f128) (fun q => Safe.new q))
          refine gsW (fun _ k => jR X130 hx hby d59_126 rfl (jl (pc' := 136) X130 hx hby d59_127 (jm X130 hx hby d59_136 rfl rfl (jl (pc' := 14) X130 hx hby d59_139 k)))) ?_
          exact mid1 T125.vm _ T130 T130.heap _ t130 (cs.getD 0 0) hS (nt hk125 K130q.1) hZ hown (X130.more (by decide) (by decide)) rfl N130 Z132 O132 K132 R132 g_t130 sz_t130 sfc130 Bn130
        · by_cases hc133 : (cs.getD 0 0) = (60 : Int32)
          · refine gsW (fun _ k => X105.lookupswitchHit hx (g := (mkF m 29 #[rv x, rv b1, iv (0 : Int32), iv (cs.getD 0 0)] [(.int (cs.getD 0 0))])) rfl rfl (hb hby d59_29) (by decide) (a := 60) (off := 61) (by rw [hc133]; decide) (of_decide_eq_true rfl) _ (ja X105 hx hby d59_90 rfl rfl k)) ?_
            have zs135 := nt E1.1 K4q.1
            obtain ⟨a134, T134, h134, k134, t134, kb134, X134, e134, E134, hS, hk134, hZ, hown, g134e, g134c, g134v, g134a, -, -, r134x, -, ne134, st134⟩ := ldcCH X105 hx hZ hown (ow hw 243 rfl) (jD hw) e105q hS (nt hk zs135) (jp hw) (List.mem_of_getElem? (i := 1) rfl) R5.1 (vs := ((([38, 108, 116, 59] : List Int32).map (fun c => c.toInt8.toInt32)).map Value.int)) (z := (4 : Int32)) ⟨by decide, by rfl⟩ (by decide) rfl (g := (mkF m 91 #[rv x, rv b1, iv (0 : Int32), iv (cs.getD 0 0)] [(.ref b1)])) rfl (hb hby d59_91) (n := 16) (by decide) (by decide) (by decide) (by decide)
            have r136 : CHr Z jg s.vm T4.heap T134.vm h134 := r134x
            have R136 := R5.trans r136
            have Z136 := nt Z5 E134.1
            have O136 := O5.ext E134
            have K136 := K5.ext E134
            have T134q : Str Z h134 a134 ([38, 108, 116, 59] : List Int32) := ⟨_, _, g134e, g134c, g134v, g134a⟩
            have f137 := (r136.safe (nu Et4.lt (Nat.le_refl _)) sfc4)
            refine gsW (S' := T134.setTop (mkF m 93 #[rv x, rv b1, iv (0 : Int32), iv (cs.getD 0 0)] [(.ref a134), (.ref b1)])) st134 ?_
            have f138 := (Bz.ext E134)
            have f140 := (Eb4.ext E134)
            refine cVW (rest := []) X134 hx hZ hown (ow hw 96 rfl) (ow hw 97 rfl) (nfs hZ (ow hw 99 rfl)) (ow hw 99 rfl) (ow hw 98 rfl) (ow hw 47 rfl) (ow hw 100 rfl) (rm_sa l Z a0 hw [] b1 t4 ((cs.take 0).flatMap jc) a134 t134 kb134 ([38, 108, 116, 59] : List Int32) z fm h134 n0 Z136 O136 f138 g_b1 g_t4 g134e g134c g134v g134a (by decide) (Ne.symm (ne134 _ f137).2) (by have q := jE cs 0; show ((cs.take 0).flatMap jc).length + 4 ≤ 18; omega) S0 hz S4 hfm S_ad S_hi S_lo) hby d59_93 e134 pd_1041 0 (by rw [hml]; rfl) f140 rfl rfl rfl rfl (by decide) (by decide) fun _ T139 Lc139 X139 hQ139 => ?_
            obtain ⟨t139, rfl, N139q, K139q, o139t, B139q⟩ := hQ139
            have N139 := Fr.app N105 N139q
            have g_t139 : n0 ≤ t139 := o139t.elim (fun q => q ▸ g_t4) (fun q => nt Z136 q)
            have sz_t139 : h0.size ≤ t139 := o139t.elim (fun q => q ▸ sz_t4) (fun q => nt K136.1 q)
            have r141 : CHr Z jg T134.vm h134 T134.vm T139.heap := CHr.keep K139q (sfS (Safe.exa hZ.alike f140 (by decide) (by decide)) (sfS f137 sf0)) R136.1
            have R141 := R136.trans r141
            have Z141 := nt Z136 K139q.1
            have O141 := O136.keep K139q (allS g_b1 (allS g_t4 all0))
            have K141 := K136.trans K139q (allS (Or.inr sz_b1) (allS (Or.inr sz_t4) all0))
            have Bn139 : BG Z T139.heap b1 t139 ((cs.take 1).flatMap jc) := by rw [(show ((cs.take 1).flatMap jc) = ((cs.take 0).flatMap jc) ++ jc (cs.getD 0 0) from jv cs 0 hlt), hc133, own_escB]; exact B139q
            have Et139 := Bn139.exat
            have Eb139 := Bn139.exa
            have sfc139 := Safe.keep K139q (sfS (Safe.exa hZ.alike f140 (by decide) (by decide)) (sfS f137 sf0)) R136.1 (o139t.elim (fun q => by rw [q]; exact f137) (fun q => Safe.new q))
            refine gsW (fun _ k => jR X139 hx hby d59_96 rfl (jl (pc' := 136) X139 hx hby d59_97 (jm X139 hx hby d59_136 rfl rfl (jl (pc' := 14) X139 hx hby d59_139 k)))) ?_
            exact mid1 T134.vm _ T139 T139.heap _ t139 (cs.getD 0 0) hS (nt hk134 K139q.1) hZ hown (X139.more (by decide) (by decide)) rfl N139 Z141 O141 K141 R141 g_t139 sz_t139 sfc139 Bn139
          · by_cases hc142 : (cs.getD 0 0) = (62 : Int32)
            · refine gsW (fun _ k => X105.lookupswitchHit hx (g := (mkF m 29 #[rv x, rv b1, iv (0 : Int32), iv (cs.getD 0 0)] [(.int (cs.getD 0 0))])) rfl rfl (hb hby d59_29) (by decide) (a := 62) (off := 71) (by rw [hc142]; decide) (of_decide_eq_true rfl) _ (ja X105 hx hby d59_100 rfl rfl k)) ?_
              have zs144 := nt E1.1 K4q.1
              obtain ⟨a143, T143, h143, k143, t143, kb143, X143, e143, E143, hS, hk143, hZ, hown, g143e, g143c, g143v, g143a, -, -, r143x, -, ne143, st143⟩ := ldcCH X105 hx hZ hown (ow hw 303 rfl) (jD hw) e105q hS (nt hk zs144) (jp hw) (List.mem_of_getElem? (i := 2) rfl) R5.1 (vs := ((([38, 103, 116, 59] : List Int32).map (fun c => c.toInt8.toInt32)).map Value.int)) (z := (4 : Int32)) ⟨by decide, by rfl⟩ (by decide) rfl (g := (mkF m 101 #[rv x, rv b1, iv (0 : Int32), iv (cs.getD 0 0)] [(.ref b1)])) rfl (hb hby d59_101) (n := 16) (by decide) (by decide) (by decide) (by decide)
              have r145 : CHr Z jg s.vm T4.heap T143.vm h143 := r143x
              have R145 := R5.trans r145
              have Z145 := nt Z5 E143.1
              have O145 := O5.ext E143
              have K145 := K5.ext E143
              have T143q : Str Z h143 a143 ([38, 103, 116, 59] : List Int32) := ⟨_, _, g143e, g143c, g143v, g143a⟩
              have f146 := (r145.safe (nu Et4.lt (Nat.le_refl _)) sfc4)
              refine gsW (S' := T143.setTop (mkF m 103 #[rv x, rv b1, iv (0 : Int32), iv (cs.getD 0 0)] [(.ref a143), (.ref b1)])) st143 ?_
              have f147 := (Bz.ext E143)
              have f149 := (Eb4.ext E143)
              refine cVW (rest := []) X143 hx hZ hown (ow hw 96 rfl) (ow hw 97 rfl) (nfs hZ (ow hw 99 rfl)) (ow hw 99 rfl) (ow hw 98 rfl) (ow hw 47 rfl) (ow hw 100 rfl) (rm_sa l Z a0 hw [] b1 t4 ((cs.take 0).flatMap jc) a143 t143 kb143 ([38, 103, 116, 59] : List Int32) z fm h143 n0 Z145 O145 f147 g_b1 g_t4 g143e g143c g143v g143a (by decide) (Ne.symm (ne143 _ f146).2) (by have q := jE cs 0; show ((cs.take 0).flatMap jc).length + 4 ≤ 18; omega) S0 hz S4 hfm S_ad S_hi S_lo) hby d59_103 e143 pd_1041 0 (by rw [hml]; rfl) f149 rfl rfl rfl rfl (by decide) (by decide) fun _ T148 Lc148 X148 hQ148 => ?_
              obtain ⟨t148, rfl, N148q, K148q, o148t, B148q⟩ := hQ148
              have N148 := Fr.app N105 N148q
              have g_t148 : n0 ≤ t148 := o148t.elim (fun q => q ▸ g_t4) (fun q => nt Z145 q)
              have sz_t148 : h0.size ≤ t148 := o148t.elim (fun q => q ▸ sz_t4) (fun q => nt K145.1 q)
              have r150 : CHr Z jg T143.vm h143 T143.vm T148.heap := CHr.keep K148q (sfS (Safe.exa hZ.alike f149 (by decide) (by decide)) (sfS f146 sf0)) R145.1
              have R150 := R145.trans r150
              have Z150 := nt Z145 K148q.1
              have O150 := O145.keep K148q (allS g_b1 (allS g_t4 all0))
              have K150 := K145.trans K148q (allS (Or.inr sz_b1) (allS (Or.inr sz_t4) all0))
              have Bn148 : BG Z T148.heap b1 t148 ((cs.take 1).flatMap jc) := by rw [(show ((cs.take 1).flatMap jc) = ((cs.take 0).flatMap jc) ++ jc (cs.getD 0 0) from jv cs 0 hlt), hc142, own_escC]; exact B148q
              have Et148 := Bn148.exat
              have Eb148 := Bn148.exa
              have sfc148 := Safe.keep K148q (sfS (Safe.exa hZ.alike f149 (by decide) (by decide)) (sfS f146 sf0)) R145.1 (o148t.elim (fun q => by rw [q]; exact f146) (fun q => Safe.new q))
              refine gsW (fun _ k => jR X148 hx hby d59_106 rfl (jl (pc' := 136) X148 hx hby d59_107 (jm X148 hx hby d59_136 rfl rfl (jl (pc' := 14) X148 hx hby d59_139 k)))) ?_
              exact mid1 T143.vm _ T148 T148.heap _ t148 (cs.getD 0 0) hS (nt hk143 K148q.1) hZ hown (X148.more (by decide) (by decide)) rfl N148 Z150 O150 K150 R150 g_t148 sz_t148 sfc148 Bn148
            · refine gsW (fun _ k => X105.lookupswitchMiss hx (g := (mkF m 29 #[rv x, rv b1, iv (0 : Int32), iv (cs.getD 0 0)] [(.int (cs.getD 0 0))])) rfl rfl (hb hby d59_29) (by decide) (own_miss hc106 hc115 hc124 hc133 hc142 _ _ _ _ _) (of_decide_eq_true rfl) _ (ja X105 hx hby d59_130 rfl rfl (jb X105 hx hby d59_131 rfl k))) ?_
              refine cVW (rest := []) X105 hx hZ hown (ow hw 230 rfl) (ow hw 231 rfl) (nfs hZ (ow hw 233 rfl)) (ow hw 233 rfl) (ow hw 232 rfl) (ow hw 47 rfl) (ow hw 234 rfl) (rm_sc l Z a0 hw [] b1 t4 ((cs.take 0).flatMap jc) (cs.getD 0 0) z fm T4.heap n0 Z5 O5 Bz g_b1 g_t4 (jG cs T_x.b16 hlt) (by have q := jE cs 0; show ((cs.take 0).flatMap jc).length + 1 ≤ 18; omega) S0 hz S4 hfm S_ad S_hi S_lo) hby d59_132 e105q pd_1069 0 (by rw [hml]; rfl) Eb4 rfl rfl rfl rfl (by decide) (by decide) fun _ T151 Lc151 X151 hQ151 => ?_
              obtain ⟨t151, rfl, N151q, K151q, o151t, B151q⟩ := hQ151
              have N151 := Fr.app N105 N151q
              have g_t151 : n0 ≤ t151 := o151t.elim (fun q => q ▸ g_t4) (fun q => nt Z5 q)
              have sz_t151 : h0.size ≤ t151 := o151t.elim (fun q => q ▸ sz_t4) (fun q => nt K5.1 q)
              have r152 : CHr Z jg s.vm T4.heap s.vm T151.heap := CHr.keep K151q (sfS (Safe.exa hZ.alike Eb4 (by decide) (by decide)) (sfS sfc4 sf0)) R5.1
              have R152 := R5.trans r152
              have Z152 := nt Z5 K151q.1
              have O152 := O5.keep K151q (allS g_b1 (allS g_t4 all0))
              have K152 := K5.trans K151q (allS (Or.inr sz_b1) (allS (Or.inr sz_t4) all0))
              have Bn151 : BG Z T151.heap b1 t151 ((cs.take 1).flatMap jc) := by rw [(show ((cs.take 1).flatMap jc) = ((cs.take 0).flatMap jc) ++ jc (cs.getD 0 0) from jv cs 0 hlt), own_escn hc115 hc133 hc142 hc106 hc124]; exact B151q
              have Et151 := Bn151.exat
              have Eb151 := Bn151.exa
              have sfc151 := Safe.keep K151q (sfS (Safe.exa hZ.alike Eb4 (by decide) (by decide)) (sfS sfc4 sf0)) R5.1 (o151t.elim (fun q => by rw [q]; exact sfc4) (fun q => Safe.new q))
              refine gsW (fun _ k => jR X151 hx hby d59_135 rfl (jm X151 hx hby d59_136 rfl rfl (jl (pc' := 14) X151 hx hby d59_139 k))) ?_
              have zs153 := nt E1.1 K4q.1
              have zs154 := nt zs153 K151q.1
              exact mid1 s.vm _ T151 T151.heap _ t151 (cs.getD 0 0) hS (nt hk zs154) hZ hown (X151.more (by decide) (by decide)) rfl N151 Z152 O152 K152 R152 g_t151 sz_t151 sfc151 Bn151
  · refine gsW (fun _ k => jh (pc' := 142) X103 hx hby d59_19 (flt hc104).2.1 (ja X103 hx hby d59_142 rfl rfl k)) ?_
    refine cVW (rest := []) X103 hx hZ hown (ow hw 157 rfl) (ow hw 158 rfl) (nfs hZ (ow hw 160 rfl)) (ow hw 160 rfl) (ow hw 159 rfl) (ow hw 47 rfl) (ow hw 161 rfl) (rm_ts l Z a0 hw [] b1 t4 ((cs.take 0).flatMap jc) z T4.heap n0 Z5 O5 Bz (by have q := jE cs 0; omega) S0 hz) hby d59_143 e103q pd_1029 0 (by rw [hml]; rfl) Eb4 rfl rfl rfl rfl (by decide) (by decide) fun _ T155 Lc155 X155 hQ155 => ?_
    obtain ⟨a155, rfl, N155q, K155q, T155q⟩ := hQ155
    have N155 := Fr.app N103 N155q
    have r156 : CHr Z jg s.vm T4.heap s.vm T155.heap := CHr.keep K155q sf0 R5.1
    have R156 := R5.trans r156
    have Z156 := nt Z5 K155q.1
    have O156 := O5.keep K155q all0
    have K156 := K5.trans K155q all0
    have hge : cs.length ≤ 0 := by have q := mt (jS (a := 0) (b := cs.length) (by omega) (by omega)).mpr hc104; omega
    have Tq := T155q
    rw [List.take_of_length_le hge] at Tq
    have zs157 := nt E1.1 K4q.1
    have zs158 := nt zs157 K155q.1
    refine goutW (v := some (.ref a155)) X155 hS (nt hk zs158) hZ (jp hw) hh rfl R156 Bd.notSynchronized (fun h => by rw [Bd.returns] at h; cases h) (by decide) (by decide) ?_ (fun fs hr => retOut X155 hx Bd.returns rfl (Or.inr (Or.inr (Or.inr (Or.inr ⟨rfl, rfl, rfl⟩)))) (hb hby d59_146) hr)
    exact ⟨_, rfl, N155, K156, Tq⟩
theorem ef_1072 (m : MethodId) (x0 : Addr) (x1 : Addr) (x2 : Addr) (x3 : Int32) : entryFrame m #[(.ref x0), (.ref x1), (.ref x2), (.int x3)] 5 = mkF m 0 #[.val (.ref x0), .val (.ref x1), .val (.ref x2), .val (.int x3), .unset] [] := by first | (simp [entryFrame, mkF, argsToLocals, Value.category]; done) | rfl
abbrev oc60 := method_6_code
theorem d60_0 : decode oc60 0 = .ok (.iload_n 3, 1) := by decide +kernel
theorem d60_1 : decode oc60 1 = .ok (.istore 4, 2) := by decide +kernel
theorem d60_3 : decode oc60 3 = .ok (.iload 4, 2) := by decide +kernel
theorem d60_5 : decode oc60 5 = .ok (.aload_n 0, 1) := by decide +kernel
theorem d60_6 : decode oc60 6 = .ok (.invokevirtual 30, 3) := by decide +kernel
theorem d60_9 : decode oc60 9 = .ok (.if_icmp .ge 10, 3) := by decide +kernel
theorem d60_12 : decode oc60 12 = .ok (.aload_n 0, 1) := by decide +kernel
theorem d60_13 : decode oc60 13 = .ok (.iload 4, 2) := by decide +kernel
theorem d60_15 : decode oc60 15 = .ok (.invokevirtual 51, 3) := by decide +kernel
theorem d60_18 : decode oc60 18 = .ok (.ireturn, 1) := by decide +kernel
theorem d60_19 : decode oc60 19 = .ok (.iload 4, 2) := by decide +kernel
theorem d60_21 : decode oc60 21 = .ok (.aload_n 0, 1) := by decide +kernel
theorem d60_22 : decode oc60 22 = .ok (.invokevirtual 30, 3) := by decide +kernel
theorem d60_25 : decode oc60 25 = .ok (.isub, 1) := by decide +kernel
theorem d60_26 : decode oc60 26 = .ok (.istore 4, 2) := by decide +kernel
theorem d60_28 : decode oc60 28 = .ok (.iload 4, 2) := by decide +kernel
theorem d60_30 : decode oc60 30 = .ok (.aload_n 1, 1) := by decide +kernel
theorem d60_31 : decode oc60 31 = .ok (.invokevirtual 30, 3) := by decide +kernel
theorem d60_34 : decode oc60 34 = .ok (.if_icmp .ge 10, 3) := by decide +kernel
theorem d60_37 : decode oc60 37 = .ok (.aload_n 1, 1) := by decide +kernel
theorem d60_38 : decode oc60 38 = .ok (.iload 4, 2) := by decide +kernel
theorem d60_40 : decode oc60 40 = .ok (.invokevirtual 51, 3) := by decide +kernel
theorem d60_43 : decode oc60 43 = .ok (.ireturn, 1) := by decide +kernel
theorem d60_44 : decode oc60 44 = .ok (.iload 4, 2) := by decide +kernel
theorem d60_46 : decode oc60 46 = .ok (.aload_n 1, 1) := by decide +kernel
theorem d60_47 : decode oc60 47 = .ok (.invokevirtual 30, 3) := by decide +kernel
theorem d60_50 : decode oc60 50 = .ok (.isub, 1) := by decide +kernel
theorem d60_51 : decode oc60 51 = .ok (.istore 4, 2) := by decide +kernel
theorem d60_53 : decode oc60 53 = .ok (.aload_n 2, 1) := by decide +kernel
theorem d60_54 : decode oc60 54 = .ok (.iload 4, 2) := by decide +kernel
theorem d60_56 : decode oc60 56 = .ok (.invokevirtual 51, 3) := by decide +kernel
theorem d60_59 : decode oc60 59 = .ok (.ireturn, 1) := by decide +kernel
theorem rm_exp (l : Launch) (Z : State) (a0 : Array Value) (hw : HW Z a0) (ws : List Jvm.Cond) (xa : Addr) (xb : Addr) (xc : Addr) (la : List Int32) (lb : List Int32) (lc : List Int32) (i : Nat) (z : Int32) (fm : Value) (h0 : Heap) (n0 : Nat) (Z0 : n0 ≤ h0.size) (O0 : Old Z n0 h0) (T_a : SG Z h0 xa la) (T_b : SG Z h0 xb lb) (T_c : SG Z h0 xc lc) (ha6 : la.length ≤ 6) (hb6 : lb.length ≤ 6) (hc6 : lc.length ≤ 6) (hi : i < la.length + lb.length + lc.length) (S0 : PS3 Z (.int z)) (hz : ¬ z = 0) (S4 : PS4 Z fm) (hfm : fm.isRef = true) (S_ad : PS0 Z (.int (1 : Int32))) (S_hi : PS1 Z (.int (0 : Int32))) (S_lo : PS2 Z (.int (8 : Int32))) :
    Ctr l Z (⟨"com/example/lushan/lushan/console/PageEscapePinLaw", "expected", "(Ljava/lang/String;Ljava/lang/String;Ljava/lang/String;I)C"⟩ : MethodName) method_6_code 5 ((Option.some Jvm.ClassFile.FieldType.char)) ws (⟨5, 0, 0, 66⟩ : Room) #[(.ref xa), (.ref xb), (.ref xc), (.int (oI i))] h0 (fun v h L => v = some (.int (((la ++ lb) ++ lc).getD i 0)) ∧ Fr n0 L ∧ h = h0) := by
  refine Ctr.go (plainFor_of_name pn_981) fun p e s m below meth c s₁ Bd hx hby hml hZ hown hnm X0 e0 => ?_
  have N0 := Fr.nil n0
  have K0 := Keep.refl h0 []
  refine gs (S' := s₁.setTop (mkF m 0 #[rv xa, rv xb, rv xc, iv (oI i), uu] [])) (fun tg kg => castTop (ef_1072 m xa xb xc (oI i)) kg) ?_
  refine gs (fun _ k => jb X0 hx hby d60_0 rfl (jj X0 hx hby d60_1 rfl (jd X0 hx hby d60_3 rfl (ja X0 hx hby d60_5 rfl rfl k)))) ?_
  refine cV (rest := [(.int (oI i))]) X0 hx hZ hown (ow hw 199 rfl) (ow hw 49 rfl) (nfs hZ (ow hw 51 rfl)) (ow hw 51 rfl) (ow hw 50 rfl) (ow hw 6 rfl) (ow hw 52 rfl) (rm_len l Z a0 hw [] xa la z h0 n0 Z0 O0 T_a (by omega) S0 hz) hby d60_6 e0 pd_573 1 (by rw [hml]; rfl) T_a.exa rfl rfl rfl rfl (by decide) (by decide) fun _ T1 Lc1 X1 hQ1 => ?_
  obtain ⟨rfl, N1q, e1q⟩ := hQ1
  have N1 := Fr.app N0 N1q
  by_cases hc2 : (oI i) < (oI la.length)
  · refine gs (fun _ k => ji X1 hx hby d60_9 (tlt hc2).2.1 (ja X1 hx hby d60_12 rfl rfl (jd X1 hx hby d60_13 rfl k))) ?_
    have hk1 : i < la.length := (jS (by omega) (by omega)).mp hc2
    refine cV (rest := []) X1 hx hZ hown (ow hw 203 rfl) (ow hw 74 rfl) (nfs hZ (ow hw 76 rfl)) (ow hw 76 rfl) (ow hw 75 rfl) (ow hw 6 rfl) (ow hw 77 rfl) (rm_ch l Z a0 hw [] xa la i z fm h0 n0 Z0 O0 T_a hk1 (by omega) S0 hz S4 hfm S_ad S_hi S_lo) hby d60_15 e1q pd_1034 0 (by rw [hml]; rfl) T_a.exa rfl rfl rfl rfl (by decide) (by decide) fun _ T3 Lc3 X3 hQ3 => ?_
    obtain ⟨rfl, N3q, e3q⟩ := hQ3
    have N3 := Fr.app N1 N3q
    refine gout (v := some (.int (nar .char (la.getD i 0)))) X3 Bd.notSynchronized (fun h => by rw [Bd.returns] at h; cases h) (by decide) (by decide) ?_ (fun fs hr => retN X3 hx (t := .char) Bd.returns (by simp) (hb hby d60_18) hr)
    rw [e3q]
    exact ⟨congrArg (fun q => some (Value.int q)) ((jJ (jG la T_a.b16 hk1)).trans (own_gl hk1)), N3, rfl⟩
  · refine gs (fun _ k => jh (pc' := 19) X1 hx hby d60_9 (flt hc2).2.1 (jd X1 hx hby d60_19 rfl (ja X1 hx hby d60_21 rfl rfl k))) ?_
    refine cV (rest := [(.int (oI i))]) X1 hx hZ hown (ow hw 199 rfl) (ow hw 49 rfl) (nfs hZ (ow hw 51 rfl)) (ow hw 51 rfl) (ow hw 50 rfl) (ow hw 6 rfl) (ow hw 52 rfl) (rm_len l Z a0 hw [] xa la z h0 n0 Z0 O0 T_a (by omega) S0 hz) hby d60_22 e1q pd_573 1 (by rw [hml]; rfl) T_a.exa rfl rfl rfl rfl (by decide) (by decide) fun _ T4 Lc4 X4 hQ4 => ?_
    obtain ⟨rfl, N4q, e4q⟩ := hQ4
    have N4 := Fr.app N1 N4q
    refine gs (fun _ k => jO X4 hx hby d60_25 k) ?_
    have hq1 : la.length ≤ i := by have q := mt (jS (a := i) (b := la.length) (by omega) (by omega)).mpr hc2; omega
    show OwnGo p e below s _ _ _ (T4.setTop (mkF m 26 #[rv xa, rv xb, rv xc, iv (oI i), iv (oI i)] [(.int ((oI i) - (oI la.length)))]))
    rw [own_sub32 hq1 (by omega)]
    refine gs (fun _ k => jj X4 hx hby d60_26 rfl (jd X4 hx hby d60_28 rfl (ja X4 hx hby d60_30 rfl rfl k))) ?_
    refine cV (rest := [(.int (oI (i - la.length)))]) X4 hx hZ hown (ow hw 199 rfl) (ow hw 49 rfl) (nfs hZ (ow hw 51 rfl)) (ow hw 51 rfl) (ow hw 50 rfl) (ow hw 6 rfl) (ow hw 52 rfl) (rm_len l Z a0 hw [] xb lb z h0 n0 Z0 O0 T_b (by omega) S0 hz) hby d60_31 e4q pd_573 1 (by rw [hml]; rfl) T_b.exa rfl rfl rfl rfl (by decide) (by decide) fun _ T5 Lc5 X5 hQ5 => ?_
    obtain ⟨rfl, N5q, e5q⟩ := hQ5
    have N5 := Fr.app N4 N5q
    by_cases hc6 : (oI (i - la.length)) < (oI lb.length)
    · refine gs (fun _ k => ji X5 hx hby d60_34 (tlt hc6).2.1 (ja X5 hx hby d60_37 rfl rfl (jd X5 hx hby d60_38 rfl k))) ?_
      have hk2 : i - la.length < lb.length := (jS (by omega) (by omega)).mp hc6
      refine cV (rest := []) X5 hx hZ hown (ow hw 203 rfl) (ow hw 74 rfl) (nfs hZ (ow hw 76 rfl)) (ow hw 76 rfl) (ow hw 75 rfl) (ow hw 6 rfl) (ow hw 77 rfl) (rm_ch l Z a0 hw [] xb lb (i - la.length) z fm h0 n0 Z0 O0 T_b hk2 (by omega) S0 hz S4 hfm S_ad S_hi S_lo) hby d60_40 e5q pd_1034 0 (by rw [hml]; rfl) T_b.exa rfl rfl rfl rfl (by decide) (by decide) fun _ T7 Lc7 X7 hQ7 => ?_
      obtain ⟨rfl, N7q, e7q⟩ := hQ7
      have N7 := Fr.app N5 N7q
      refine gout (v := some (.int (nar .char (lb.getD (i - la.length) 0)))) X7 Bd.notSynchronized (fun h => by rw [Bd.returns] at h; cases h) (by decide) (by decide) ?_ (fun fs hr => retN X7 hx (t := .char) Bd.returns (by simp) (hb hby d60_43) hr)
      rw [e7q]
      exact ⟨congrArg (fun q => some (Value.int q)) ((jJ (jG lb T_b.b16 hk2)).trans (own_gm hq1 hk2)), N7, rfl⟩
    · refine gs (fun _ k => jh (pc' := 44) X5 hx hby d60_34 (flt hc6).2.1 (jd X5 hx hby d60_44 rfl (ja X5 hx hby d60_46 rfl rfl k))) ?_
      refine cV (rest := [(.int (oI (i - la.length)))]) X5 hx hZ hown (ow hw 199 rfl) (ow hw 49 rfl) (nfs hZ (ow hw 51 rfl)) (ow hw 51 rfl) (ow hw 50 rfl) (ow hw 6 rfl) (ow hw 52 rfl) (rm_len l Z a0 hw [] xb lb z h0 n0 Z0 O0 T_b (by omega) S0 hz) hby d60_47 e5q pd_573 1 (by rw [hml]; rfl) T_b.exa rfl rfl rfl rfl (by decide) (by decide) fun _ T8 Lc8 X8 hQ8 => ?_
      obtain ⟨rfl, N8q, e8q⟩ := hQ8
      have N8 := Fr.app N5 N8q
      refine gs (fun _ k => jO X8 hx hby d60_50 k) ?_
      have hq2 : lb.length ≤ i - la.length := by have q := mt (jS (a := i - la.length) (b := lb.length) (by omega) (by omega)).mpr hc6; omega
      show OwnGo p e below s _ _ _ (T8.setTop (mkF m 51 #[rv xa, rv xb, rv xc, iv (oI i), iv ((oI (i - la.length)))] [(.int ((oI (i - la.length)) - (oI lb.length)))]))
      rw [own_sub32 hq2 (by omega)]
      refine gs (fun _ k => jj X8 hx hby d60_51 rfl (ja X8 hx hby d60_53 rfl rfl (jd X8 hx hby d60_54 rfl k))) ?_
      have hk3 : i - la.length - lb.length < lc.length := by omega
      refine cV (rest := []) X8 hx hZ hown (ow hw 203 rfl) (ow hw 74 rfl) (nfs hZ (ow hw 76 rfl)) (ow hw 76 rfl) (ow hw 75 rfl) (ow hw 6 rfl) (ow hw 77 rfl) (rm_ch l Z a0 hw [] xc lc (i - la.length - lb.length) z fm h0 n0 Z0 O0 T_c hk3 (by omega) S0 hz S4 hfm S_ad S_hi S_lo) hby d60_56 e8q pd_1034 0 (by rw [hml]; rfl) T_c.exa rfl rfl rfl rfl (by decide) (by decide) fun _ T9 Lc9 X9 hQ9 => ?_
      obtain ⟨rfl, N9q, e9q⟩ := hQ9
      have N9 := Fr.app N8 N9q
      refine gout (v := some (.int (nar .char (lc.getD (i - la.length - lb.length) 0)))) X9 Bd.notSynchronized (fun h => by rw [Bd.returns] at h; cases h) (by decide) (by decide) ?_ (fun fs hr => retN X9 hx (t := .char) Bd.returns (by simp) (hb hby d60_59) hr)
      rw [e9q]
      exact ⟨congrArg (fun q => some (Value.int q)) ((jJ (jG lc T_c.b16 hk3)).trans (own_gh hq1 hq2)), N9, rfl⟩
theorem ef_1106 (m : MethodId) (x0 : Addr) (x1 : Addr) (x2 : Addr) (x3 : Addr) (x4 : Int32) : entryFrame m #[(.ref x0), (.ref x1), (.ref x2), (.ref x3), (.int x4)] 5 = mkF m 0 #[.val (.ref x0), .val (.ref x1), .val (.ref x2), .val (.ref x3), .val (.int x4)] [] := by first | (simp [entryFrame, mkF, argsToLocals, Value.category]; done) | rfl
abbrev oc61 := method_5_code
theorem d61_0 : decode oc61 0 = .ok (.iload 4, 2) := by decide +kernel
theorem d61_2 : decode oc61 2 = .ok (.aload_n 0, 1) := by decide +kernel
theorem d61_3 : decode oc61 3 = .ok (.invokevirtual 30, 3) := by decide +kernel
theorem d61_6 : decode oc61 6 = .ok (.if_icmp .lt 5, 3) := by decide +kernel
theorem d61_11 : decode oc61 11 = .ok (.aload_n 0, 1) := by decide +kernel
theorem d61_12 : decode oc61 12 = .ok (.iload 4, 2) := by decide +kernel
theorem d61_14 : decode oc61 14 = .ok (.invokevirtual 51, 3) := by decide +kernel
theorem d61_17 : decode oc61 17 = .ok (.aload_n 1, 1) := by decide +kernel
theorem d61_18 : decode oc61 18 = .ok (.aload_n 2, 1) := by decide +kernel
theorem d61_19 : decode oc61 19 = .ok (.aload_n 3, 1) := by decide +kernel
theorem d61_20 : decode oc61 20 = .ok (.iload 4, 2) := by decide +kernel
theorem d61_22 : decode oc61 22 = .ok (.invokestatic 54, 3) := by decide +kernel
theorem pd_1120 : parseMethodDescriptor "(Ljava/lang/String;Ljava/lang/String;Ljava/lang/String;I)C" = some ⟨[(.object "java/lang/String"), (.object "java/lang/String"), (.object "java/lang/String"), .int], some .char⟩ := by decide +kernel
theorem d61_25 : decode oc61 25 = .ok (.if_icmp .ne 7, 3) := by decide +kernel
theorem d61_28 : decode oc61 28 = .ok (.iconst 1, 1) := by decide +kernel
theorem d61_29 : decode oc61 29 = .ok (.goto 4, 3) := by decide +kernel
theorem d61_33 : decode oc61 33 = .ok (.ireturn, 1) := by decide +kernel
theorem d61_9 : decode oc61 9 = .ok (.iconst 1, 1) := by decide +kernel
theorem d61_10 : decode oc61 10 = .ok (.ireturn, 1) := by decide +kernel
theorem rm_at (l : Launch) (Z : State) (a0 : Array Value) (hw : HW Z a0) (ws : List Jvm.Cond) (xr : Addr) (xa : Addr) (xb : Addr) (xc : Addr) (la : List Int32) (lb : List Int32) (lc : List Int32) (i : Nat) (z : Int32) (fm : Value) (h0 : Heap) (n0 : Nat) (Z0 : n0 ≤ h0.size) (O0 : Old Z n0 h0) (T_r : SG Z h0 xr ((la ++ lb) ++ lc)) (T_a : SG Z h0 xa la) (T_b : SG Z h0 xb lb) (T_c : SG Z h0 xc lc) (ha6 : la.length ≤ 6) (hb6 : lb.length ≤ 6) (hc6 : lc.length ≤ 6) (hi17 : i ≤ 17) (S0 : PS3 Z (.int z)) (hz : ¬ z = 0) (S4 : PS4 Z fm) (hfm : fm.isRef = true) (S_ad : PS0 Z (.int (1 : Int32))) (S_hi : PS1 Z (.int (0 : Int32))) (S_lo : PS2 Z (.int (8 : Int32))) :
    Ctr l Z (⟨"com/example/lushan/lushan/console/PageEscapePinLaw", "at", "(Ljava/lang/String;Ljava/lang/String;Ljava/lang/String;Ljava/lang/String;I)Z"⟩ : MethodName) method_5_code 5 ((Option.some Jvm.ClassFile.FieldType.boolean)) ws (⟨6, 0, 0, 83⟩ : Room) #[(.ref xr), (.ref xa), (.ref xb), (.ref xc), (.int (oI i))] h0 (fun v h L => v = some (.int (1 : Int32)) ∧ Fr n0 L ∧ h = h0) := by
  refine Ctr.go (plainFor_of_name pn_981) fun p e s m below meth c s₁ Bd hx hby hml hZ hown hnm X0 e0 => ?_
  have N0 := Fr.nil n0
  have K0 := Keep.refl h0 []
  refine gs (S' := s₁.setTop (mkF m 0 #[rv xr, rv xa, rv xb, rv xc, iv (oI i)] [])) (fun tg kg => castTop (ef_1106 m xr xa xb xc (oI i)) kg) ?_
  have hal : ((la ++ lb) ++ lc).length = la.length + lb.length + lc.length := by rw [List.length_append, List.length_append]
  refine gs (fun _ k => jd X0 hx hby d61_0 rfl (ja X0 hx hby d61_2 rfl rfl k)) ?_
  refine cV (rest := [(.int (oI i))]) X0 hx hZ hown (ow hw 199 rfl) (ow hw 49 rfl) (nfs hZ (ow hw 51 rfl)) (ow hw 51 rfl) (ow hw 50 rfl) (ow hw 6 rfl) (ow hw 52 rfl) (rm_len l Z a0 hw [] xr ((la ++ lb) ++ lc) z h0 n0 Z0 O0 T_r (by omega) S0 hz) hby d61_3 e0 pd_573 1 (by rw [hml]; rfl) T_r.exa rfl rfl rfl rfl (by decide) (by decide) fun _ T1 Lc1 X1 hQ1 => ?_
  obtain ⟨rfl, N1q, e1q⟩ := hQ1
  have N1 := Fr.app N0 N1q
  by_cases hc2 : (oI i) < (oI ((la ++ lb) ++ lc).length)
  · refine gs (fun _ k => jh (pc' := 11) X1 hx hby d61_6 (tlt hc2).1 (ja X1 hx hby d61_11 rfl rfl (jd X1 hx hby d61_12 rfl k))) ?_
    have hi : i < ((la ++ lb) ++ lc).length := (jS (by omega) (by omega)).mp hc2
    refine cV (rest := []) X1 hx hZ hown (ow hw 203 rfl) (ow hw 74 rfl) (nfs hZ (ow hw 76 rfl)) (ow hw 76 rfl) (ow hw 75 rfl) (ow hw 6 rfl) (ow hw 77 rfl) (rm_ch l Z a0 hw [] xr ((la ++ lb) ++ lc) i z fm h0 n0 Z0 O0 T_r hi (by omega) S0 hz S4 hfm S_ad S_hi S_lo) hby d61_14 e1q pd_1034 0 (by rw [hml]; rfl) T_r.exa rfl rfl rfl rfl (by decide) (by decide) fun _ T3 Lc3 X3 hQ3 => ?_
    obtain ⟨rfl, N3q, e3q⟩ := hQ3
    have N3 := Fr.app N1 N3q
    refine gs (fun _ k => ja X3 hx hby d61_17 rfl rfl (ja X3 hx hby d61_18 rfl rfl (ja X3 hx hby d61_19 rfl rfl (jd X3 hx hby d61_20 rfl k)))) ?_
    refine cS (rest := [(.int (((la ++ lb) ++ lc).getD i 0))]) X3 hx hZ hown (ow hw 204 rfl) (ow hw 205 rfl) (ow hw 2 rfl) (ow hw 206 rfl) (rm_exp l Z a0 hw [] xa xb xc la lb lc i z fm h0 n0 Z0 O0 T_a T_b T_c ha6 hb6 hc6 (by omega) S0 hz S4 hfm S_ad S_hi S_lo) hby d61_22 e3q pd_1120 1 (by rw [hml]; rfl) rfl rfl rfl rfl (by decide) (by decide) fun _ T4 Lc4 X4 hQ4 => ?_
    obtain ⟨rfl, N4q, e4q⟩ := hQ4
    have N4 := Fr.app N3 N4q
    refine gs (fun _ k => ji X4 hx hby d61_25 (teq (rfl : (((la ++ lb) ++ lc).getD i 0) = (((la ++ lb) ++ lc).getD i 0))).2 (je (v := (1 : Int32)) X4 hx hby d61_28 (jl (pc' := 33) X4 hx hby d61_29 k))) ?_
    refine gout (v := some (.int (1 : Int32))) X4 Bd.notSynchronized (fun h => by rw [Bd.returns] at h; cases h) (by decide) (by decide) ?_ (fun fs hr => retN X4 hx (t := .boolean) Bd.returns (by simp) (hb hby d61_33) hr)
    rw [e4q]
    exact ⟨rfl, N4, rfl⟩
  · refine gs (fun _ k => ji X1 hx hby d61_6 (flt hc2).1 (je (v := (1 : Int32)) X1 hx hby d61_9 k)) ?_
    refine gout (v := some (.int (1 : Int32))) X1 Bd.notSynchronized (fun h => by rw [Bd.returns] at h; cases h) (by decide) (by decide) ?_ (fun fs hr => retN X1 hx (t := .boolean) Bd.returns (by simp) (hb hby d61_10) hr)
    rw [e1q]
    exact ⟨rfl, N1, rfl⟩
theorem ef_1127 (m : MethodId) (x0 : Int32) (x1 : Int32) (x2 : Int32) (x3 : Int32) : entryFrame m #[(.int x0), (.int x1), (.int x2), (.int x3)] maxLocals = mkF m 0 #[.val (.int x0), .val (.int x1), .val (.int x2), .val (.int x3), .unset, .unset, .unset, .unset, .unset, .unset, .unset, .unset, .unset, .unset] [] := by first | (simp [entryFrame, mkF, argsToLocals, Value.category, maxLocals]; done) | rfl
theorem pd_1128 : parseMethodDescriptor "(Ljava/lang/String;Ljava/lang/String;Ljava/lang/String;Ljava/lang/String;I)Z" = some ⟨[(.object "java/lang/String"), (.object "java/lang/String"), (.object "java/lang/String"), (.object "java/lang/String"), .int], some .boolean⟩ := by decide +kernel
theorem pd_1129 : parseMethodDescriptor "([C)V" = some ⟨[(.array .char)], none⟩ := by decide +kernel
theorem pd_1130 : parseMethodDescriptor "(Ljava/lang/String;)Ljava/lang/String;" = some ⟨[(.object "java/lang/String")], some (.object "java/lang/String")⟩ := by decide +kernel
theorem rm_law (l : Launch) (Z : State) (a0 : Array Value) (hw : HW Z a0) (ws : List Jvm.Cond) (i0 : Int32) (i1 : Int32) (i2 : Int32) (i3 : Int32) (z : Int32) (fm : Value) (h0 : Heap) (n0 : Nat) (Z0 : n0 ≤ h0.size) (O0 : Old Z n0 h0) (S0 : PS3 Z (.int z)) (hz : ¬ z = 0) (S4 : PS4 Z fm) (hfm : fm.isRef = true) (S_ad : PS0 Z (.int (1 : Int32))) (S_hi : PS1 Z (.int (0 : Int32))) (S_lo : PS2 Z (.int (8 : Int32))) :
    CtrW l Z jg x code maxLocals ret ws room_1 #[(.int i0), (.int i1), (.int i2), (.int i3)] h0 (fun v h L => v = some (.int 1) ∧ Fr n0 L) := by
  refine CtrW.of (MetFree.of_bodySF (plainFor_of_name pn_981) hisR ?_)
  intro p e s m args below meth c s₁ Bd hml0 hP hK
  obtain ⟨rfl, hZ0, hh, hC⟩ := hP
  have hx := Bd.exec
  have hby := Bd.bytes
  have hml : c.maxLocals = 14 := hml0
  have hZ : Z.Warmed39 (s.setVm s.vm).vm := hZ0
  have hown : (s.setVm s.vm).vm.findClass "com/example/lushan/lushan/console/PageEscapePinLaw" = some m.cls := findClass_of_methodNamed Bd.named
  have hnm := (name_of_methodNamed Bd.named Bd.method).1
  have X0 : Stand p l e room_1 (s.setVm s.vm) m #[(.int i0), (.int i1), (.int i2), (.int i3)] below meth c s₁ [] 0 0 := Stand.of_body Bd
  have e0 : s₁.heap = h0 := by rw [← hh, Bd.state]; rfl
  have N0 := Fr.nil n0
  have K0 : Keep h0 h0 [] := Keep.refl h0 []
  have hS : s.Since s.vm 0 := (State.WarmedH.refl s).since 0
  have hk : 0 ≤ h0.size := Nat.zero_le _
  have R0 : CHr Z jg s.vm h0 s.vm h0 := CHr.refl hC
  show OwnGoW p e below s Z jg (fun v h L => v = some (.int 1) ∧ Fr n0 L) room_1.cells room_1.slots _
  refine gsW (S' := s₁.setTop (mkF m 0 #[iv i0, iv i1, iv i2, iv i3, uu, uu, uu, uu, uu, uu, uu, uu, uu, uu] [])) (fun tg kg => castTop (ef_1127 m i0 i1 i2 i3) kg) ?_
  refine gsW (fun _ k => jb X0 hx hby at_0 rfl (je (v := (3 : Int32)) X0 hx hby at_1 (o_iand X0 hx hby at_2 (jj X0 hx hby at_3 rfl (jb X0 hx hby at_5 rfl k))))) ?_
  refine cSW (rest := []) X0 hx hZ hown (ow hw 0 rfl) (ow hw 1 rfl) (ow hw 2 rfl) (ow hw 3 rfl) (rm_draw l Z a0 hw [] i0 h0 n0 Z0 O0 ) hby at_6 e0 pd_1034 0 (by rw [hml]; rfl) rfl rfl rfl rfl (by decide) (by decide) fun _ T1 Lc1 X1 hQ1 => ?_
  obtain ⟨d1, rfl, u1b, N1q, e1q⟩ := hQ1
  have N1 := Fr.app N0 N1q
  refine gsW (fun _ k => jj X1 hx hby at_9 rfl (jb X1 hx hby at_11 rfl k)) ?_
  refine cSW (rest := []) X1 hx hZ hown (ow hw 0 rfl) (ow hw 1 rfl) (ow hw 2 rfl) (ow hw 3 rfl) (rm_draw l Z a0 hw [] i1 h0 n0 Z0 O0 ) hby at_12 e1q pd_1034 0 (by rw [hml]; rfl) rfl rfl rfl rfl (by decide) (by decide) fun _ T2 Lc2 X2 hQ2 => ?_
  obtain ⟨d2, rfl, u2b, N2q, e2q⟩ := hQ2
  have N2 := Fr.app N1 N2q
  refine gsW (fun _ k => jj X2 hx hby at_15 rfl (jb X2 hx hby at_17 rfl k)) ?_
  refine cSW (rest := []) X2 hx hZ hown (ow hw 0 rfl) (ow hw 1 rfl) (ow hw 2 rfl) (ow hw 3 rfl) (rm_draw l Z a0 hw [] i2 h0 n0 Z0 O0 ) hby at_18 e2q pd_1034 0 (by rw [hml]; rfl) rfl rfl rfl rfl (by decide) (by decide) fun _ T3 Lc3 X3 hQ3 => ?_
  obtain ⟨d3, rfl, u3b, N3q, e3q⟩ := hQ3
  have N3 := Fr.app N2 N3q
  refine gsW (fun _ k => jj X3 hx hby at_21 rfl k) ?_
  have mid : ∀ (vmj : Vm) (kj : Nat) (Tj : State) (hj : Heap) (lj : List Loc) (nj tj : Int32) (xt xa xb xc xr : Addr) (la lb lc : List Int32), s.Since vmj kj → kj ≤ hj.size → Z.Warmed39 (s.setVm vmj).vm → (s.setVm vmj).vm.findClass "com/example/lushan/lushan/console/PageEscapePinLaw" = some m.cls → Stand p l e room_1 (s.setVm vmj) m #[(.int i0), (.int i1), (.int i2), (.int i3)] below meth c Tj lj 50 6000 → Tj.heap = hj → Fr n0 lj → n0 ≤ hj.size → Old Z n0 hj → Keep h0 hj [] → CHr Z jg s.vm h0 vmj hj → SG Z hj xr ((la ++ lb) ++ lc) → SG Z hj xa la → SG Z hj xb lb → SG Z hj xc lc → la.length ≤ 6 → lb.length ≤ 6 → lc.length ≤ 6 → OwnGoW p e below s Z jg (fun v h L => v = some (.int 1) ∧ Fr n0 L) room_1.cells room_1.slots (Tj.setTop (mkF m 219 #[iv i0, iv i1, iv i2, iv i3, iv nj, iv d1, iv d2, iv d3, rv xt, rv xa, rv xb, rv xc, rv xr, iv tj] [])) := by
    intro vmj kj Tj hj lj nj tj xt xa xb xc xr la lb lc hS hkj hZ hown Xj ej Nj Zj Oj Kj Rj Tr Ta Tb Tc l6a l6b l6c
    refine gsW (fun _ k => jf Xj hx hby at_219 rfl rfl (jf Xj hx hby at_221 rfl rfl (jf Xj hx hby at_223 rfl rfl (jf Xj hx hby at_225 rfl rfl (je (v := (0 : Int32)) Xj hx hby at_227 k))))) ?_
    refine cSW (rest := []) Xj hx hZ hown (ow hw 200 rfl) (ow hw 201 rfl) (ow hw 2 rfl) (ow hw 202 rfl) (rm_at l Z a0 hw [] xr xa xb xc la lb lc 0 z fm hj n0 Zj Oj Tr Ta Tb Tc l6a l6b l6c (by decide) S0 hz S4 hfm S_ad S_hi S_lo) hby at_228 ej pd_1128 0 (by rw [hml]; rfl) rfl rfl rfl rfl (by decide) (by decide) fun _ T4 Lc4 X4 hQ4 => ?_
    obtain ⟨rfl, N4q, e4q⟩ := hQ4
    have N4 := Fr.app Nj N4q
    refine gsW (fun _ k => jn X4 hx hby at_231 ((if0 _ _).trans (feq (by decide : ¬ ((1 : Int32) = (0 : Int32)))).1) (jf X4 hx hby at_234 rfl rfl (jf X4 hx hby at_236 rfl rfl (jf X4 hx hby at_238 rfl rfl (jf X4 hx hby at_240 rfl rfl (je (v := (1 : Int32)) X4 hx hby at_242 k)))))) ?_
    refine cSW (rest := []) X4 hx hZ hown (ow hw 200 rfl) (ow hw 201 rfl) (ow hw 2 rfl) (ow hw 202 rfl) (rm_at l Z a0 hw [] xr xa xb xc la lb lc 1 z fm hj n0 Zj Oj Tr Ta Tb Tc l6a l6b l6c (by decide) S0 hz S4 hfm S_ad S_hi S_lo) hby at_243 e4q pd_1128 0 (by rw [hml]; rfl) rfl rfl rfl rfl (by decide) (by decide) fun _ T5 Lc5 X5 hQ5 => ?_
    obtain ⟨rfl, N5q, e5q⟩ := hQ5
    have N5 := Fr.app N4 N5q
    refine gsW (fun _ k => jn X5 hx hby at_246 ((if0 _ _).trans (feq (by decide : ¬ ((1 : Int32) = (0 : Int32)))).1) (jf X5 hx hby at_249 rfl rfl (jf X5 hx hby at_251 rfl rfl (jf X5 hx hby at_253 rfl rfl (jf X5 hx hby at_255 rfl rfl (je (v := (2 : Int32)) X5 hx hby at_257 k)))))) ?_
    refine cSW (rest := []) X5 hx hZ hown (ow hw 200 rfl) (ow hw 201 rfl) (ow hw 2 rfl) (ow hw 202 rfl) (rm_at l Z a0 hw [] xr xa xb xc la lb lc 2 z fm hj n0 Zj Oj Tr Ta Tb Tc l6a l6b l6c (by decide) S0 hz S4 hfm S_ad S_hi S_lo) hby at_258 e5q pd_1128 0 (by rw [hml]; rfl) rfl rfl rfl rfl (by decide) (by decide) fun _ T6 Lc6 X6 hQ6 => ?_
    obtain ⟨rfl, N6q, e6q⟩ := hQ6
    have N6 := Fr.app N5 N6q
    refine gsW (fun _ k => jn X6 hx hby at_261 ((if0 _ _).trans (feq (by decide : ¬ ((1 : Int32) = (0 : Int32)))).1) (jf X6 hx hby at_264 rfl rfl (jf X6 hx hby at_266 rfl rfl (jf X6 hx hby at_268 rfl rfl (jf X6 hx hby at_270 rfl rfl (je (v := (3 : Int32)) X6 hx hby at_272 k)))))) ?_
    refine cSW (rest := []) X6 hx hZ hown (ow hw 200 rfl) (ow hw 201 rfl) (ow hw 2 rfl) (ow hw 202 rfl) (rm_at l Z a0 hw [] xr xa xb xc la lb lc 3 z fm hj n0 Zj Oj Tr Ta Tb Tc l6a l6b l6c (by decide) S0 hz S4 hfm S_ad S_hi S_lo) hby at_273 e6q pd_1128 0 (by rw [hml]; rfl) rfl rfl rfl rfl (by decide) (by decide) fun _ T7 Lc7 X7 hQ7 => ?_
    obtain ⟨rfl, N7q, e7q⟩ := hQ7
    have N7 := Fr.app N6 N7q
    refine gsW (fun _ k => jn X7 hx hby at_276 ((if0 _ _).trans (feq (by decide : ¬ ((1 : Int32) = (0 : Int32)))).1) (jf X7 hx hby at_279 rfl rfl (jf X7 hx hby at_281 rfl rfl (jf X7 hx hby at_283 rfl rfl (jf X7 hx hby at_285 rfl rfl (je (v := (4 : Int32)) X7 hx hby at_287 k)))))) ?_
    refine cSW (rest := []) X7 hx hZ hown (ow hw 200 rfl) (ow hw 201 rfl) (ow hw 2 rfl) (ow hw 202 rfl) (rm_at l Z a0 hw [] xr xa xb xc la lb lc 4 z fm hj n0 Zj Oj Tr Ta Tb Tc l6a l6b l6c (by decide) S0 hz S4 hfm S_ad S_hi S_lo) hby at_288 e7q pd_1128 0 (by rw [hml]; rfl) rfl rfl rfl rfl (by decide) (by decide) fun _ T8 Lc8 X8 hQ8 => ?_
    obtain ⟨rfl, N8q, e8q⟩ := hQ8
    have N8 := Fr.app N7 N8q
    refine gsW (fun _ k => jn X8 hx hby at_291 ((if0 _ _).trans (feq (by decide : ¬ ((1 : Int32) = (0 : Int32)))).1) (jf X8 hx hby at_294 rfl rfl (jf X8 hx hby at_296 rfl rfl (jf X8 hx hby at_298 rfl rfl (jf X8 hx hby at_300 rfl rfl (je (v := (5 : Int32)) X8 hx hby at_302 k)))))) ?_
    refine cSW (rest := []) X8 hx hZ hown (ow hw 200 rfl) (ow hw 201 rfl) (ow hw 2 rfl) (ow hw 202 rfl) (rm_at l Z a0 hw [] xr xa xb xc la lb lc 5 z fm hj n0 Zj Oj Tr Ta Tb Tc l6a l6b l6c (by decide) S0 hz S4 hfm S_ad S_hi S_lo) hby at_303 e8q pd_1128 0 (by rw [hml]; rfl) rfl rfl rfl rfl (by decide) (by decide) fun _ T9 Lc9 X9 hQ9 => ?_
    obtain ⟨rfl, N9q, e9q⟩ := hQ9
    have N9 := Fr.app N8 N9q
    refine gsW (fun _ k => jn X9 hx hby at_306 ((if0 _ _).trans (feq (by decide : ¬ ((1 : Int32) = (0 : Int32)))).1) (jf X9 hx hby at_309 rfl rfl (jf X9 hx hby at_311 rfl rfl (jf X9 hx hby at_313 rfl rfl (jf X9 hx hby at_315 rfl rfl (jr (v := (6 : Int32)) X9 hx hby at_317 k)))))) ?_
    refine cSW (rest := []) X9 hx hZ hown (ow hw 200 rfl) (ow hw 201 rfl) (ow hw 2 rfl) (ow hw 202 rfl) (rm_at l Z a0 hw [] xr xa xb xc la lb lc 6 z fm hj n0 Zj Oj Tr Ta Tb Tc l6a l6b l6c (by decide) S0 hz S4 hfm S_ad S_hi S_lo) hby at_319 e9q pd_1128 0 (by rw [hml]; rfl) rfl rfl rfl rfl (by decide) (by decide) fun _ T10 Lc10 X10 hQ10 => ?_
    obtain ⟨rfl, N10q, e10q⟩ := hQ10
    have N10 := Fr.app N9 N10q
    refine gsW (fun _ k => jn X10 hx hby at_322 ((if0 _ _).trans (feq (by decide : ¬ ((1 : Int32) = (0 : Int32)))).1) (jf X10 hx hby at_325 rfl rfl (jf X10 hx hby at_327 rfl rfl (jf X10 hx hby at_329 rfl rfl (jf X10 hx hby at_331 rfl rfl (jr (v := (7 : Int32)) X10 hx hby at_333 k)))))) ?_
    refine cSW (rest := []) X10 hx hZ hown (ow hw 200 rfl) (ow hw 201 rfl) (ow hw 2 rfl) (ow hw 202 rfl) (rm_at l Z a0 hw [] xr xa xb xc la lb lc 7 z fm hj n0 Zj Oj Tr Ta Tb Tc l6a l6b l6c (by decide) S0 hz S4 hfm S_ad S_hi S_lo) hby at_335 e10q pd_1128 0 (by rw [hml]; rfl) rfl rfl rfl rfl (by decide) (by decide) fun _ T11 Lc11 X11 hQ11 => ?_
    obtain ⟨rfl, N11q, e11q⟩ := hQ11
    have N11 := Fr.app N10 N11q
    refine gsW (fun _ k => jn X11 hx hby at_338 ((if0 _ _).trans (feq (by decide : ¬ ((1 : Int32) = (0 : Int32)))).1) (jf X11 hx hby at_341 rfl rfl (jf X11 hx hby at_343 rfl rfl (jf X11 hx hby at_345 rfl rfl (jf X11 hx hby at_347 rfl rfl (jr (v := (8 : Int32)) X11 hx hby at_349 k)))))) ?_
    refine cSW (rest := []) X11 hx hZ hown (ow hw 200 rfl) (ow hw 201 rfl) (ow hw 2 rfl) (ow hw 202 rfl) (rm_at l Z a0 hw [] xr xa xb xc la lb lc 8 z fm hj n0 Zj Oj Tr Ta Tb Tc l6a l6b l6c (by decide) S0 hz S4 hfm S_ad S_hi S_lo) hby at_351 e11q pd_1128 0 (by rw [hml]; rfl) rfl rfl rfl rfl (by decide) (by decide) fun _ T12 Lc12 X12 hQ12 => ?_
    obtain ⟨rfl, N12q, e12q⟩ := hQ12
    have N12 := Fr.app N11 N12q
    refine gsW (fun _ k => jn X12 hx hby at_354 ((if0 _ _).trans (feq (by decide : ¬ ((1 : Int32) = (0 : Int32)))).1) (jf X12 hx hby at_357 rfl rfl (jf X12 hx hby at_359 rfl rfl (jf X12 hx hby at_361 rfl rfl (jf X12 hx hby at_363 rfl rfl (jr (v := (9 : Int32)) X12 hx hby at_365 k)))))) ?_
    refine cSW (rest := []) X12 hx hZ hown (ow hw 200 rfl) (ow hw 201 rfl) (ow hw 2 rfl) (ow hw 202 rfl) (rm_at l Z a0 hw [] xr xa xb xc la lb lc 9 z fm hj n0 Zj Oj Tr Ta Tb Tc l6a l6b l6c (by decide) S0 hz S4 hfm S_ad S_hi S_lo) hby at_367 e12q pd_1128 0 (by rw [hml]; rfl) rfl rfl rfl rfl (by decide) (by decide) fun _ T13 Lc13 X13 hQ13 => ?_
    obtain ⟨rfl, N13q, e13q⟩ := hQ13
    have N13 := Fr.app N12 N13q
    refine gsW (fun _ k => jn X13 hx hby at_370 ((if0 _ _).trans (feq (by decide : ¬ ((1 : Int32) = (0 : Int32)))).1) (jf X13 hx hby at_373 rfl rfl (jf X13 hx hby at_375 rfl rfl (jf X13 hx hby at_377 rfl rfl (jf X13 hx hby at_379 rfl rfl (jr (v := (10 : Int32)) X13 hx hby at_381 k)))))) ?_
    refine cSW (rest := []) X13 hx hZ hown (ow hw 200 rfl) (ow hw 201 rfl) (ow hw 2 rfl) (ow hw 202 rfl) (rm_at l Z a0 hw [] xr xa xb xc la lb lc 10 z fm hj n0 Zj Oj Tr Ta Tb Tc l6a l6b l6c (by decide) S0 hz S4 hfm S_ad S_hi S_lo) hby at_383 e13q pd_1128 0 (by rw [hml]; rfl) rfl rfl rfl rfl (by decide) (by decide) fun _ T14 Lc14 X14 hQ14 => ?_
    obtain ⟨rfl, N14q, e14q⟩ := hQ14
    have N14 := Fr.app N13 N14q
    refine gsW (fun _ k => jn X14 hx hby at_386 ((if0 _ _).trans (feq (by decide : ¬ ((1 : Int32) = (0 : Int32)))).1) (jf X14 hx hby at_389 rfl rfl (jf X14 hx hby at_391 rfl rfl (jf X14 hx hby at_393 rfl rfl (jf X14 hx hby at_395 rfl rfl (jr (v := (11 : Int32)) X14 hx hby at_397 k)))))) ?_
    refine cSW (rest := []) X14 hx hZ hown (ow hw 200 rfl) (ow hw 201 rfl) (ow hw 2 rfl) (ow hw 202 rfl) (rm_at l Z a0 hw [] xr xa xb xc la lb lc 11 z fm hj n0 Zj Oj Tr Ta Tb Tc l6a l6b l6c (by decide) S0 hz S4 hfm S_ad S_hi S_lo) hby at_399 e14q pd_1128 0 (by rw [hml]; rfl) rfl rfl rfl rfl (by decide) (by decide) fun _ T15 Lc15 X15 hQ15 => ?_
    obtain ⟨rfl, N15q, e15q⟩ := hQ15
    have N15 := Fr.app N14 N15q
    refine gsW (fun _ k => jn X15 hx hby at_402 ((if0 _ _).trans (feq (by decide : ¬ ((1 : Int32) = (0 : Int32)))).1) (jf X15 hx hby at_405 rfl rfl (jf X15 hx hby at_407 rfl rfl (jf X15 hx hby at_409 rfl rfl (jf X15 hx hby at_411 rfl rfl (jr (v := (12 : Int32)) X15 hx hby at_413 k)))))) ?_
    refine cSW (rest := []) X15 hx hZ hown (ow hw 200 rfl) (ow hw 201 rfl) (ow hw 2 rfl) (ow hw 202 rfl) (rm_at l Z a0 hw [] xr xa xb xc la lb lc 12 z fm hj n0 Zj Oj Tr Ta Tb Tc l6a l6b l6c (by decide) S0 hz S4 hfm S_ad S_hi S_lo) hby at_415 e15q pd_1128 0 (by rw [hml]; rfl) rfl rfl rfl rfl (by decide) (by decide) fun _ T16 Lc16 X16 hQ16 => ?_
    obtain ⟨rfl, N16q, e16q⟩ := hQ16
    have N16 := Fr.app N15 N16q
    refine gsW (fun _ k => jn X16 hx hby at_418 ((if0 _ _).trans (feq (by decide : ¬ ((1 : Int32) = (0 : Int32)))).1) (jf X16 hx hby at_421 rfl rfl (jf X16 hx hby at_423 rfl rfl (jf X16 hx hby at_425 rfl rfl (jf X16 hx hby at_427 rfl rfl (jr (v := (13 : Int32)) X16 hx hby at_429 k)))))) ?_
    refine cSW (rest := []) X16 hx hZ hown (ow hw 200 rfl) (ow hw 201 rfl) (ow hw 2 rfl) (ow hw 202 rfl) (rm_at l Z a0 hw [] xr xa xb xc la lb lc 13 z fm hj n0 Zj Oj Tr Ta Tb Tc l6a l6b l6c (by decide) S0 hz S4 hfm S_ad S_hi S_lo) hby at_431 e16q pd_1128 0 (by rw [hml]; rfl) rfl rfl rfl rfl (by decide) (by decide) fun _ T17 Lc17 X17 hQ17 => ?_
    obtain ⟨rfl, N17q, e17q⟩ := hQ17
    have N17 := Fr.app N16 N17q
    refine gsW (fun _ k => jn X17 hx hby at_434 ((if0 _ _).trans (feq (by decide : ¬ ((1 : Int32) = (0 : Int32)))).1) (jf X17 hx hby at_437 rfl rfl (jf X17 hx hby at_439 rfl rfl (jf X17 hx hby at_441 rfl rfl (jf X17 hx hby at_443 rfl rfl (jr (v := (14 : Int32)) X17 hx hby at_445 k)))))) ?_
    refine cSW (rest := []) X17 hx hZ hown (ow hw 200 rfl) (ow hw 201 rfl) (ow hw 2 rfl) (ow hw 202 rfl) (rm_at l Z a0 hw [] xr xa xb xc la lb lc 14 z fm hj n0 Zj Oj Tr Ta Tb Tc l6a l6b l6c (by decide) S0 hz S4 hfm S_ad S_hi S_lo) hby at_447 e17q pd_1128 0 (by rw [hml]; rfl) rfl rfl rfl rfl (by decide) (by decide) fun _ T18 Lc18 X18 hQ18 => ?_
    obtain ⟨rfl, N18q, e18q⟩ := hQ18
    have N18 := Fr.app N17 N18q
    refine gsW (fun _ k => jn X18 hx hby at_450 ((if0 _ _).trans (feq (by decide : ¬ ((1 : Int32) = (0 : Int32)))).1) (jf X18 hx hby at_453 rfl rfl (jf X18 hx hby at_455 rfl rfl (jf X18 hx hby at_457 rfl rfl (jf X18 hx hby at_459 rfl rfl (jr (v := (15 : Int32)) X18 hx hby at_461 k)))))) ?_
    refine cSW (rest := []) X18 hx hZ hown (ow hw 200 rfl) (ow hw 201 rfl) (ow hw 2 rfl) (ow hw 202 rfl) (rm_at l Z a0 hw [] xr xa xb xc la lb lc 15 z fm hj n0 Zj Oj Tr Ta Tb Tc l6a l6b l6c (by decide) S0 hz S4 hfm S_ad S_hi S_lo) hby at_463 e18q pd_1128 0 (by rw [hml]; rfl) rfl rfl rfl rfl (by decide) (by decide) fun _ T19 Lc19 X19 hQ19 => ?_
    obtain ⟨rfl, N19q, e19q⟩ := hQ19
    have N19 := Fr.app N18 N19q
    refine gsW (fun _ k => jn X19 hx hby at_466 ((if0 _ _).trans (feq (by decide : ¬ ((1 : Int32) = (0 : Int32)))).1) (jf X19 hx hby at_469 rfl rfl (jf X19 hx hby at_471 rfl rfl (jf X19 hx hby at_473 rfl rfl (jf X19 hx hby at_475 rfl rfl (jr (v := (16 : Int32)) X19 hx hby at_477 k)))))) ?_
    refine cSW (rest := []) X19 hx hZ hown (ow hw 200 rfl) (ow hw 201 rfl) (ow hw 2 rfl) (ow hw 202 rfl) (rm_at l Z a0 hw [] xr xa xb xc la lb lc 16 z fm hj n0 Zj Oj Tr Ta Tb Tc l6a l6b l6c (by decide) S0 hz S4 hfm S_ad S_hi S_lo) hby at_479 e19q pd_1128 0 (by rw [hml]; rfl) rfl rfl rfl rfl (by decide) (by decide) fun _ T20 Lc20 X20 hQ20 => ?_
    obtain ⟨rfl, N20q, e20q⟩ := hQ20
    have N20 := Fr.app N19 N20q
    refine gsW (fun _ k => jn X20 hx hby at_482 ((if0 _ _).trans (feq (by decide : ¬ ((1 : Int32) = (0 : Int32)))).1) (jf X20 hx hby at_485 rfl rfl (jf X20 hx hby at_487 rfl rfl (jf X20 hx hby at_489 rfl rfl (jf X20 hx hby at_491 rfl rfl (jr (v := (17 : Int32)) X20 hx hby at_493 k)))))) ?_
    refine cSW (rest := []) X20 hx hZ hown (ow hw 200 rfl) (ow hw 201 rfl) (ow hw 2 rfl) (ow hw 202 rfl) (rm_at l Z a0 hw [] xr xa xb xc la lb lc 17 z fm hj n0 Zj Oj Tr Ta Tb Tc l6a l6b l6c (by decide) S0 hz S4 hfm S_ad S_hi S_lo) hby at_495 e20q pd_1128 0 (by rw [hml]; rfl) rfl rfl rfl rfl (by decide) (by decide) fun _ T21 Lc21 X21 hQ21 => ?_
    obtain ⟨rfl, N21q, e21q⟩ := hQ21
    have N21 := Fr.app N20 N21q
    refine gsW (fun _ k => jn X21 hx hby at_498 ((if0 _ _).trans (feq (by decide : ¬ ((1 : Int32) = (0 : Int32)))).1) (je (v := (1 : Int32)) X21 hx hby at_501 (jl (pc' := 506) X21 hx hby at_502 k))) ?_
    refine goutW (v := some (.int (1 : Int32))) X21 hS hkj hZ (jp hw) hh e21q Rj Bd.notSynchronized (fun h => by rw [Bd.returns] at h; cases h) (by decide) (by decide) ?_ (fun fs hr => retN X21 hx (t := .boolean) Bd.returns (by simp) (hb hby at_506) hr)
    exact ⟨rfl, N21⟩
  rcases own_n4 i3 with hn | hn | hn | hn
  · show OwnGoW p e below s Z jg _ _ _ (T3.setTop (mkF m 23 #[iv i0, iv i1, iv i2, iv i3, iv ((i3 &&& (3 : Int32))), iv d1, iv d2, iv d3, uu, uu, uu, uu, uu, uu] []))
    rw [hn]
    refine gsW (fun _ k => jd X3 hx hby at_23 rfl (jn X3 hx hby at_25 ((if0 _ _).trans (teq (by decide : (0 : Int32) = (0 : Int32))).2) k)) ?_
    obtain ⟨T22, h22, X22, e22, E22, A22, D22, -, st22⟩ := newO X3 hx hZ hown (ow hw 4 rfl) (ow hw 5 rfl) (ow hw 6 rfl) e3q (g := (mkF m 28 #[iv i0, iv i1, iv i2, iv i3, iv (0 : Int32), iv d1, iv d2, iv d3, uu, uu, uu, uu, uu, uu] [])) rfl (hb hby at_28) (by decide) (by decide)
    obtain ⟨b22, q22⟩ : ∃ z, z = h0.size := ⟨_, rfl⟩
    rw [← q22] at A22 D22 st22
    have g_b22 : n0 ≤ b22 := nt Z0 (Nat.le_of_eq q22.symm)
    have sz_b22 : h0.size ≤ b22 := nt K0.1 (Nat.le_of_eq q22.symm)
    have sfa22 : Safe Z jg s.vm h0 b22 := Safe.new (Nat.le_of_eq q22.symm)
    have r23 : CHr Z jg s.vm h0 s.vm h22 := CHr.ext E22 R0.1
    have R23 := R0.trans r23
    have Z23 := nt Z0 E22.1
    have O23 := O0.ext E22
    have K23 := K0.ext E22
    have sfb22 := Safe.ext E22 R0.1 sfa22
    have F_coder_b22 : Fld Z h22 b22 "java/lang/String" "coder" "B" (.int (0 : Int32)) := D22 (Or.inr (ow hw 31 rfl)) (ty := .byte) (by decide)
    have F_value_b22 : Fld Z h22 b22 "java/lang/String" "value" "[B" .null := D22 (Or.inr (ow hw 33 rfl)) (ty := (.array .byte)) (by decide)
    refine gsW (S' := T22.setTop (mkF m 31 #[iv i0, iv i1, iv i2, iv i3, iv (0 : Int32), iv d1, iv d2, iv d3, uu, uu, uu, uu, uu, uu] [(.ref b22)])) st22 ?_
    refine gsW (fun _ k => jP X22 hx hby at_31 rfl (je (v := (0 : Int32)) X22 hx hby at_32 k)) ?_
    obtain ⟨T24, h24, k24, X24, e24, E24, A24, st24⟩ := newP X22 hx hZ (ow hw 7 rfl) e22 (g := (mkF m 33 #[iv i0, iv i1, iv i2, iv i3, iv (0 : Int32), iv d1, iv d2, iv d3, uu, uu, uu, uu, uu, uu] [(.int (0 : Int32)), (.ref b22), (.ref b22)])) rfl (hb hby at_33) rfl (by decide) (cap := 0) (by decide) (by decide) (by decide) (by decide)
    obtain ⟨b24, q24⟩ : ∃ z, z = h22.size := ⟨_, rfl⟩
    rw [← q24] at A24 st24
    have g_b24 : n0 ≤ b24 := nt Z23 (Nat.le_of_eq q24.symm)
    have sz_b24 : h0.size ≤ b24 := nt K23.1 (Nat.le_of_eq q24.symm)
    have r25 : CHr Z jg s.vm h22 s.vm h24 := CHr.ext E24 R23.1
    have R25 := R23.trans r25
    have Z25 := nt Z23 E24.1
    have O25 := O23.ext E24
    have K25 := K23.ext E24
    have V24 : Arv Z h24 b24 k24 .char (0 : Int32) [] (.int (0 : Int32)) := (Arv.new A24 (by decide)).pad (pad_rep [] (.int (0 : Int32)) 0)
    refine gsW (S' := T24.setTop (mkF m 35 #[iv i0, iv i1, iv i2, iv i3, iv (0 : Int32), iv d1, iv d2, iv d3, uu, uu, uu, uu, uu, uu] [(.ref b24), (.ref b22), (.ref b22)])) st24 ?_
    have f26 := (A22.ext E24)
    have f27 := (F_value_b22.ext E24)
    have f28 := (F_coder_b22.ext E24)
    have zs30 := nt E22.1 E24.1
    refine cIS (rest := [(.ref b22)]) X24 hx hS (nt hk zs30) hZ hown rfl (ow hw 8 rfl) (ow hw 9 rfl) (ow hw 6 rfl) (ow hw 10 rfl) (rm_s0 l Z a0 hw [] b22 b24 k24 h24 n0 Z25 O25 f26 f27 f28 g_b22 V24) (jp hw) R25.1 hby at_35 e24 pd_1129 1 (by rw [hml]; rfl) rfl rfl rfl rfl (by decide) (by decide) fun _ T29 Lc29 X29 hS hZ hown hQ29 rq29 => ?_
    obtain ⟨rfl, N29q, K29q, T29q⟩ := hQ29
    have N29 := Fr.app N3 N29q
    have r31 : CHr Z jg s.vm h24 T29.vm T29.heap := rq29
    have R31 := R25.trans r31
    have Z31 := nt Z25 K29q.1
    have O31 := O25.keep K29q (allS g_b22 all0)
    have K31 := K25.trans K29q (allS (Or.inr sz_b22) all0)
    have Tg32 := T29q.sg (by decide)
    refine gsW (fun _ k => jo X29 hx hby at_38 rfl rfl (jl (pc' := 127) X29 hx hby at_40 (jd X29 hx hby at_127 rfl (je (v := (1 : Int32)) X29 hx hby at_129 (jh (pc' := 141) X29 hx hby at_130 (tlt (by decide : (0 : Int32) < (1 : Int32))).1 k))))) ?_
    obtain ⟨a33, T33, h33, k33, t33, kb33, X33, e33, E33, hS, hk33, hZ, hown, g33e, g33c, g33v, g33a, -, -, r33x, -, ne33, st33⟩ := ldcCH X29 hx hZ hown (ow hw 40 rfl) (jD hw) rfl hS (Nat.le_refl T29.heap.size) (jp hw) (List.mem_of_getElem? (i := 5) rfl) R31.1 (vs := ((([] : List Int32).map (fun c => c.toInt8.toInt32)).map Value.int)) (z := (0 : Int32)) ⟨by decide, by rfl⟩ (by decide) rfl (g := (mkF m 141 #[iv i0, iv i1, iv i2, iv i3, iv (0 : Int32), iv d1, iv d2, iv d3, rv b22, uu, uu, uu, uu, uu] [])) rfl (hb hby at_141) (n := 0) (by decide) (by decide) (by decide) (by decide)
    have r34 : CHr Z jg T29.vm T29.heap T33.vm h33 := r33x
    have R34 := R31.trans r34
    have Z34 := nt Z31 E33.1
    have O34 := O31.ext E33
    have K34 := K31.ext E33
    have T33q : Str Z h33 a33 ([] : List Int32) := ⟨_, _, g33e, g33c, g33v, g33a⟩
    have zs35 := nt E24.1 K29q.1
    have f36 := (r34.safe (nu A22.lt zs35) (r31.safe (nu A22.lt E24.1) (r25.safe (nu A22.lt (Nat.le_refl _)) sfb22)))
    refine gsW (S' := T33.setTop (mkF m 143 #[iv i0, iv i1, iv i2, iv i3, iv (0 : Int32), iv d1, iv d2, iv d3, rv b22, uu, uu, uu, uu, uu] [(.ref a33)])) st33 ?_
    have Tg37 := T33q.sg (by decide)
    refine gsW (fun _ k => jo X33 hx hby at_143 rfl rfl (jd X33 hx hby at_145 rfl (je (v := (2 : Int32)) X33 hx hby at_147 (jh (pc' := 159) X33 hx hby at_148 (tlt (by decide : (0 : Int32) < (2 : Int32))).1 k)))) ?_
    obtain ⟨a38, T38, h38, k38, t38, kb38, X38, e38, E38, hS, hk38, hZ, hown, g38e, g38c, g38v, g38a, -, -, r38x, -, ne38, st38⟩ := ldcCH X33 hx hZ hown (ow hw 40 rfl) (jD hw) e33 hS hk33 (jp hw) (List.mem_of_getElem? (i := 5) rfl) R34.1 (vs := ((([] : List Int32).map (fun c => c.toInt8.toInt32)).map Value.int)) (z := (0 : Int32)) ⟨by decide, by rfl⟩ (by decide) rfl (g := (mkF m 159 #[iv i0, iv i1, iv i2, iv i3, iv (0 : Int32), iv d1, iv d2, iv d3, rv b22, rv a33, uu, uu, uu, uu] [])) rfl (hb hby at_159) (n := 0) (by decide) (by decide) (by decide) (by decide)
    have r39 : CHr Z jg T33.vm h33 T38.vm h38 := r38x
    have R39 := R34.trans r39
    have Z39 := nt Z34 E38.1
    have O39 := O34.ext E38
    have K39 := K34.ext E38
    have T38q : Str Z h38 a38 ([] : List Int32) := ⟨_, _, g38e, g38c, g38v, g38a⟩
    have zs40 := nt zs35 E33.1
    have f41 := (r39.safe (nu A22.lt zs40) f36)
    refine gsW (S' := T38.setTop (mkF m 161 #[iv i0, iv i1, iv i2, iv i3, iv (0 : Int32), iv d1, iv d2, iv d3, rv b22, rv a33, uu, uu, uu, uu] [(.ref a38)])) st38 ?_
    have Tg42 := T38q.sg (by decide)
    refine gsW (fun _ k => jo X38 hx hby at_161 rfl rfl (jd X38 hx hby at_163 rfl (je (v := (3 : Int32)) X38 hx hby at_165 (jh (pc' := 177) X38 hx hby at_166 (tlt (by decide : (0 : Int32) < (3 : Int32))).1 k)))) ?_
    obtain ⟨a43, T43, h43, k43, t43, kb43, X43, e43, E43, hS, hk43, hZ, hown, g43e, g43c, g43v, g43a, -, -, r43x, -, ne43, st43⟩ := ldcCH X38 hx hZ hown (ow hw 40 rfl) (jD hw) e38 hS hk38 (jp hw) (List.mem_of_getElem? (i := 5) rfl) R39.1 (vs := ((([] : List Int32).map (fun c => c.toInt8.toInt32)).map Value.int)) (z := (0 : Int32)) ⟨by decide, by rfl⟩ (by decide) rfl (g := (mkF m 177 #[iv i0, iv i1, iv i2, iv i3, iv (0 : Int32), iv d1, iv d2, iv d3, rv b22, rv a33, rv a38, uu, uu, uu] [])) rfl (hb hby at_177) (n := 0) (by decide) (by decide) (by decide) (by decide)
    have r44 : CHr Z jg T38.vm h38 T43.vm h43 := r43x
    have R44 := R39.trans r44
    have Z44 := nt Z39 E43.1
    have O44 := O39.ext E43
    have K44 := K39.ext E43
    have T43q : Str Z h43 a43 ([] : List Int32) := ⟨_, _, g43e, g43c, g43v, g43a⟩
    have zs45 := nt zs40 E38.1
    have f46 := (r44.safe (nu A22.lt zs45) f41)
    refine gsW (S' := T43.setTop (mkF m 179 #[iv i0, iv i1, iv i2, iv i3, iv (0 : Int32), iv d1, iv d2, iv d3, rv b22, rv a33, rv a38, uu, uu, uu] [(.ref a43)])) st43 ?_
    have Tg47 := T43q.sg (by decide)
    refine gsW (fun _ k => jo X43 hx hby at_179 rfl rfl (jf X43 hx hby at_181 rfl rfl k)) ?_
    have f48 := (((Tg32.ext E33).ext E38).ext E43)
    refine cSS (rest := []) X43 hx hS hk43 hZ hown (ow hw 41 rfl) (ow hw 42 rfl) (ow hw 43 rfl) (ow hw 44 rfl) (rm_es l Z a0 hw [] b22 ([] : List Int32) z fm h43 n0 Z44 O44 f48 (nb rfl) S0 hz S4 hfm S_ad S_hi S_lo) (jp hw) R44.1 hby at_183 e43 pd_1130 0 (by rw [hml]; rfl) rfl rfl rfl rfl (by decide) (by decide) fun _ T49 Lc49 X49 hS hZ hown hQ49 rq49 => ?_
    obtain ⟨a49, rfl, N49q, K49q, T49q⟩ := hQ49
    have N49 := Fr.app N29 N49q
    have r50 : CHr Z jg T43.vm h43 T49.vm T49.heap := rq49
    have R50 := R44.trans r50
    have Z50 := nt Z44 K49q.1
    have O50 := O44.keep K49q all0
    have K50 := K44.trans K49q all0
    have Tr49 : SG Z T49.heap a49 ((([] : List Int32) ++ ([] : List Int32)) ++ ([] : List Int32)) := by rw [← (by simp : ([] : List Int32).flatMap jc = (([] : List Int32) ++ ([] : List Int32)) ++ ([] : List Int32))]; exact T49q
    have hal : ((([] : List Int32) ++ ([] : List Int32)) ++ ([] : List Int32)).length ≤ 100 := by have q1 : ([] : List Int32).length ≤ 6 := (by decide); have q2 : ([] : List Int32).length ≤ 6 := (by decide); have q3 : ([] : List Int32).length ≤ 6 := (by decide); rw [List.length_append, List.length_append]; omega
    refine gsW (fun _ k => jo X49 hx hby at_186 rfl rfl (jf X49 hx hby at_188 rfl rfl k)) ?_
    have f51 := (((Tg37.ext E38).ext E43).keep0 K49q)
    refine cVW (rest := []) X49 hx hZ hown (ow hw 199 rfl) (ow hw 49 rfl) (nfs hZ (ow hw 51 rfl)) (ow hw 51 rfl) (ow hw 50 rfl) (ow hw 6 rfl) (ow hw 52 rfl) (rm_len l Z a0 hw [] a33 ([] : List Int32) z T49.heap n0 Z50 O50 f51 (by decide) S0 hz) hby at_190 rfl pd_573 0 (by rw [hml]; rfl) f51.exa rfl rfl rfl rfl (by decide) (by decide) fun _ T52 Lc52 X52 hQ52 => ?_
    obtain ⟨rfl, N52q, e52q⟩ := hQ52
    have N52 := Fr.app N49 N52q
    refine gsW (fun _ k => jf X52 hx hby at_193 rfl rfl k) ?_
    have f53 := ((Tg42.ext E43).keep0 K49q)
    refine cVW (rest := [(.int (oI ([] : List Int32).length))]) X52 hx hZ hown (ow hw 199 rfl) (ow hw 49 rfl) (nfs hZ (ow hw 51 rfl)) (ow hw 51 rfl) (ow hw 50 rfl) (ow hw 6 rfl) (ow hw 52 rfl) (rm_len l Z a0 hw [] a38 ([] : List Int32) z T49.heap n0 Z50 O50 f53 (by decide) S0 hz) hby at_195 e52q pd_573 1 (by rw [hml]; rfl) f53.exa rfl rfl rfl rfl (by decide) (by decide) fun _ T54 Lc54 X54 hQ54 => ?_
    obtain ⟨rfl, N54q, e54q⟩ := hQ54
    have N54 := Fr.app N52 N54q
    refine gsW (fun _ k => jI X54 hx hby at_198 (jf X54 hx hby at_199 rfl rfl k)) ?_
    have f55 := (Tg47.keep0 K49q)
    refine cVW (rest := [(.int ((oI ([] : List Int32).length) + (oI ([] : List Int32).length)))]) X54 hx hZ hown (ow hw 199 rfl) (ow hw 49 rfl) (nfs hZ (ow hw 51 rfl)) (ow hw 51 rfl) (ow hw 50 rfl) (ow hw 6 rfl) (ow hw 52 rfl) (rm_len l Z a0 hw [] a43 ([] : List Int32) z T49.heap n0 Z50 O50 f55 (by decide) S0 hz) hby at_201 e54q pd_573 1 (by rw [hml]; rfl) f55.exa rfl rfl rfl rfl (by decide) (by decide) fun _ T56 Lc56 X56 hQ56 => ?_
    obtain ⟨rfl, N56q, e56q⟩ := hQ56
    have N56 := Fr.app N54 N56q
    refine gsW (fun _ k => jI X56 hx hby at_204 (jj X56 hx hby at_205 rfl (jf X56 hx hby at_207 rfl rfl k))) ?_
    refine cVW (rest := []) X56 hx hZ hown (ow hw 199 rfl) (ow hw 49 rfl) (nfs hZ (ow hw 51 rfl)) (ow hw 51 rfl) (ow hw 50 rfl) (ow hw 6 rfl) (ow hw 52 rfl) (rm_len l Z a0 hw [] a49 ((([] : List Int32) ++ ([] : List Int32)) ++ ([] : List Int32)) z T49.heap n0 Z50 O50 Tr49 hal S0 hz) hby at_209 e56q pd_573 0 (by rw [hml]; rfl) Tr49.exa rfl rfl rfl rfl (by decide) (by decide) fun _ T57 Lc57 X57 hQ57 => ?_
    obtain ⟨rfl, N57q, e57q⟩ := hQ57
    have N57 := Fr.app N56 N57q
    refine gsW (fun _ k => jd X57 hx hby at_212 rfl (jh (pc' := 219) X57 hx hby at_214 (teq (own_tot ([] : List Int32) ([] : List Int32) ([] : List Int32))).1 k)) ?_
    exact mid T49.vm _ T57 T49.heap _ (0 : Int32) (((oI ([] : List Int32).length) + (oI ([] : List Int32).length)) + (oI ([] : List Int32).length)) b22 a33 a38 a43 a49 ([] : List Int32) ([] : List Int32) ([] : List Int32) hS (Nat.le_refl T49.heap.size) hZ hown (X57.more (by decide) (by decide)) e57q N57 Z50 O50 K50 R50 Tr49 f51 f53 f55 (by decide) (by decide) (by decide)
  · show OwnGoW p e below s Z jg _ _ _ (T3.setTop (mkF m 23 #[iv i0, iv i1, iv i2, iv i3, iv ((i3 &&& (3 : Int32))), iv d1, iv d2, iv d3, uu, uu, uu, uu, uu, uu] []))
    rw [hn]
    refine gsW (fun _ k => jd X3 hx hby at_23 rfl (jt (pc' := 43) X3 hx hby at_25 ((if0 _ _).trans (feq (by decide : ¬ ((1 : Int32) = (0 : Int32)))).2) (jd X3 hx hby at_43 rfl (je (v := (1 : Int32)) X3 hx hby at_45 (ji X3 hx hby at_46 (teq (by decide : (1 : Int32) = (1 : Int32))).2 k))))) ?_
    obtain ⟨T58, h58, X58, e58, E58, A58, D58, -, st58⟩ := newO X3 hx hZ hown (ow hw 4 rfl) (ow hw 5 rfl) (ow hw 6 rfl) e3q (g := (mkF m 49 #[iv i0, iv i1, iv i2, iv i3, iv (1 : Int32), iv d1, iv d2, iv d3, uu, uu, uu, uu, uu, uu] [])) rfl (hb hby at_49) (by decide) (by decide)
    obtain ⟨b58, q58⟩ : ∃ z, z = h0.size := ⟨_, rfl⟩
    rw [← q58] at A58 D58 st58
    have g_b58 : n0 ≤ b58 := nt Z0 (Nat.le_of_eq q58.symm)
    have sz_b58 : h0.size ≤ b58 := nt K0.1 (Nat.le_of_eq q58.symm)
    have sfa58 : Safe Z jg s.vm h0 b58 := Safe.new (Nat.le_of_eq q58.symm)
    have r59 : CHr Z jg s.vm h0 s.vm h58 := CHr.ext E58 R0.1
    have R59 := R0.trans r59
    have Z59 := nt Z0 E58.1
    have O59 := O0.ext E58
    have K59 := K0.ext E58
    have sfb58 := Safe.ext E58 R0.1 sfa58
    have F_coder_b58 : Fld Z h58 b58 "java/lang/String" "coder" "B" (.int (0 : Int32)) := D58 (Or.inr (ow hw 31 rfl)) (ty := .byte) (by decide)
    have F_value_b58 : Fld Z h58 b58 "java/lang/String" "value" "[B" .null := D58 (Or.inr (ow hw 33 rfl)) (ty := (.array .byte)) (by decide)
    refine gsW (S' := T58.setTop (mkF m 52 #[iv i0, iv i1, iv i2, iv i3, iv (1 : Int32), iv d1, iv d2, iv d3, uu, uu, uu, uu, uu, uu] [(.ref b58)])) st58 ?_
    refine gsW (fun _ k => jP X58 hx hby at_52 rfl (je (v := (1 : Int32)) X58 hx hby at_53 k)) ?_
    obtain ⟨T60, h60, k60, X60, e60, E60, A60, st60⟩ := newP X58 hx hZ (ow hw 7 rfl) e58 (g := (mkF m 54 #[iv i0, iv i1, iv i2, iv i3, iv (1 : Int32), iv d1, iv d2, iv d3, uu, uu, uu, uu, uu, uu] [(.int (1 : Int32)), (.ref b58), (.ref b58)])) rfl (hb hby at_54) rfl (by decide) (cap := 1) (by decide) (by decide) (by decide) (by decide)
    obtain ⟨b60, q60⟩ : ∃ z, z = h58.size := ⟨_, rfl⟩
    rw [← q60] at A60 st60
    have g_b60 : n0 ≤ b60 := nt Z59 (Nat.le_of_eq q60.symm)
    have sz_b60 : h0.size ≤ b60 := nt K59.1 (Nat.le_of_eq q60.symm)
    have r61 : CHr Z jg s.vm h58 s.vm h60 := CHr.ext E60 R59.1
    have R61 := R59.trans r61
    have Z61 := nt Z59 E60.1
    have O61 := O59.ext E60
    have K61 := K59.ext E60
    have V60 : Arv Z h60 b60 k60 .char (1 : Int32) [(.int (0 : Int32))] (.int (0 : Int32)) := (Arv.new A60 (by decide)).pad (pad_rep [] (.int (0 : Int32)) 1)
    refine gsW (S' := T60.setTop (mkF m 56 #[iv i0, iv i1, iv i2, iv i3, iv (1 : Int32), iv d1, iv d2, iv d3, uu, uu, uu, uu, uu, uu] [(.ref b60), (.ref b58), (.ref b58)])) st60 ?_
    refine gsW (fun _ k => jP X60 hx hby at_56 rfl (je (v := (0 : Int32)) X60 hx hby at_57 (jd X60 hx hby at_58 rfl k))) ?_
    obtain ⟨cl62, A62, a62q, a62S, a62N, a62H, a62G⟩ := id V60
    obtain ⟨T62, h62, X62, e62, W62, st62⟩ := stC X60 hx hZ e60 A62 (j := (0 : Int32)) (inb_of a62S ⟨by decide, by decide⟩) (g := (mkF m 60 #[iv i0, iv i1, iv i2, iv i3, iv (1 : Int32), iv d1, iv d2, iv d3, uu, uu, uu, uu, uu, uu] [(.int d1), (.int (0 : Int32)), (.ref b60), (.ref b60), (.ref b58), (.ref b58)])) rfl rfl (hb hby at_60)
    have V62 : Arv Z h62 b60 k60 .char (1 : Int32) [(.int (nar .char d1))] (.int (0 : Int32)) := Arv.set A62 a62q a62S a62N a62H a62G (fits_nar_char _) W62 0 rfl (nb rfl)
    have N62 := Fr.snoc X62 N3 g_b60
    have r63 : CHr Z jg s.vm h60 s.vm h62 := CHr.wr W62 (Safe.arv hZ.alike V60 (by decide)) R61.1
    have R63 := R61.trans r63
    have Z63 := nt Z61 (Keep.of_wr W62).1
    have O63 := O61.wr W62 g_b60
    have K63 := K61.wr W62 (Or.inr sz_b60)
    refine gsW (S' := T62.setTop (mkF m 61 #[iv i0, iv i1, iv i2, iv i3, iv (1 : Int32), iv d1, iv d2, iv d3, uu, uu, uu, uu, uu, uu] [(.ref b60), (.ref b58), (.ref b58)])) st62 ?_
    have Vc64 := V62
    rw [jJ u1b] at Vc64
    have f65 := ((A58.ext E60).wr W62)
    have f66 := ((F_value_b58.ext E60).other W62 (Or.inl (nw (nu (nu A58.lt (Nat.le_refl _)) (Nat.le_of_eq q60.symm)))))
    have f67 := ((F_coder_b58.ext E60).other W62 (Or.inl (nw (nu (nu A58.lt (Nat.le_refl _)) (Nat.le_of_eq q60.symm)))))
    refine cIW (rest := [(.ref b58)]) X62 hx hZ hown rfl (ow hw 8 rfl) (ow hw 9 rfl) (ow hw 6 rfl) (ow hw 10 rfl) (rm_s1_1 l Z a0 hw [] b58 b60 k60 d1 z h62 n0 Z63 O63 f65 f66 f67 g_b58 Vc64 u1b S_ad S_hi S_lo S0 hz) hby at_61 e62 pd_1129 1 (by rw [hml]; rfl) rfl rfl rfl rfl (by decide) (by decide) fun _ T68 Lc68 X68 hQ68 => ?_
    obtain ⟨rfl, N68q, K68q, T68q⟩ := hQ68
    have N68 := Fr.app N62 N68q
    have f70 := (r63.safe (nu A58.lt E60.1) (r61.safe (nu A58.lt (Nat.le_refl _)) sfb58))
    have r69 : CHr Z jg s.vm h62 s.vm T68.heap := CHr.keep K68q (sfS f70 sf0) R63.1
    have R69 := R63.trans r69
    have Z69 := nt Z63 K68q.1
    have O69 := O63.keep K68q (allS g_b58 all0)
    have K69 := K63.trans K68q (allS (Or.inr sz_b58) all0)
    refine gsW (fun _ k => jo X68 hx hby at_64 rfl rfl (jl (pc' := 127) X68 hx hby at_66 (jd X68 hx hby at_127 rfl (je (v := (1 : Int32)) X68 hx hby at_129 (ji X68 hx hby at_130 (flt (by decide : ¬ ((1 : Int32) < (1 : Int32)))).1 (jd X68 hx hby at_133 rfl k)))))) ?_
    have zs72 := nt E58.1 E60.1
    have zs73 := nt zs72 (Keep.of_wr W62).1
    have zs74 := nt zs73 K68q.1
    refine cSS (rest := []) X68 hx hS (nt hk zs74) hZ hown (ow hw 34 rfl) (ow hw 35 rfl) (ow hw 2 rfl) (ow hw 36 rfl) (rm_ref l Z a0 hw [] d1 z T68.heap n0 Z69 O69 u1b S0 hz S_ad S_hi S_lo) (jp hw) R69.1 hby at_135 rfl pd_1011 0 (by rw [hml]; rfl) rfl rfl rfl rfl (by decide) (by decide) fun _ T71 Lc71 X71 hS hZ hown hQ71 rq71 => ?_
    obtain ⟨a71, rfl, N71q, K71q, T71q⟩ := hQ71
    have N71 := Fr.app N68 N71q
    have r75 : CHr Z jg s.vm T68.heap T71.vm T71.heap := rq71
    have R75 := R69.trans r75
    have Z75 := nt Z69 K71q.1
    have O75 := O69.keep K71q all0
    have K75 := K69.trans K71q all0
    refine gsW (fun _ k => jl (pc' := 143) X71 hx hby at_138 (jo X71 hx hby at_143 rfl rfl (jd X71 hx hby at_145 rfl (je (v := (2 : Int32)) X71 hx hby at_147 (jh (pc' := 159) X71 hx hby at_148 (tlt (by decide : (1 : Int32) < (2 : Int32))).1 k))))) ?_
    obtain ⟨a76, T76, h76, k76, t76, kb76, X76, e76, E76, hS, hk76, hZ, hown, g76e, g76c, g76v, g76a, -, -, r76x, -, ne76, st76⟩ := ldcCH X71 hx hZ hown (ow hw 40 rfl) (jD hw) rfl hS (Nat.le_refl T71.heap.size) (jp hw) (List.mem_of_getElem? (i := 5) rfl) R75.1 (vs := ((([] : List Int32).map (fun c => c.toInt8.toInt32)).map Value.int)) (z := (0 : Int32)) ⟨by decide, by rfl⟩ (by decide) rfl (g := (mkF m 159 #[iv i0, iv i1, iv i2, iv i3, iv (1 : Int32), iv d1, iv d2, iv d3, rv b58, rv a71, uu, uu, uu, uu] [])) rfl (hb hby at_159) (n := 0) (by decide) (by decide) (by decide) (by decide)
    have r77 : CHr Z jg T71.vm T71.heap T76.vm h76 := r76x
    have R77 := R75.trans r77
    have Z77 := nt Z75 E76.1
    have O77 := O75.ext E76
    have K77 := K75.ext E76
    have T76q : Str Z h76 a76 ([] : List Int32) := ⟨_, _, g76e, g76c, g76v, g76a⟩
    have zs78 := nt E60.1 (Keep.of_wr W62).1
    have zs79 := nt zs78 K68q.1
    have zs80 := nt zs79 K71q.1
    have f81 := (r77.safe (nu A58.lt zs80) (r75.safe (nu A58.lt zs79) (r69.safe (nu A58.lt zs78) f70)))
    refine gsW (S' := T76.setTop (mkF m 161 #[iv i0, iv i1, iv i2, iv i3, iv (1 : Int32), iv d1, iv d2, iv d3, rv b58, rv a71, uu, uu, uu, uu] [(.ref a76)])) st76 ?_
    have Tg82 := T76q.sg (by decide)
    refine gsW (fun _ k => jo X76 hx hby at_161 rfl rfl (jd X76 hx hby at_163 rfl (je (v := (3 : Int32)) X76 hx hby at_165 (jh (pc' := 177) X76 hx hby at_166 (tlt (by decide : (1 : Int32) < (3 : Int32))).1 k)))) ?_
    obtain ⟨a83, T83, h83, k83, t83, kb83, X83, e83, E83, hS, hk83, hZ, hown, g83e, g83c, g83v, g83a, -, -, r83x, -, ne83, st83⟩ := ldcCH X76 hx hZ hown (ow hw 40 rfl) (jD hw) e76 hS hk76 (jp hw) (List.mem_of_getElem? (i := 5) rfl) R77.1 (vs := ((([] : List Int32).map (fun c => c.toInt8.toInt32)).map Value.int)) (z := (0 : Int32)) ⟨by decide, by rfl⟩ (by decide) rfl (g := (mkF m 177 #[iv i0, iv i1, iv i2, iv i3, iv (1 : Int32), iv d1, iv d2, iv d3, rv b58, rv a71, rv a76, uu, uu, uu] [])) rfl (hb hby at_177) (n := 0) (by decide) (by decide) (by decide) (by decide)
    have r84 : CHr Z jg T76.vm h76 T83.vm h83 := r83x
    have R84 := R77.trans r84
    have Z84 := nt Z77 E83.1
    have O84 := O77.ext E83
    have K84 := K77.ext E83
    have T83q : Str Z h83 a83 ([] : List Int32) := ⟨_, _, g83e, g83c, g83v, g83a⟩
    have zs85 := nt zs80 E76.1
    have f86 := (r84.safe (nu A58.lt zs85) f81)
    refine gsW (S' := T83.setTop (mkF m 179 #[iv i0, iv i1, iv i2, iv i3, iv (1 : Int32), iv d1, iv d2, iv d3, rv b58, rv a71, rv a76, uu, uu, uu] [(.ref a83)])) st83 ?_
    have Tg87 := T83q.sg (by decide)
    refine gsW (fun _ k => jo X83 hx hby at_179 rfl rfl (jf X83 hx hby at_181 rfl rfl k)) ?_
    have f88 := (((T68q.keep0 K71q).ext E76).ext E83)
    refine cSS (rest := []) X83 hx hS hk83 hZ hown (ow hw 41 rfl) (ow hw 42 rfl) (ow hw 43 rfl) (ow hw 44 rfl) (rm_es l Z a0 hw [] b58 ([d1] : List Int32) z fm h83 n0 Z84 O84 f88 (nb rfl) S0 hz S4 hfm S_ad S_hi S_lo) (jp hw) R84.1 hby at_183 e83 pd_1130 0 (by rw [hml]; rfl) rfl rfl rfl rfl (by decide) (by decide) fun _ T89 Lc89 X89 hS hZ hown hQ89 rq89 => ?_
    obtain ⟨a89, rfl, N89q, K89q, T89q⟩ := hQ89
    have N89 := Fr.app N71 N89q
    have r90 : CHr Z jg T83.vm h83 T89.vm T89.heap := rq89
    have R90 := R84.trans r90
    have Z90 := nt Z84 K89q.1
    have O90 := O84.keep K89q all0
    have K90 := K84.trans K89q all0
    have Tr89 : SG Z T89.heap a89 (((jc d1) ++ ([] : List Int32)) ++ ([] : List Int32)) := by rw [← (by simp : ([d1] : List Int32).flatMap jc = ((jc d1) ++ ([] : List Int32)) ++ ([] : List Int32))]; exact T89q
    have hal : (((jc d1) ++ ([] : List Int32)) ++ ([] : List Int32)).length ≤ 100 := by have q1 : (jc d1).length ≤ 6 := (jB d1).1; have q2 : ([] : List Int32).length ≤ 6 := (by decide); have q3 : ([] : List Int32).length ≤ 6 := (by decide); rw [List.length_append, List.length_append]; omega
    refine gsW (fun _ k => jo X89 hx hby at_186 rfl rfl (jf X89 hx hby at_188 rfl rfl k)) ?_
    have f91 := (((T71q.ext E76).ext E83).keep0 K89q)
    refine cVW (rest := []) X89 hx hZ hown (ow hw 199 rfl) (ow hw 49 rfl) (nfs hZ (ow hw 51 rfl)) (ow hw 51 rfl) (ow hw 50 rfl) (ow hw 6 rfl) (ow hw 52 rfl) (rm_len l Z a0 hw [] a71 (jc d1) z T89.heap n0 Z90 O90 f91 (nt (jB d1).1 (by decide)) S0 hz) hby at_190 rfl pd_573 0 (by rw [hml]; rfl) f91.exa rfl rfl rfl rfl (by decide) (by decide) fun _ T92 Lc92 X92 hQ92 => ?_
    obtain ⟨rfl, N92q, e92q⟩ := hQ92
    have N92 := Fr.app N89 N92q
    refine gsW (fun _ k => jf X92 hx hby at_193 rfl rfl k) ?_
    have f93 := ((Tg82.ext E83).keep0 K89q)
    refine cVW (rest := [(.int (oI (jc d1).length))]) X92 hx hZ hown (ow hw 199 rfl) (ow hw 49 rfl) (nfs hZ (ow hw 51 rfl)) (ow hw 51 rfl) (ow hw 50 rfl) (ow hw 6 rfl) (ow hw 52 rfl) (rm_len l Z a0 hw [] a76 ([] : List Int32) z T89.heap n0 Z90 O90 f93 (by decide) S0 hz) hby at_195 e92q pd_573 1 (by rw [hml]; rfl) f93.exa rfl rfl rfl rfl (by decide) (by decide) fun _ T94 Lc94 X94 hQ94 => ?_
    obtain ⟨rfl, N94q, e94q⟩ := hQ94
    have N94 := Fr.app N92 N94q
    refine gsW (fun _ k => jI X94 hx hby at_198 (jf X94 hx hby at_199 rfl rfl k)) ?_
    have f95 := (Tg87.keep0 K89q)
    refine cVW (rest := [(.int ((oI (jc d1).length) + (oI ([] : List Int32).length)))]) X94 hx hZ hown (ow hw 199 rfl) (ow hw 49 rfl) (nfs hZ (ow hw 51 rfl)) (ow hw 51 rfl) (ow hw 50 rfl) (ow hw 6 rfl) (ow hw 52 rfl) (rm_len l Z a0 hw [] a83 ([] : List Int32) z T89.heap n0 Z90 O90 f95 (by decide) S0 hz) hby at_201 e94q pd_573 1 (by rw [hml]; rfl) f95.exa rfl rfl rfl rfl (by decide) (by decide) fun _ T96 Lc96 X96 hQ96 => ?_
    obtain ⟨rfl, N96q, e96q⟩ := hQ96
    have N96 := Fr.app N94 N96q
    refine gsW (fun _ k => jI X96 hx hby at_204 (jj X96 hx hby at_205 rfl (jf X96 hx hby at_207 rfl rfl k))) ?_
    refine cVW (rest := []) X96 hx hZ hown (ow hw 199 rfl) (ow hw 49 rfl) (nfs hZ (ow hw 51 rfl)) (ow hw 51 rfl) (ow hw 50 rfl) (ow hw 6 rfl) (ow hw 52 rfl) (rm_len l Z a0 hw [] a89 (((jc d1) ++ ([] : List Int32)) ++ ([] : List Int32)) z T89.heap n0 Z90 O90 Tr89 hal S0 hz) hby at_209 e96q pd_573 0 (by rw [hml]; rfl) Tr89.exa rfl rfl rfl rfl (by decide) (by decide) fun _ T97 Lc97 X97 hQ97 => ?_
    obtain ⟨rfl, N97q, e97q⟩ := hQ97
    have N97 := Fr.app N96 N97q
    refine gsW (fun _ k => jd X97 hx hby at_212 rfl (jh (pc' := 219) X97 hx hby at_214 (teq (own_tot (jc d1) ([] : List Int32) ([] : List Int32))).1 k)) ?_
    exact mid T89.vm _ T97 T89.heap _ (1 : Int32) (((oI (jc d1).length) + (oI ([] : List Int32).length)) + (oI ([] : List Int32).length)) b58 a71 a76 a83 a89 (jc d1) ([] : List Int32) ([] : List Int32) hS (Nat.le_refl T89.heap.size) hZ hown (X97.more (by decide) (by decide)) e97q N97 Z90 O90 K90 R90 Tr89 f91 f93 f95 (jB d1).1 (by decide) (by decide)
  · show OwnGoW p e below s Z jg _ _ _ (T3.setTop (mkF m 23 #[iv i0, iv i1, iv i2, iv i3, iv ((i3 &&& (3 : Int32))), iv d1, iv d2, iv d3, uu, uu, uu, uu, uu, uu] []))
    rw [hn]
    refine gsW (fun _ k => jd X3 hx hby at_23 rfl (jt (pc' := 43) X3 hx hby at_25 ((if0 _ _).trans (feq (by decide : ¬ ((2 : Int32) = (0 : Int32)))).2) (jd X3 hx hby at_43 rfl (je (v := (1 : Int32)) X3 hx hby at_45 (jh (pc' := 69) X3 hx hby at_46 (feq (by decide : ¬ ((2 : Int32) = (1 : Int32)))).2 (jd X3 hx hby at_69 rfl (je (v := (2 : Int32)) X3 hx hby at_71 (ji X3 hx hby at_72 (teq (by decide : (2 : Int32) = (2 : Int32))).2 k)))))))) ?_
    obtain ⟨T98, h98, X98, e98, E98, A98, D98, -, st98⟩ := newO X3 hx hZ hown (ow hw 4 rfl) (ow hw 5 rfl) (ow hw 6 rfl) e3q (g := (mkF m 75 #[iv i0, iv i1, iv i2, iv i3, iv (2 : Int32), iv d1, iv d2, iv d3, uu, uu, uu, uu, uu, uu] [])) rfl (hb hby at_75) (by decide) (by decide)
    obtain ⟨b98, q98⟩ : ∃ z, z = h0.size := ⟨_, rfl⟩
    rw [← q98] at A98 D98 st98
    have g_b98 : n0 ≤ b98 := nt Z0 (Nat.le_of_eq q98.symm)
    have sz_b98 : h0.size ≤ b98 := nt K0.1 (Nat.le_of_eq q98.symm)
    have sfa98 : Safe Z jg s.vm h0 b98 := Safe.new (Nat.le_of_eq q98.symm)
    have r99 : CHr Z jg s.vm h0 s.vm h98 := CHr.ext E98 R0.1
    have R99 := R0.trans r99
    have Z99 := nt Z0 E98.1
    have O99 := O0.ext E98
    have K99 := K0.ext E98
    have sfb98 := Safe.ext E98 R0.1 sfa98
    have F_coder_b98 : Fld Z h98 b98 "java/lang/String" "coder" "B" (.int (0 : Int32)) := D98 (Or.inr (ow hw 31 rfl)) (ty := .byte) (by decide)
    have F_value_b98 : Fld Z h98 b98 "java/lang/String" "value" "[B" .null := D98 (Or.inr (ow hw 33 rfl)) (ty := (.array .byte)) (by decide)
    refine gsW (S' := T98.setTop (mkF m 78 #[iv i0, iv i1, iv i2, iv i3, iv (2 : Int32), iv d1, iv d2, iv d3, uu, uu, uu, uu, uu, uu] [(.ref b98)])) st98 ?_
    refine gsW (fun _ k => jP X98 hx hby at_78 rfl (je (v := (2 : Int32)) X98 hx hby at_79 k)) ?_
    obtain ⟨T100, h100, k100, X100, e100, E100, A100, st100⟩ := newP X98 hx hZ (ow hw 7 rfl) e98 (g := (mkF m 80 #[iv i0, iv i1, iv i2, iv i3, iv (2 : Int32), iv d1, iv d2, iv d3, uu, uu, uu, uu, uu, uu] [(.int (2 : Int32)), (.ref b98), (.ref b98)])) rfl (hb hby at_80) rfl (by decide) (cap := 2) (by decide) (by decide) (by decide) (by decide)
    obtain ⟨b100, q100⟩ : ∃ z, z = h98.size := ⟨_, rfl⟩
    rw [← q100] at A100 st100
    have g_b100 : n0 ≤ b100 := nt Z99 (Nat.le_of_eq q100.symm)
    have sz_b100 : h0.size ≤ b100 := nt K99.1 (Nat.le_of_eq q100.symm)
    have r101 : CHr Z jg s.vm h98 s.vm h100 := CHr.ext E100 R99.1
    have R101 := R99.trans r101
    have Z101 := nt Z99 E100.1
    have O101 := O99.ext E100
    have K101 := K99.ext E100
    have V100 : Arv Z h100 b100 k100 .char (2 : Int32) [(.int (0 : Int32)), (.int (0 : Int32))] (.int (0 : Int32)) := (Arv.new A100 (by decide)).pad (pad_rep [] (.int (0 : Int32)) 2)
    refine gsW (S' := T100.setTop (mkF m 82 #[iv i0, iv i1, iv i2, iv i3, iv (2 : Int32), iv d1, iv d2, iv d3, uu, uu, uu, uu, uu, uu] [(.ref b100), (.ref b98), (.ref b98)])) st100 ?_
    refine gsW (fun _ k => jP X100 hx hby at_82 rfl (je (v := (0 : Int32)) X100 hx hby at_83 (jd X100 hx hby at_84 rfl k))) ?_
    obtain ⟨cl102, A102, a102q, a102S, a102N, a102H, a102G⟩ := id V100
    obtain ⟨T102, h102, X102, e102, W102, st102⟩ := stC X100 hx hZ e100 A102 (j := (0 : Int32)) (inb_of a102S ⟨by decide, by decide⟩) (g := (mkF m 86 #[iv i0, iv i1, iv i2, iv i3, iv (2 : Int32), iv d1, iv d2, iv d3, uu, uu, uu, uu, uu, uu] [(.int d1), (.int (0 : Int32)), (.ref b100), (.ref b100), (.ref b98), (.ref b98)])) rfl rfl (hb hby at_86)
    have V102 : Arv Z h102 b100 k100 .char (2 : Int32) [(.int (nar .char d1)), (.int (0 : Int32))] (.int (0 : Int32)) := Arv.set A102 a102q a102S a102N a102H a102G (fits_nar_char _) W102 0 rfl (nb rfl)
    have N102 := Fr.snoc X102 N3 g_b100
    have r103 : CHr Z jg s.vm h100 s.vm h102 := CHr.wr W102 (Safe.arv hZ.alike V100 (by decide)) R101.1
    have R103 := R101.trans r103
    have Z103 := nt Z101 (Keep.of_wr W102).1
    have O103 := O101.wr W102 g_b100
    have K103 := K101.wr W102 (Or.inr sz_b100)
    refine gsW (S' := T102.setTop (mkF m 87 #[iv i0, iv i1, iv i2, iv i3, iv (2 : Int32), iv d1, iv d2, iv d3, uu, uu, uu, uu, uu, uu] [(.ref b100), (.ref b98), (.ref b98)])) st102 ?_
    refine gsW (fun _ k => jP X102 hx hby at_87 rfl (je (v := (1 : Int32)) X102 hx hby at_88 (jd X102 hx hby at_89 rfl k))) ?_
    obtain ⟨cl104, A104, a104q, a104S, a104N, a104H, a104G⟩ := id V102
    obtain ⟨T104, h104, X104, e104, W104, st104⟩ := stC X102 hx hZ e102 A104 (j := (1 : Int32)) (inb_of a104S ⟨by decide, by decide⟩) (g := (mkF m 91 #[iv i0, iv i1, iv i2, iv i3, iv (2 : Int32), iv d1, iv d2, iv d3, uu, uu, uu, uu, uu, uu] [(.int d2), (.int (1 : Int32)), (.ref b100), (.ref b100), (.ref b98), (.ref b98)])) rfl rfl (hb hby at_91)
    have V104 : Arv Z h104 b100 k100 .char (2 : Int32) [(.int (nar .char d1)), (.int (nar .char d2))] (.int (0 : Int32)) := Arv.set A104 a104q a104S a104N a104H a104G (fits_nar_char _) W104 1 rfl (nb rfl)
    have N104 := Fr.snoc X104 N102 g_b100
    have r105 : CHr Z jg s.vm h102 s.vm h104 := CHr.wr W104 (Safe.arv hZ.alike V102 (by decide)) R103.1
    have R105 := R103.trans r105
    have Z105 := nt Z103 (Keep.of_wr W104).1
    have O105 := O103.wr W104 g_b100
    have K105 := K103.wr W104 (Or.inr sz_b100)
    refine gsW (S' := T104.setTop (mkF m 92 #[iv i0, iv i1, iv i2, iv i3, iv (2 : Int32), iv d1, iv d2, iv d3, uu, uu, uu, uu, uu, uu] [(.ref b100), (.ref b98), (.ref b98)])) st104 ?_
    have Vc106 := V104
    rw [jJ u1b, jJ u2b] at Vc106
    have f107 := (((A98.ext E100).wr W102).wr W104)
    have f108 := (((F_value_b98.ext E100).other W102 (Or.inl (nw (nu (nu A98.lt (Nat.le_refl _)) (Nat.le_of_eq q100.symm))))).other W104 (Or.inl (nw (nu (nu A98.lt (Nat.le_refl _)) (Nat.le_of_eq q100.symm)))))
    have f109 := (((F_coder_b98.ext E100).other W102 (Or.inl (nw (nu (nu A98.lt (Nat.le_refl _)) (Nat.le_of_eq q100.symm))))).other W104 (Or.inl (nw (nu (nu A98.lt (Nat.le_refl _)) (Nat.le_of_eq q100.symm)))))
    refine cIW (rest := [(.ref b98)]) X104 hx hZ hown rfl (ow hw 8 rfl) (ow hw 9 rfl) (ow hw 6 rfl) (ow hw 10 rfl) (rm_s1_2 l Z a0 hw [] b98 b100 k100 d1 d2 z h104 n0 Z105 O105 f107 f108 f109 g_b98 Vc106 u1b u2b S_ad S_hi S_lo S0 hz) hby at_92 e104 pd_1129 1 (by rw [hml]; rfl) rfl rfl rfl rfl (by decide) (by decide) fun _ T110 Lc110 X110 hQ110 => ?_
    obtain ⟨rfl, N110q, K110q, T110q⟩ := hQ110
    have N110 := Fr.app N104 N110q
    have zs112 := nt E100.1 (Keep.of_wr W102).1
    have f113 := (r105.safe (nu A98.lt zs112) (r103.safe (nu A98.lt E100.1) (r101.safe (nu A98.lt (Nat.le_refl _)) sfb98)))
    have r111 : CHr Z jg s.vm h104 s.vm T110.heap := CHr.keep K110q (sfS f113 sf0) R105.1
    have R111 := R105.trans r111
    have Z111 := nt Z105 K110q.1
    have O111 := O105.keep K110q (allS g_b98 all0)
    have K111 := K105.trans K110q (allS (Or.inr sz_b98) all0)
    refine gsW (fun _ k => jo X110 hx hby at_95 rfl rfl (jl (pc' := 127) X110 hx hby at_97 (jd X110 hx hby at_127 rfl (je (v := (1 : Int32)) X110 hx hby at_129 (ji X110 hx hby at_130 (flt (by decide : ¬ ((2 : Int32) < (1 : Int32)))).1 (jd X110 hx hby at_133 rfl k)))))) ?_
    have zs115 := nt E98.1 E100.1
    have zs116 := nt zs115 (Keep.of_wr W102).1
    have zs117 := nt zs116 (Keep.of_wr W104).1
    have zs118 := nt zs117 K110q.1
    refine cSS (rest := []) X110 hx hS (nt hk zs118) hZ hown (ow hw 34 rfl) (ow hw 35 rfl) (ow hw 2 rfl) (ow hw 36 rfl) (rm_ref l Z a0 hw [] d1 z T110.heap n0 Z111 O111 u1b S0 hz S_ad S_hi S_lo) (jp hw) R111.1 hby at_135 rfl pd_1011 0 (by rw [hml]; rfl) rfl rfl rfl rfl (by decide) (by decide) fun _ T114 Lc114 X114 hS hZ hown hQ114 rq114 => ?_
    obtain ⟨a114, rfl, N114q, K114q, T114q⟩ := hQ114
    have N114 := Fr.app N110 N114q
    have r119 : CHr Z jg s.vm T110.heap T114.vm T114.heap := rq114
    have R119 := R111.trans r119
    have Z119 := nt Z111 K114q.1
    have O119 := O111.keep K114q all0
    have K119 := K111.trans K114q all0
    refine gsW (fun _ k => jl (pc' := 143) X114 hx hby at_138 (jo X114 hx hby at_143 rfl rfl (jd X114 hx hby at_145 rfl (je (v := (2 : Int32)) X114 hx hby at_147 (ji X114 hx hby at_148 (flt (by decide : ¬ ((2 : Int32) < (2 : Int32)))).1 (jd X114 hx hby at_151 rfl k)))))) ?_
    refine cSS (rest := []) X114 hx hS (Nat.le_refl T114.heap.size) hZ hown (ow hw 34 rfl) (ow hw 35 rfl) (ow hw 2 rfl) (ow hw 36 rfl) (rm_ref l Z a0 hw [] d2 z T114.heap n0 Z119 O119 u2b S0 hz S_ad S_hi S_lo) (jp hw) R119.1 hby at_153 rfl pd_1011 0 (by rw [hml]; rfl) rfl rfl rfl rfl (by decide) (by decide) fun _ T120 Lc120 X120 hS hZ hown hQ120 rq120 => ?_
    obtain ⟨a120, rfl, N120q, K120q, T120q⟩ := hQ120
    have N120 := Fr.app N114 N120q
    have r121 : CHr Z jg T114.vm T114.heap T120.vm T120.heap := rq120
    have R121 := R119.trans r121
    have Z121 := nt Z119 K120q.1
    have O121 := O119.keep K120q all0
    have K121 := K119.trans K120q all0
    refine gsW (fun _ k => jl (pc' := 161) X120 hx hby at_156 (jo X120 hx hby at_161 rfl rfl (jd X120 hx hby at_163 rfl (je (v := (3 : Int32)) X120 hx hby at_165 (jh (pc' := 177) X120 hx hby at_166 (tlt (by decide : (2 : Int32) < (3 : Int32))).1 k))))) ?_
    obtain ⟨a122, T122, h122, k122, t122, kb122, X122, e122, E122, hS, hk122, hZ, hown, g122e, g122c, g122v, g122a, -, -, r122x, -, ne122, st122⟩ := ldcCH X120 hx hZ hown (ow hw 40 rfl) (jD hw) rfl hS (Nat.le_refl T120.heap.size) (jp hw) (List.mem_of_getElem? (i := 5) rfl) R121.1 (vs := ((([] : List Int32).map (fun c => c.toInt8.toInt32)).map Value.int)) (z := (0 : Int32)) ⟨by decide, by rfl⟩ (by decide) rfl (g := (mkF m 177 #[iv i0, iv i1, iv i2, iv i3, iv (2 : Int32), iv d1, iv d2, iv d3, rv b98, rv a114, rv a120, uu, uu, uu] [])) rfl (hb hby at_177) (n := 0) (by decide) (by decide) (by decide) (by decide)
    have r123 : CHr Z jg T120.vm T120.heap T122.vm h122 := r122x
    have R123 := R121.trans r123
    have Z123 := nt Z121 E122.1
    have O123 := O121.ext E122
    have K123 := K121.ext E122
    have T122q : Str Z h122 a122 ([] : List Int32) := ⟨_, _, g122e, g122c, g122v, g122a⟩
    have zs124 := nt zs112 (Keep.of_wr W104).1
    have zs125 := nt zs124 K110q.1
    have zs126 := nt zs125 K114q.1
    have zs127 := nt zs126 K120q.1
    have f128 := (r123.safe (nu A98.lt zs127) (r121.safe (nu A98.lt zs126) (r119.safe (nu A98.lt zs125) (r111.safe (nu A98.lt zs124) f113))))
    refine gsW (S' := T122.setTop (mkF m 179 #[iv i0, iv i1, iv i2, iv i3, iv (2 : Int32), iv d1, iv d2, iv d3, rv b98, rv a114, rv a120, uu, uu, uu] [(.ref a122)])) st122 ?_
    have Tg129 := T122q.sg (by decide)
    refine gsW (fun _ k => jo X122 hx hby at_179 rfl rfl (jf X122 hx hby at_181 rfl rfl k)) ?_
    have f130 := (((T110q.keep0 K114q).keep0 K120q).ext E122)
    refine cSS (rest := []) X122 hx hS hk122 hZ hown (ow hw 41 rfl) (ow hw 42 rfl) (ow hw 43 rfl) (ow hw 44 rfl) (rm_es l Z a0 hw [] b98 ([d1, d2] : List Int32) z fm h122 n0 Z123 O123 f130 (nb rfl) S0 hz S4 hfm S_ad S_hi S_lo) (jp hw) R123.1 hby at_183 e122 pd_1130 0 (by rw [hml]; rfl) rfl rfl rfl rfl (by decide) (by decide) fun _ T131 Lc131 X131 hS hZ hown hQ131 rq131 => ?_
    obtain ⟨a131, rfl, N131q, K131q, T131q⟩ := hQ131
    have N131 := Fr.app N120 N131q
    have r132 : CHr Z jg T122.vm h122 T131.vm T131.heap := rq131
    have R132 := R123.trans r132
    have Z132 := nt Z123 K131q.1
    have O132 := O123.keep K131q all0
    have K132 := K123.trans K131q all0
    have Tr131 : SG Z T131.heap a131 (((jc d1) ++ (jc d2)) ++ ([] : List Int32)) := by rw [← (by simp : ([d1, d2] : List Int32).flatMap jc = ((jc d1) ++ (jc d2)) ++ ([] : List Int32))]; exact T131q
    have hal : (((jc d1) ++ (jc d2)) ++ ([] : List Int32)).length ≤ 100 := by have q1 : (jc d1).length ≤ 6 := (jB d1).1; have q2 : (jc d2).length ≤ 6 := (jB d2).1; have q3 : ([] : List Int32).length ≤ 6 := (by decide); rw [List.length_append, List.length_append]; omega
    refine gsW (fun _ k => jo X131 hx hby at_186 rfl rfl (jf X131 hx hby at_188 rfl rfl k)) ?_
    have f133 := (((T114q.keep0 K120q).ext E122).keep0 K131q)
    refine cVW (rest := []) X131 hx hZ hown (ow hw 199 rfl) (ow hw 49 rfl) (nfs hZ (ow hw 51 rfl)) (ow hw 51 rfl) (ow hw 50 rfl) (ow hw 6 rfl) (ow hw 52 rfl) (rm_len l Z a0 hw [] a114 (jc d1) z T131.heap n0 Z132 O132 f133 (nt (jB d1).1 (by decide)) S0 hz) hby at_190 rfl pd_573 0 (by rw [hml]; rfl) f133.exa rfl rfl rfl rfl (by decide) (by decide) fun _ T134 Lc134 X134 hQ134 => ?_
    obtain ⟨rfl, N134q, e134q⟩ := hQ134
    have N134 := Fr.app N131 N134q
    refine gsW (fun _ k => jf X134 hx hby at_193 rfl rfl k) ?_
    have f135 := ((T120q.ext E122).keep0 K131q)
    refine cVW (rest := [(.int (oI (jc d1).length))]) X134 hx hZ hown (ow hw 199 rfl) (ow hw 49 rfl) (nfs hZ (ow hw 51 rfl)) (ow hw 51 rfl) (ow hw 50 rfl) (ow hw 6 rfl) (ow hw 52 rfl) (rm_len l Z a0 hw [] a120 (jc d2) z T131.heap n0 Z132 O132 f135 (nt (jB d2).1 (by decide)) S0 hz) hby at_195 e134q pd_573 1 (by rw [hml]; rfl) f135.exa rfl rfl rfl rfl (by decide) (by decide) fun _ T136 Lc136 X136 hQ136 => ?_
    obtain ⟨rfl, N136q, e136q⟩ := hQ136
    have N136 := Fr.app N134 N136q
    refine gsW (fun _ k => jI X136 hx hby at_198 (jf X136 hx hby at_199 rfl rfl k)) ?_
    have f137 := (Tg129.keep0 K131q)
    refine cVW (rest := [(.int ((oI (jc d1).length) + (oI (jc d2).length)))]) X136 hx hZ hown (ow hw 199 rfl) (ow hw 49 rfl) (nfs hZ (ow hw 51 rfl)) (ow hw 51 rfl) (ow hw 50 rfl) (ow hw 6 rfl) (ow hw 52 rfl) (rm_len l Z a0 hw [] a122 ([] : List Int32) z T131.heap n0 Z132 O132 f137 (by decide) S0 hz) hby at_201 e136q pd_573 1 (by rw [hml]; rfl) f137.exa rfl rfl rfl rfl (by decide) (by decide) fun _ T138 Lc138 X138 hQ138 => ?_
    obtain ⟨rfl, N138q, e138q⟩ := hQ138
    have N138 := Fr.app N136 N138q
    refine gsW (fun _ k => jI X138 hx hby at_204 (jj X138 hx hby at_205 rfl (jf X138 hx hby at_207 rfl rfl k))) ?_
    refine cVW (rest := []) X138 hx hZ hown (ow hw 199 rfl) (ow hw 49 rfl) (nfs hZ (ow hw 51 rfl)) (ow hw 51 rfl) (ow hw 50 rfl) (ow hw 6 rfl) (ow hw 52 rfl) (rm_len l Z a0 hw [] a131 (((jc d1) ++ (jc d2)) ++ ([] : List Int32)) z T131.heap n0 Z132 O132 Tr131 hal S0 hz) hby at_209 e138q pd_573 0 (by rw [hml]; rfl) Tr131.exa rfl rfl rfl rfl (by decide) (by decide) fun _ T139 Lc139 X139 hQ139 => ?_
    obtain ⟨rfl, N139q, e139q⟩ := hQ139
    have N139 := Fr.app N138 N139q
    refine gsW (fun _ k => jd X139 hx hby at_212 rfl (jh (pc' := 219) X139 hx hby at_214 (teq (own_tot (jc d1) (jc d2) ([] : List Int32))).1 k)) ?_
    exact mid T131.vm _ T139 T131.heap _ (2 : Int32) (((oI (jc d1).length) + (oI (jc d2).length)) + (oI ([] : List Int32).length)) b98 a114 a120 a122 a131 (jc d1) (jc d2) ([] : List Int32) hS (Nat.le_refl T131.heap.size) hZ hown (X139.more (by decide) (by decide)) e139q N139 Z132 O132 K132 R132 Tr131 f133 f135 f137 (jB d1).1 (jB d2).1 (by decide)
  · show OwnGoW p e below s Z jg _ _ _ (T3.setTop (mkF m 23 #[iv i0, iv i1, iv i2, iv i3, iv ((i3 &&& (3 : Int32))), iv d1, iv d2, iv d3, uu, uu, uu, uu, uu, uu] []))
    rw [hn]
    refine gsW (fun _ k => jd X3 hx hby at_23 rfl (jt (pc' := 43) X3 hx hby at_25 ((if0 _ _).trans (feq (by decide : ¬ ((3 : Int32) = (0 : Int32)))).2) (jd X3 hx hby at_43 rfl (je (v := (1 : Int32)) X3 hx hby at_45 (jh (pc' := 69) X3 hx hby at_46 (feq (by decide : ¬ ((3 : Int32) = (1 : Int32)))).2 (jd X3 hx hby at_69 rfl (je (v := (2 : Int32)) X3 hx hby at_71 (jh (pc' := 100) X3 hx hby at_72 (feq (by decide : ¬ ((3 : Int32) = (2 : Int32)))).2 k)))))))) ?_
    obtain ⟨T140, h140, X140, e140, E140, A140, D140, -, st140⟩ := newO X3 hx hZ hown (ow hw 4 rfl) (ow hw 5 rfl) (ow hw 6 rfl) e3q (g := (mkF m 100 #[iv i0, iv i1, iv i2, iv i3, iv (3 : Int32), iv d1, iv d2, iv d3, uu, uu, uu, uu, uu, uu] [])) rfl (hb hby at_100) (by decide) (by decide)
    obtain ⟨b140, q140⟩ : ∃ z, z = h0.size := ⟨_, rfl⟩
    rw [← q140] at A140 D140 st140
    have g_b140 : n0 ≤ b140 := nt Z0 (Nat.le_of_eq q140.symm)
    have sz_b140 : h0.size ≤ b140 := nt K0.1 (Nat.le_of_eq q140.symm)
    have sfa140 : Safe Z jg s.vm h0 b140 := Safe.new (Nat.le_of_eq q140.symm)
    have r141 : CHr Z jg s.vm h0 s.vm h140 := CHr.ext E140 R0.1
    have R141 := R0.trans r141
    have Z141 := nt Z0 E140.1
    have O141 := O0.ext E140
    have K141 := K0.ext E140
    have sfb140 := Safe.ext E140 R0.1 sfa140
    have F_coder_b140 : Fld Z h140 b140 "java/lang/String" "coder" "B" (.int (0 : Int32)) := D140 (Or.inr (ow hw 31 rfl)) (ty := .byte) (by decide)
    have F_value_b140 : Fld Z h140 b140 "java/lang/String" "value" "[B" .null := D140 (Or.inr (ow hw 33 rfl)) (ty := (.array .byte)) (by decide)
    refine gsW (S' := T140.setTop (mkF m 103 #[iv i0, iv i1, iv i2, iv i3, iv (3 : Int32), iv d1, iv d2, iv d3, uu, uu, uu, uu, uu, uu] [(.ref b140)])) st140 ?_
    refine gsW (fun _ k => jP X140 hx hby at_103 rfl (je (v := (3 : Int32)) X140 hx hby at_104 k)) ?_
    obtain ⟨T142, h142, k142, X142, e142, E142, A142, st142⟩ := newP X140 hx hZ (ow hw 7 rfl) e140 (g := (mkF m 105 #[iv i0, iv i1, iv i2, iv i3, iv (3 : Int32), iv d1, iv d2, iv d3, uu, uu, uu, uu, uu, uu] [(.int (3 : Int32)), (.ref b140), (.ref b140)])) rfl (hb hby at_105) rfl (by decide) (cap := 3) (by decide) (by decide) (by decide) (by decide)
    obtain ⟨b142, q142⟩ : ∃ z, z = h140.size := ⟨_, rfl⟩
    rw [← q142] at A142 st142
    have g_b142 : n0 ≤ b142 := nt Z141 (Nat.le_of_eq q142.symm)
    have sz_b142 : h0.size ≤ b142 := nt K141.1 (Nat.le_of_eq q142.symm)
    have r143 : CHr Z jg s.vm h140 s.vm h142 := CHr.ext E142 R141.1
    have R143 := R141.trans r143
    have Z143 := nt Z141 E142.1
    have O143 := O141.ext E142
    have K143 := K141.ext E142
    have V142 : Arv Z h142 b142 k142 .char (3 : Int32) [(.int (0 : Int32)), (.int (0 : Int32)), (.int (0 : Int32))] (.int (0 : Int32)) := (Arv.new A142 (by decide)).pad (pad_rep [] (.int (0 : Int32)) 3)
    refine gsW (S' := T142.setTop (mkF m 107 #[iv i0, iv i1, iv i2, iv i3, iv (3 : Int32), iv d1, iv d2, iv d3, uu, uu, uu, uu, uu, uu] [(.ref b142), (.ref b140), (.ref b140)])) st142 ?_
    refine gsW (fun _ k => jP X142 hx hby at_107 rfl (je (v := (0 : Int32)) X142 hx hby at_108 (jd X142 hx hby at_109 rfl k))) ?_
    obtain ⟨cl144, A144, a144q, a144S, a144N, a144H, a144G⟩ := id V142
    obtain ⟨T144, h144, X144, e144, W144, st144⟩ := stC X142 hx hZ e142 A144 (j := (0 : Int32)) (inb_of a144S ⟨by decide, by decide⟩) (g := (mkF m 111 #[iv i0, iv i1, iv i2, iv i3, iv (3 : Int32), iv d1, iv d2, iv d3, uu, uu, uu, uu, uu, uu] [(.int d1), (.int (0 : Int32)), (.ref b142), (.ref b142), (.ref b140), (.ref b140)])) rfl rfl (hb hby at_111)
    have V144 : Arv Z h144 b142 k142 .char (3 : Int32) [(.int (nar .char d1)), (.int (0 : Int32)), (.int (0 : Int32))] (.int (0 : Int32)) := Arv.set A144 a144q a144S a144N a144H a144G (fits_nar_char _) W144 0 rfl (nb rfl)
    have N144 := Fr.snoc X144 N3 g_b142
    have r145 : CHr Z jg s.vm h142 s.vm h144 := CHr.wr W144 (Safe.arv hZ.alike V142 (by decide)) R143.1
    have R145 := R143.trans r145
    have Z145 := nt Z143 (Keep.of_wr W144).1
    have O145 := O143.wr W144 g_b142
    have K145 := K143.wr W144 (Or.inr sz_b142)
    refine gsW (S' := T144.setTop (mkF m 112 #[iv i0, iv i1, iv i2, iv i3, iv (3 : Int32), iv d1, iv d2, iv d3, uu, uu, uu, uu, uu, uu] [(.ref b142), (.ref b140), (.ref b140)])) st144 ?_
    refine gsW (fun _ k => jP X144 hx hby at_112 rfl (je (v := (1 : Int32)) X144 hx hby at_113 (jd X144 hx hby at_114 rfl k))) ?_
    obtain ⟨cl146, A146, a146q, a146S, a146N, a146H, a146G⟩ := id V144
    obtain ⟨T146, h146, X146, e146, W146, st146⟩ := stC X144 hx hZ e144 A146 (j := (1 : Int32)) (inb_of a146S ⟨by decide, by decide⟩) (g := (mkF m 116 #[iv i0, iv i1, iv i2, iv i3, iv (3 : Int32), iv d1, iv d2, iv d3, uu, uu, uu, uu, uu, uu] [(.int d2), (.int (1 : Int32)), (.ref b142), (.ref b142), (.ref b140), (.ref b140)])) rfl rfl (hb hby at_116)
    have V146 : Arv Z h146 b142 k142 .char (3 : Int32) [(.int (nar .char d1)), (.int (nar .char d2)), (.int (0 : Int32))] (.int (0 : Int32)) := Arv.set A146 a146q a146S a146N a146H a146G (fits_nar_char _) W146 1 rfl (nb rfl)
    have N146 := Fr.snoc X146 N144 g_b142
    have r147 : CHr Z jg s.vm h144 s.vm h146 := CHr.wr W146 (Safe.arv hZ.alike V144 (by decide)) R145.1
    have R147 := R145.trans r147
    have Z147 := nt Z145 (Keep.of_wr W146).1
    have O147 := O145.wr W146 g_b142
    have K147 := K145.wr W146 (Or.inr sz_b142)
    refine gsW (S' := T146.setTop (mkF m 117 #[iv i0, iv i1, iv i2, iv i3, iv (3 : Int32), iv d1, iv d2, iv d3, uu, uu, uu, uu, uu, uu] [(.ref b142), (.ref b140), (.ref b140)])) st146 ?_
    refine gsW (fun _ k => jP X146 hx hby at_117 rfl (je (v := (2 : Int32)) X146 hx hby at_118 (jd X146 hx hby at_119 rfl k))) ?_
    obtain ⟨cl148, A148, a148q, a148S, a148N, a148H, a148G⟩ := id V146
    obtain ⟨T148, h148, X148, e148, W148, st148⟩ := stC X146 hx hZ e146 A148 (j := (2 : Int32)) (inb_of a148S ⟨by decide, by decide⟩) (g := (mkF m 121 #[iv i0, iv i1, iv i2, iv i3, iv (3 : Int32), iv d1, iv d2, iv d3, uu, uu, uu, uu, uu, uu] [(.int d3), (.int (2 : Int32)), (.ref b142), (.ref b142), (.ref b140), (.ref b140)])) rfl rfl (hb hby at_121)
    have V148 : Arv Z h148 b142 k142 .char (3 : Int32) [(.int (nar .char d1)), (.int (nar .char d2)), (.int (nar .char d3))] (.int (0 : Int32)) := Arv.set A148 a148q a148S a148N a148H a148G (fits_nar_char _) W148 2 rfl (nb rfl)
    have N148 := Fr.snoc X148 N146 g_b142
    have r149 : CHr Z jg s.vm h146 s.vm h148 := CHr.wr W148 (Safe.arv hZ.alike V146 (by decide)) R147.1
    have R149 := R147.trans r149
    have Z149 := nt Z147 (Keep.of_wr W148).1
    have O149 := O147.wr W148 g_b142
    have K149 := K147.wr W148 (Or.inr sz_b142)
    refine gsW (S' := T148.setTop (mkF m 122 #[iv i0, iv i1, iv i2, iv i3, iv (3 : Int32), iv d1, iv d2, iv d3, uu, uu, uu, uu, uu, uu] [(.ref b142), (.ref b140), (.ref b140)])) st148 ?_
    have Vc150 := V148
    rw [jJ u1b, jJ u2b, jJ u3b] at Vc150
    have f151 := ((((A140.ext E142).wr W144).wr W146).wr W148)
    have f152 := ((((F_value_b140.ext E142).other W144 (Or.inl (nw (nu (nu A140.lt (Nat.le_refl _)) (Nat.le_of_eq q142.symm))))).other W146 (Or.inl (nw (nu (nu A140.lt (Nat.le_refl _)) (Nat.le_of_eq q142.symm))))).other W148 (Or.inl (nw (nu (nu A140.lt (Nat.le_refl _)) (Nat.le_of_eq q142.symm)))))
    have f153 := ((((F_coder_b140.ext E142).other W144 (Or.inl (nw (nu (nu A140.lt (Nat.le_refl _)) (Nat.le_of_eq q142.symm))))).other W146 (Or.inl (nw (nu (nu A140.lt (Nat.le_refl _)) (Nat.le_of_eq q142.symm))))).other W148 (Or.inl (nw (nu (nu A140.lt (Nat.le_refl _)) (Nat.le_of_eq q142.symm)))))
    refine cIW (rest := [(.ref b140)]) X148 hx hZ hown rfl (ow hw 8 rfl) (ow hw 9 rfl) (ow hw 6 rfl) (ow hw 10 rfl) (rm_s1_3 l Z a0 hw [] b140 b142 k142 d1 d2 d3 z h148 n0 Z149 O149 f151 f152 f153 g_b140 Vc150 u1b u2b u3b S_ad S_hi S_lo S0 hz) hby at_122 e148 pd_1129 1 (by rw [hml]; rfl) rfl rfl rfl rfl (by decide) (by decide) fun _ T154 Lc154 X154 hQ154 => ?_
    obtain ⟨rfl, N154q, K154q, T154q⟩ := hQ154
    have N154 := Fr.app N148 N154q
    have zs156 := nt E142.1 (Keep.of_wr W144).1
    have zs157 := nt zs156 (Keep.of_wr W146).1
    have f158 := (r149.safe (nu A140.lt zs157) (r147.safe (nu A140.lt zs156) (r145.safe (nu A140.lt E142.1) (r143.safe (nu A140.lt (Nat.le_refl _)) sfb140))))
    have r155 : CHr Z jg s.vm h148 s.vm T154.heap := CHr.keep K154q (sfS f158 sf0) R149.1
    have R155 := R149.trans r155
    have Z155 := nt Z149 K154q.1
    have O155 := O149.keep K154q (allS g_b140 all0)
    have K155 := K149.trans K154q (allS (Or.inr sz_b140) all0)
    refine gsW (fun _ k => jo X154 hx hby at_125 rfl rfl (jd X154 hx hby at_127 rfl (je (v := (1 : Int32)) X154 hx hby at_129 (ji X154 hx hby at_130 (flt (by decide : ¬ ((3 : Int32) < (1 : Int32)))).1 (jd X154 hx hby at_133 rfl k))))) ?_
    have zs160 := nt E140.1 E142.1
    have zs161 := nt zs160 (Keep.of_wr W144).1
    have zs162 := nt zs161 (Keep.of_wr W146).1
    have zs163 := nt zs162 (Keep.of_wr W148).1
    have zs164 := nt zs163 K154q.1
    refine cSS (rest := []) X154 hx hS (nt hk zs164) hZ hown (ow hw 34 rfl) (ow hw 35 rfl) (ow hw 2 rfl) (ow hw 36 rfl) (rm_ref l Z a0 hw [] d1 z T154.heap n0 Z155 O155 u1b S0 hz S_ad S_hi S_lo) (jp hw) R155.1 hby at_135 rfl pd_1011 0 (by rw [hml]; rfl) rfl rfl rfl rfl (by decide) (by decide) fun _ T159 Lc159 X159 hS hZ hown hQ159 rq159 => ?_
    obtain ⟨a159, rfl, N159q, K159q, T159q⟩ := hQ159
    have N159 := Fr.app N154 N159q
    have r165 : CHr Z jg s.vm T154.heap T159.vm T159.heap := rq159
    have R165 := R155.trans r165
    have Z165 := nt Z155 K159q.1
    have O165 := O155.keep K159q all0
    have K165 := K155.trans K159q all0
    refine gsW (fun _ k => jl (pc' := 143) X159 hx hby at_138 (jo X159 hx hby at_143 rfl rfl (jd X159 hx hby at_145 rfl (je (v := (2 : Int32)) X159 hx hby at_147 (ji X159 hx hby at_148 (flt (by decide : ¬ ((3 : Int32) < (2 : Int32)))).1 (jd X159 hx hby at_151 rfl k)))))) ?_
    refine cSS (rest := []) X159 hx hS (Nat.le_refl T159.heap.size) hZ hown (ow hw 34 rfl) (ow hw 35 rfl) (ow hw 2 rfl) (ow hw 36 rfl) (rm_ref l Z a0 hw [] d2 z T159.heap n0 Z165 O165 u2b S0 hz S_ad S_hi S_lo) (jp hw) R165.1 hby at_153 rfl pd_1011 0 (by rw [hml]; rfl) rfl rfl rfl rfl (by decide) (by decide) fun _ T166 Lc166 X166 hS hZ hown hQ166 rq166 => ?_
    obtain ⟨a166, rfl, N166q, K166q, T166q⟩ := hQ166
    have N166 := Fr.app N159 N166q
    have r167 : CHr Z jg T159.vm T159.heap T166.vm T166.heap := rq166
    have R167 := R165.trans r167
    have Z167 := nt Z165 K166q.1
    have O167 := O165.keep K166q all0
    have K167 := K165.trans K166q all0
    refine gsW (fun _ k => jl (pc' := 161) X166 hx hby at_156 (jo X166 hx hby at_161 rfl rfl (jd X166 hx hby at_163 rfl (je (v := (3 : Int32)) X166 hx hby at_165 (ji X166 hx hby at_166 (flt (by decide : ¬ ((3 : Int32) < (3 : Int32)))).1 (jd X166 hx hby at_169 rfl k)))))) ?_
    refine cSS (rest := []) X166 hx hS (Nat.le_refl T166.heap.size) hZ hown (ow hw 34 rfl) (ow hw 35 rfl) (ow hw 2 rfl) (ow hw 36 rfl) (rm_ref l Z a0 hw [] d3 z T166.heap n0 Z167 O167 u3b S0 hz S_ad S_hi S_lo) (jp hw) R167.1 hby at_171 rfl pd_1011 0 (by rw [hml]; rfl) rfl rfl rfl rfl (by decide) (by decide) fun _ T168 Lc168 X168 hS hZ hown hQ168 rq168 => ?_
    obtain ⟨a168, rfl, N168q, K168q, T168q⟩ := hQ168
    have N168 := Fr.app N166 N168q
    have r169 : CHr Z jg T166.vm T166.heap T168.vm T168.heap := rq168
    have R169 := R167.trans r169
    have Z169 := nt Z167 K168q.1
    have O169 := O167.keep K168q all0
    have K169 := K167.trans K168q all0
    refine gsW (fun _ k => jl (pc' := 179) X168 hx hby at_174 (jo X168 hx hby at_179 rfl rfl (jf X168 hx hby at_181 rfl rfl k))) ?_
    have f170 := (((T154q.keep0 K159q).keep0 K166q).keep0 K168q)
    refine cSS (rest := []) X168 hx hS (Nat.le_refl T168.heap.size) hZ hown (ow hw 41 rfl) (ow hw 42 rfl) (ow hw 43 rfl) (ow hw 44 rfl) (rm_es l Z a0 hw [] b140 ([d1, d2, d3] : List Int32) z fm T168.heap n0 Z169 O169 f170 (nb rfl) S0 hz S4 hfm S_ad S_hi S_lo) (jp hw) R169.1 hby at_183 rfl pd_1130 0 (by rw [hml]; rfl) rfl rfl rfl rfl (by decide) (by decide) fun _ T171 Lc171 X171 hS hZ hown hQ171 rq171 => ?_
    obtain ⟨a171, rfl, N171q, K171q, T171q⟩ := hQ171
    have N171 := Fr.app N168 N171q
    have r172 : CHr Z jg T168.vm T168.heap T171.vm T171.heap := rq171
    have R172 := R169.trans r172
    have Z172 := nt Z169 K171q.1
    have O172 := O169.keep K171q all0
    have K172 := K169.trans K171q all0
    have Tr171 : SG Z T171.heap a171 (((jc d1) ++ (jc d2)) ++ (jc d3)) := by rw [← (by simp : ([d1, d2, d3] : List Int32).flatMap jc = ((jc d1) ++ (jc d2)) ++ (jc d3))]; exact T171q
    have hal : (((jc d1) ++ (jc d2)) ++ (jc d3)).length ≤ 100 := by have q1 : (jc d1).length ≤ 6 := (jB d1).1; have q2 : (jc d2).length ≤ 6 := (jB d2).1; have q3 : (jc d3).length ≤ 6 := (jB d3).1; rw [List.length_append, List.length_append]; omega
    refine gsW (fun _ k => jo X171 hx hby at_186 rfl rfl (jf X171 hx hby at_188 rfl rfl k)) ?_
    have f173 := (((T159q.keep0 K166q).keep0 K168q).keep0 K171q)
    refine cVW (rest := []) X171 hx hZ hown (ow hw 199 rfl) (ow hw 49 rfl) (nfs hZ (ow hw 51 rfl)) (ow hw 51 rfl) (ow hw 50 rfl) (ow hw 6 rfl) (ow hw 52 rfl) (rm_len l Z a0 hw [] a159 (jc d1) z T171.heap n0 Z172 O172 f173 (nt (jB d1).1 (by decide)) S0 hz) hby at_190 rfl pd_573 0 (by rw [hml]; rfl) f173.exa rfl rfl rfl rfl (by decide) (by decide) fun _ T174 Lc174 X174 hQ174 => ?_
    obtain ⟨rfl, N174q, e174q⟩ := hQ174
    have N174 := Fr.app N171 N174q
    refine gsW (fun _ k => jf X174 hx hby at_193 rfl rfl k) ?_
    have f175 := ((T166q.keep0 K168q).keep0 K171q)
    refine cVW (rest := [(.int (oI (jc d1).length))]) X174 hx hZ hown (ow hw 199 rfl) (ow hw 49 rfl) (nfs hZ (ow hw 51 rfl)) (ow hw 51 rfl) (ow hw 50 rfl) (ow hw 6 rfl) (ow hw 52 rfl) (rm_len l Z a0 hw [] a166 (jc d2) z T171.heap n0 Z172 O172 f175 (nt (jB d2).1 (by decide)) S0 hz) hby at_195 e174q pd_573 1 (by rw [hml]; rfl) f175.exa rfl rfl rfl rfl (by decide) (by decide) fun _ T176 Lc176 X176 hQ176 => ?_
    obtain ⟨rfl, N176q, e176q⟩ := hQ176
    have N176 := Fr.app N174 N176q
    refine gsW (fun _ k => jI X176 hx hby at_198 (jf X176 hx hby at_199 rfl rfl k)) ?_
    have f177 := (T168q.keep0 K171q)
    refine cVW (rest := [(.int ((oI (jc d1).length) + (oI (jc d2).length)))]) X176 hx hZ hown (ow hw 199 rfl) (ow hw 49 rfl) (nfs hZ (ow hw 51 rfl)) (ow hw 51 rfl) (ow hw 50 rfl) (ow hw 6 rfl) (ow hw 52 rfl) (rm_len l Z a0 hw [] a168 (jc d3) z T171.heap n0 Z172 O172 f177 (nt (jB d3).1 (by decide)) S0 hz) hby at_201 e176q pd_573 1 (by rw [hml]; rfl) f177.exa rfl rfl rfl rfl (by decide) (by decide) fun _ T178 Lc178 X178 hQ178 => ?_
    obtain ⟨rfl, N178q, e178q⟩ := hQ178
    have N178 := Fr.app N176 N178q
    refine gsW (fun _ k => jI X178 hx hby at_204 (jj X178 hx hby at_205 rfl (jf X178 hx hby at_207 rfl rfl k))) ?_
    refine cVW (rest := []) X178 hx hZ hown (ow hw 199 rfl) (ow hw 49 rfl) (nfs hZ (ow hw 51 rfl)) (ow hw 51 rfl) (ow hw 50 rfl) (ow hw 6 rfl) (ow hw 52 rfl) (rm_len l Z a0 hw [] a171 (((jc d1) ++ (jc d2)) ++ (jc d3)) z T171.heap n0 Z172 O172 Tr171 hal S0 hz) hby at_209 e178q pd_573 0 (by rw [hml]; rfl) Tr171.exa rfl rfl rfl rfl (by decide) (by decide) fun _ T179 Lc179 X179 hQ179 => ?_
    obtain ⟨rfl, N179q, e179q⟩ := hQ179
    have N179 := Fr.app N178 N179q
    refine gsW (fun _ k => jd X179 hx hby at_212 rfl (jh (pc' := 219) X179 hx hby at_214 (teq (own_tot (jc d1) (jc d2) (jc d3))).1 k)) ?_
    exact mid T171.vm _ T179 T171.heap _ (3 : Int32) (((oI (jc d1).length) + (oI (jc d2).length)) + (oI (jc d3).length)) b140 a159 a166 a168 a171 (jc d1) (jc d2) (jc d3) hS (Nat.le_refl T171.heap.size) hZ hown (X179.more (by decide) (by decide)) e179q N179 Z172 O172 K172 R172 Tr171 f173 f175 f177 (jB d1).1 (jB d2).1 (jB d3).1
theorem comes_1 {Post : Tables → Env → Array Value → State → Outcome → State → Prop} (hpost : ∀ tb e args s v u, (limb_1_1.after args s (.returned v) u = true ∧ limb_1_2.after args s (.returned v) u = true ∧ True) → ReturnedEndW s (.returned v) u (Jvm.fieldLocs frame_1_writes args s ++ Jvm.arrayLocs frame_1_arrays args s ++ Jvm.staticLocs frame_1_statics s) 64 12672 → Post tb e args s (.returned v) u) :
    ArmFor flags0 classFile x code maxLocals ret World_1 tables_1 room_1 Calls_1 rest_1 Pre_1 Post := by
  intro l hfl _ _ p e ha hc hk s m args below hf hA hF happ hP
  obtain ⟨hcalls, hrest, hpre⟩ := hP
  obtain ⟨-, -, -, hnamed, -, -, -, hat⟩ := (Spec.applies_iff hf).mp happ
  obtain ⟨hg, hn⟩ := and_e (Cond.before_iff.mp (show (Jvm.Cond.and given_1 narrow_1).before args s = true from hpre))
  obtain ⟨hcnt, ga0⟩ := and_e hg
  obtain ⟨gi0, ga1⟩ := and_e ga0
  obtain ⟨gi1, ga2⟩ := and_e ga1
  obtain ⟨gi2, ga3⟩ := and_e ga2
  have gi3 := ga3
  obtain ⟨w0, w1, w2, w3, rfl⟩ : ∃ w0 w1 w2 w3 : Value, args = #[w0, w1, w2, w3] := by
    have hs : args.size = 4 := by simpa [Cond.value, given_1] using hcnt
    obtain ⟨L⟩ := args
    match L, hs with
    | [w0, w1, w2, w3], _ => exact ⟨w0, w1, w2, w3, rfl⟩
  have hw := fun d (hd : d ∈ tables_1) => atoms_spec (ws := Jvm.Cond.code x code maxLocals ret :: tables_1) hat d (List.mem_cons_of_mem _ hd)
  obtain ⟨hsets, hown0⟩ := atoms_of _ (rest_1_c_eq ▸ (show rest_1_c.before _ s = true from hrest))
  have hfit : Fit s := fun {y c} hc i hi => by
    obtain ⟨ha, rfl⟩ := Array.getElem?_eq_some_iff.mp hc
    have q := List.all_eq_true.mp ((Array.all_eq_true_iff_forall_mem.mp hF) _ (Array.getElem_mem ha)) i (List.mem_range.mpr hi)
    simpa [Array.getElem?_eq_getElem hi] using q
  obtain ⟨i0, ei0⟩ := is_v gi0
  obtain rfl : w0 = (.int i0) := Option.some.inj ei0
  obtain ⟨i1, ei1⟩ := is_v gi1
  obtain rfl : w1 = (.int i1) := Option.some.inj ei1
  obtain ⟨i2, ei2⟩ := is_v gi2
  obtain rfl : w2 = (.int i2) := Option.some.inj ei2
  obtain ⟨i3, ei3⟩ := is_v gi3
  obtain rfl : w3 = (.int i3) := Option.some.inj ei3
  have n5 := not_v (Cond.before_iff.mp (hsets _ (List.mem_of_getElem? (i := 2) rfl)))
  obtain ⟨cz, ecz⟩ := is_v (Cond.before_iff.mp (hsets _ (List.mem_of_getElem? (i := 1) rfl)))
  have Scz : Sta s s.heap "java/lang/String" "COMPACT_STRINGS" "Z" (.int cz) := Sta.start ecz (Or.inl (hsets _ (List.mem_of_getElem? (i := 0) rfl)))
  have hcz : ¬ (cz = (0 : Int32)) := gotF (Cond.eq_ints ecz (Term.int_eval (0))) n5
  obtain ⟨fm, efm, rfm⟩ := isR_v (Cond.before_iff.mp (hsets _ (List.mem_of_getElem? (i := 8) rfl)))
  have S_fm : Sta s s.heap "jdk/internal/util/Preconditions" "SIOOBE_FORMATTER" "Ljava/util/function/BiFunction;" fm := Sta.start efm (Or.inl (hsets _ (List.mem_of_getElem? (i := 7) rfl)))
  have S_ad : Sta s s.heap "java/lang/StringUTF16" "$assertionsDisabled" "Z" (.int (1 : Int32)) := Sta.start (eqv_i (Term.int_eval (1)) (Cond.before_iff.mp (hsets _ (List.mem_of_getElem? (i := 12) rfl)))) (Or.inl (hsets _ (List.mem_of_getElem? (i := 11) rfl)))
  have S_hi : Sta s s.heap "java/lang/StringUTF16" "HI_BYTE_SHIFT" "I" (.int (0 : Int32)) := Sta.start (eqv_i (Term.int_eval (0)) (Cond.before_iff.mp (hsets _ (List.mem_of_getElem? (i := 15) rfl)))) (Or.inl (hsets _ (List.mem_of_getElem? (i := 14) rfl)))
  have S_lo : Sta s s.heap "java/lang/StringUTF16" "LO_BYTE_SHIFT" "I" (.int (8 : Int32)) := Sta.start (eqv_i (Term.int_eval (8)) (Cond.before_iff.mp (hsets _ (List.mem_of_getElem? (i := 18) rfl)))) (Or.inl (hsets _ (List.mem_of_getElem? (i := 17) rfl)))
  have hC : CHv s jg s.vm s.heap := CHv.start (jp hw) (fun p hp => hcalls.1 p hp) (hsets _ (List.mem_of_getElem? (i := 2) rfl)) (ow hw 23 rfl) (ow hw 5 rfl)
  obtain ⟨n, o, h1, h2, h3, _, L, rfl, ⟨rfl, N⟩, -, hq⟩ := rm_law l s _ hw tables_1 i0 i1 i2 i3 cz fm s.heap s.heap.size (Nat.le_refl _) (Old.start s) Scz hcz S_fm rfm S_ad S_hi S_lo p e ha hc hk s m _ below hf ((Spec.applies_iff_loose hf).mp happ).1 ⟨rfl, State.Warmed39.refl s, rfl, hC⟩ trivial
  refine ⟨n, _, h1, h2, h3, hpost _ _ _ _ _ _ ⟨Cond.after_iff.mpr rfl, Cond.after_iff.mpr (eq_i res_at (Term.int_eval (1)) rfl), trivial⟩ ⟨hq.1, hq.2.1, hq.2.2.1, (hq.2.2.2.sift fun y hy => Or.inr (N y hy)).mono (by decide) (by decide)⟩⟩
theorem main_1_1 : Claimed_1_1 := comes_1 fun _ _ _ _ _ _ h hF => ⟨h.1, hF⟩
theorem main_1_2 : Claimed_1_2 := comes_1 fun _ _ _ _ _ _ h hF => ⟨h.2.1, hF⟩
end Jvm.Pilot.@@N@@
namespace Jvm.Pilot.@@N@@
open Jvm Jvm.ClassFile Sem Op Lib Jvm.Free Jvm.Stand Jvm.Pilot.@@N@@.Jvm.D
/-! MADE BY PROGRAM (witnessworld.py) out of the Statement's table words and the real class files: 27 classes; the members and pool entries that the words name. The judged class is class 1, her method 1. -/
namespace start1
open Jvm.ClassFile
def u (s : String) : CpInfo := .utf8 (stringToUtf16 s)
/-- a pool by its gaps: so many unusable entries, then the entry; so many at the end -/
def gap : Nat → List CpInfo → List CpInfo
  | 0, r => r
  | n + 1, r => .unusable :: gap n r
def poolList (es : List (Nat × CpInfo)) (last : Nat) : List CpInfo := es.foldr (fun e r => gap e.1 (e.2 :: r)) (gap last [])
def pool (es : List (Nat × CpInfo)) (last : Nat) : Array CpInfo := ⟨poolList es last⟩
def fileOf (pool : Array CpInfo) (this : Nat) (attrs : Array Attribute := #[]) (ms : Array MethodInfo := #[]) (fl : Nat := 33) (sup : Nat := 0) (ifs : Array Nat := #[]) (fds : Array FieldInfo := #[]) : ClassFile where
  minorVersion := 0
  majorVersion := 65
  constantPool := pool
  accessFlags := fl
  thisClass := this
  superClass := sup
  interfaces := ifs
  fields := fds
  methods := ms
  attributes := attrs
def plain (name : String) (sup : Option ClassId) : Class where
  name := name
  kind := .ordinary
  loader := none
  accessFlags := 33
  super := sup
  interfaces := #[]
  cf := none
  fields := #[]
  methods := #[]
  instanceTypes := #[]
  staticTypes := #[]
  resolved := #[]
  callSites := []
  init := .initialized
  statics := none
  mirror := none

def pool0 : Array CpInfo := pool [(5, u "<init>"), (0, u "()V"), (1, .class_ 10), (1, u "java/lang/Object"), (85, u "clone"), (0, u "()Ljava/lang/Object;")] 26

def k0c0 : Code := { maxStack := 0, maxLocals := 1, code := object_method_1_code, exceptionTable := #[], attributes := #[] }
def k0m0 : Method := { name := "<init>", desc := "()V", sig := { parameters := [], returnType := none }, accessFlags := 1, code := some k0c0 }
def k0m1 : Method := { name := "clone", desc := "()Ljava/lang/Object;", sig := { parameters := [], returnType := some (.object "java/lang/Object") }, accessFlags := 260, code := none }
/-- java/lang/Object -/
def k0 : Class := { plain "java/lang/Object" none with
  accessFlags := 33
  interfaces := #[]
  cf := some (fileOf pool0 8 #[] #[{ accessFlags := 1, nameIndex := 5, descriptorIndex := 6, attributes := #[] }, { accessFlags := 260, nameIndex := 96, descriptorIndex := 97, attributes := #[] }] 33 0 #[] #[])
  fields := #[]
  methods := #[k0m0, k0m1]
  instanceTypes := #[]
  staticTypes := #[]
  resolved := Array.replicate 124 none
  statics := none }

def pool1 : Array CpInfo := pool [(2, .class_ 4), (1, u "java/lang/Object"), (0, u "<init>"), (0, u "()V"), (0, .methodref 8 9), (0, .class_ 10), (0, .nameAndType 11 12), (0, u "com/example/lushan/lushan/console/PageEscapePinLaw"), (0, u "draw"), (0, u "(I)C"), (0, .class_ 14), (0, u "java/lang/String"), (0, .methodref 13 16), (0, .nameAndType 5 17), (0, u "([C)V"), (0, .methodref 8 19), (0, .nameAndType 20 21), (0, u "ref"), (0, u "(C)Ljava/lang/String;"), (0, .string 23), (0, u ""), (0, .methodref 25 26), (0, .class_ 27), (0, .nameAndType 28 29), (0, u "com/example/lushan/lushan/console/Page"), (0, u "escape"), (0, u "(Ljava/lang/String;)Ljava/lang/String;"), (0, .methodref 13 31), (0, .nameAndType 32 33), (0, u "length"), (0, u "()I"), (0, .methodref 8 35), (0, .nameAndType 36 37), (0, u "at"), (0, u "(Ljava/lang/String;Ljava/lang/String;Ljava/lang/String;Ljava/lang/String;I)Z"), (0, .string 39), (0, u "&amp;"), (0, .string 41), (0, u "&lt;"), (0, .string 43), (0, u "&gt;"), (0, .string 45), (0, u "&quot;"), (0, .string 47), (0, u "&#39;"), (0, .methodref 13 49), (0, .nameAndType 50 21), (0, u "valueOf"), (0, .methodref 13 52), (0, .nameAndType 53 12), (0, u "charAt"), (0, .methodref 8 55), (0, .nameAndType 56 57), (0, u "expected"), (0, u "(Ljava/lang/String;Ljava/lang/String;Ljava/lang/String;I)C"), (2, u "law"), (0, u "(IIII)Z")] 3

def k1m0 : Method := { name := "<init>", desc := "()V", sig := { parameters := [], returnType := none }, accessFlags := 1, code := none }
def k1c1 : Code := { maxStack := 6, maxLocals := 14, code := code, exceptionTable := #[], attributes := #[] }
def k1m1 : Method := { name := "law", desc := "(IIII)Z", sig := { parameters := [.int, .int, .int, .int], returnType := some .boolean }, accessFlags := 9, code := some k1c1 }
def k1c2 : Code := { maxStack := 2, maxLocals := 2, code := method_3_code, exceptionTable := #[], attributes := #[] }
def k1m2 : Method := { name := "draw", desc := "(I)C", sig := { parameters := [.int], returnType := some .char }, accessFlags := 10, code := some k1c2 }
def k1c3 : Code := { maxStack := 2, maxLocals := 1, code := method_4_code, exceptionTable := #[], attributes := #[] }
def k1m3 : Method := { name := "ref", desc := "(C)Ljava/lang/String;", sig := { parameters := [.char], returnType := some (.object "java/lang/String") }, accessFlags := 10, code := some k1c3 }
def k1c4 : Code := { maxStack := 5, maxLocals := 5, code := method_5_code, exceptionTable := #[], attributes := #[] }
def k1m4 : Method := { name := "at", desc := "(Ljava/lang/String;Ljava/lang/String;Ljava/lang/String;Ljava/lang/String;I)Z", sig := { parameters := [(.object "java/lang/String"), (.object "java/lang/String"), (.object "java/lang/String"), (.object "java/lang/String"), .int], returnType := some .boolean }, accessFlags := 10, code := some k1c4 }
def k1c5 : Code := { maxStack := 2, maxLocals := 5, code := method_6_code, exceptionTable := #[], attributes := #[] }
def k1m5 : Method := { name := "expected", desc := "(Ljava/lang/String;Ljava/lang/String;Ljava/lang/String;I)C", sig := { parameters := [(.object "java/lang/String"), (.object "java/lang/String"), (.object "java/lang/String"), .int], returnType := some .char }, accessFlags := 10, code := some k1c5 }
/-- com/example/lushan/lushan/console/PageEscapePinLaw -/
def k1 : Class := { plain "com/example/lushan/lushan/console/PageEscapePinLaw" (some 0) with
  accessFlags := 49
  interfaces := #[]
  cf := some (fileOf pool1 8 #[] #[{ accessFlags := 1, nameIndex := 5, descriptorIndex := 6, attributes := #[] }, { accessFlags := 9, nameIndex := 60, descriptorIndex := 61, attributes := #[] }, { accessFlags := 10, nameIndex := 11, descriptorIndex := 12, attributes := #[] }, { accessFlags := 10, nameIndex := 20, descriptorIndex := 21, attributes := #[] }, { accessFlags := 10, nameIndex := 36, descriptorIndex := 37, attributes := #[] }, { accessFlags := 10, nameIndex := 56, descriptorIndex := 57, attributes := #[] }] 49 2 #[] #[])
  fields := #[]
  methods := #[k1m0, k1m1, k1m2, k1m3, k1m4, k1m5]
  instanceTypes := #[]
  staticTypes := #[]
  resolved := Array.replicate 65 none
  statics := none }

def pool2 : Array CpInfo := pool [(1, .class_ 2), (0, u "java/io/Serializable"), (0, .class_ 4), (0, u "java/lang/Object")] 2

/-- java/io/Serializable -/
def k2 : Class := { plain "java/io/Serializable" (some 0) with
  accessFlags := 1537
  interfaces := #[]
  cf := some (fileOf pool2 1 #[] #[] 1537 3 #[] #[])
  fields := #[]
  methods := #[]
  instanceTypes := #[]
  staticTypes := #[]
  resolved := Array.replicate 7 none
  statics := none }

def pool3 : Array CpInfo := pool [(1, .class_ 2), (0, u "java/lang/Comparable"), (0, .class_ 4), (0, u "java/lang/Object")] 7

/-- java/lang/Comparable -/
def k3 : Class := { plain "java/lang/Comparable" (some 0) with
  accessFlags := 1537
  interfaces := #[]
  cf := some (fileOf pool3 1 #[] #[] 1537 3 #[] #[])
  fields := #[]
  methods := #[]
  instanceTypes := #[]
  staticTypes := #[]
  resolved := Array.replicate 12 none
  statics := none }

def pool4 : Array CpInfo := pool [(2, .class_ 4), (1, u "java/lang/CharSequence"), (42, .class_ 48), (0, u "java/lang/CharSequence$1CodePointIterator"), (10, .class_ 60), (0, u "java/lang/CharSequence$1CharIterator"), (5, .class_ 67), (0, u "java/lang/Object")] 63

/-- java/lang/CharSequence -/
def k4 : Class := { plain "java/lang/CharSequence" (some 0) with
  accessFlags := 1537
  interfaces := #[]
  cf := some (fileOf pool4 2 #[.nestMembers #[47, 59]] #[] 1537 66 #[] #[])
  fields := #[]
  methods := #[]
  instanceTypes := #[]
  staticTypes := #[]
  resolved := Array.replicate 131 none
  statics := none }

def pool5 : Array CpInfo := pool [(1, .class_ 2), (0, u "java/lang/constant/Constable"), (0, .class_ 4), (0, u "java/lang/Object")] 6

/-- java/lang/constant/Constable -/
def k5 : Class := { plain "java/lang/constant/Constable" (some 0) with
  accessFlags := 1537
  interfaces := #[]
  cf := some (fileOf pool5 1 #[] #[] 1537 3 #[] #[])
  fields := #[]
  methods := #[]
  instanceTypes := #[]
  staticTypes := #[]
  resolved := Array.replicate 11 none
  statics := none }

def pool6 : Array CpInfo := pool [(1, .class_ 2), (0, u "java/lang/constant/ConstantDesc"), (0, .class_ 4), (0, u "java/lang/Object")] 32

/-- java/lang/constant/ConstantDesc -/
def k6 : Class := { plain "java/lang/constant/ConstantDesc" (some 0) with
  accessFlags := 1537
  interfaces := #[]
  cf := some (fileOf pool6 1 #[] #[] 1537 3 #[] #[])
  fields := #[]
  methods := #[]
  instanceTypes := #[]
  staticTypes := #[]
  resolved := Array.replicate 37 none
  statics := none }

def pool7 : Array CpInfo := pool [(1, .methodref 2 3), (0, .class_ 4), (0, .nameAndType 5 6), (0, u "java/lang/Object"), (0, u "<init>"), (0, u "()V"), (0, .string 8), (0, u ""), (0, .fieldref 10 11), (0, .class_ 12), (0, .nameAndType 13 14), (0, u "java/lang/String"), (0, u "value"), (0, u "[B"), (0, .fieldref 10 16), (0, .nameAndType 17 18), (0, u "coder"), (0, u "B"), (2, u "hash"), (0, u "I"), (2, u "hashIsZero"), (0, u "Z"), (0, .methodref 10 28), (0, .nameAndType 5 29), (0, u "([CIILjava/lang/Void;)V"), (6, u "checkBoundsOffCount"), (0, u "(III)I"), (0, .fieldref 10 39), (0, .nameAndType 40 26), (0, u "COMPACT_STRINGS"), (1, .class_ 44), (1, u "java/lang/StringUTF16"), (0, u "compress"), (1, .methodref 42 48), (0, .nameAndType 49 50), (0, u "coderFromArrayLen"), (0, u "([BI)B"), (2, u "toBytes"), (0, .methodref 55 56), (0, .class_ 57), (0, .nameAndType 58 59), (0, u "java/util/Arrays"), (0, u "copyOfRange"), (0, u "([BII)[B"), (46, .methodref 107 108), (0, .class_ 109), (0, .nameAndType 110 111), (0, u "java/lang/StringLatin1"), (0, u "inflate"), (0, u "([BI[BII)V"), (30, u "()Z"), (34, .methodref 42 178), (0, .nameAndType 45 179), (0, u "([CII)[B"), (13, .class_ 195), (1, u "java/lang/System"), (13, .methodref 10 210), (0, .nameAndType 5 211), (0, u "([BB)V"), (0, .methodref 193 213), (0, .nameAndType 214 215), (0, u "arraycopy"), (0, u "(Ljava/lang/Object;ILjava/lang/Object;II)V"), (118, u "()I"), (0, .methodref 10 336), (0, .nameAndType 17 337), (0, u "()B"), (2, u "()[B"), (22, u "([BI)C"), (5, u "(C)Z"), (21, u "(II)V"), (35, u "(I)C"), (61, .methodref 10 490), (0, .nameAndType 5 491), (0, u "(Ljava/lang/AbstractStringBuilder;Ljava/lang/Void;)V"), (0, .methodref 10 493), (0, .nameAndType 494 142), (0, u "isLatin1"), (0, .methodref 107 496), (0, .nameAndType 497 363), (0, u "charAt"), (0, .methodref 42 496), (2, u "checkIndex"), (4, .nameAndType 507 334), (0, u "length"), (24, u "getBytes"), (16, .methodref 550 506), (0, .class_ 551), (0, u "java/lang/AbstractStringBuilder"), (0, .methodref 550 553), (0, .nameAndType 554 340), (0, u "getValue"), (20, .class_ 576), (0, u "java/lang/CharSequence"), (22, u "CASE_INSENSITIVE_ORDER"), (0, u "Ljava/util/Comparator;"), (181, u "valueOf"), (0, u "(C)Ljava/lang/String;"), (37, u "([BIB)V"), (188, u "([C)V"), (4, .methodref 107 1016), (0, .nameAndType 1017 369), (0, u "canEncode"), (0, .methodref 107 1019), (0, .nameAndType 53 1020), (0, u "(C)[B"), (0, .methodref 42 1019), (25, .methodref 550 493), (0, .fieldref 550 1049), (0, .nameAndType 1050 26), (0, u "maybeLatin1"), (2, .fieldref 1054 1055), (0, .class_ 1056), (0, .nameAndType 1057 1058), (0, u "jdk/internal/util/Preconditions"), (0, u "SIOOBE_FORMATTER"), (0, u "Ljava/util/function/BiFunction;"), (0, .methodref 1054 1060), (0, .nameAndType 501 1061), (0, u "(IILjava/util/function/BiFunction;)I"), (2, u "(IIILjava/util/function/BiFunction;)I"), (0, .methodref 1054 1066), (0, .nameAndType 1067 1064), (0, u "checkFromIndexSize"), (33, u "serialPersistentFields"), (0, u "[Ljava/io/ObjectStreamField;"), (0, .class_ 1104), (0, u "java/lang/String$CaseInsensitiveComparator"), (1, .class_ 1107), (0, u "java/io/Serializable"), (0, .class_ 1109), (0, u "java/lang/Comparable"), (0, .class_ 1111), (0, u "java/lang/constant/Constable"), (0, .class_ 1113), (0, u "java/lang/constant/ConstantDesc"), (2, u "serialVersionUID"), (0, u "J"), (3, u "REPL"), (0, u "C"), (2, u "LATIN1"), (1, u "UTF16"), (105, u "(Ljava/lang/StringBuilder;)V")] 217

def k7m0 : Method := { name := "<init>", desc := "()V", sig := { parameters := [], returnType := none }, accessFlags := 1, code := none }
def k7c1 : Code := { maxStack := 5, maxLocals := 2, code := jdk_42_method_3_code, exceptionTable := #[], attributes := #[] }
def k7m1 : Method := { name := "<init>", desc := "([C)V", sig := { parameters := [(.array .char)], returnType := none }, accessFlags := 1, code := some k7c1 }
def k7c2 : Code := { maxStack := 3, maxLocals := 2, code := jdk_42_method_53_code, exceptionTable := #[], attributes := #[] }
def k7m2 : Method := { name := "<init>", desc := "(Ljava/lang/StringBuilder;)V", sig := { parameters := [(.object "java/lang/StringBuilder")], returnType := none }, accessFlags := 1, code := some k7c2 }
def k7c3 : Code := { maxStack := 2, maxLocals := 1, code := jdk_42_method_54_code, exceptionTable := #[], attributes := #[] }
def k7m3 : Method := { name := "length", desc := "()I", sig := { parameters := [], returnType := some .int }, accessFlags := 1, code := some k7c3 }
def k7c4 : Code := { maxStack := 2, maxLocals := 2, code := jdk_42_method_56_code, exceptionTable := #[], attributes := #[] }
def k7m4 : Method := { name := "charAt", desc := "(I)C", sig := { parameters := [.int], returnType := some .char }, accessFlags := 1, code := some k7c4 }
def k7c5 : Code := { maxStack := 4, maxLocals := 1, code := jdk_42_method_139_code, exceptionTable := #[], attributes := #[] }
def k7m5 : Method := { name := "valueOf", desc := "(C)Ljava/lang/String;", sig := { parameters := [.char], returnType := some (.object "java/lang/String") }, accessFlags := 9, code := some k7c5 }
def k7c6 : Code := { maxStack := 5, maxLocals := 4, code := jdk_42_method_147_code, exceptionTable := #[], attributes := #[] }
def k7m6 : Method := { name := "getBytes", desc := "([BIB)V", sig := { parameters := [(.array .byte), .int, .byte], returnType := none }, accessFlags := 0, code := some k7c6 }
def k7c7 : Code := { maxStack := 4, maxLocals := 6, code := jdk_42_method_149_code, exceptionTable := #[], attributes := #[] }
def k7m7 : Method := { name := "<init>", desc := "([CIILjava/lang/Void;)V", sig := { parameters := [(.array .char), .int, .int, (.object "java/lang/Void")], returnType := none }, accessFlags := 2, code := some k7c7 }
def k7c8 : Code := { maxStack := 5, maxLocals := 5, code := jdk_42_method_150_code, exceptionTable := #[], attributes := #[] }
def k7m8 : Method := { name := "<init>", desc := "(Ljava/lang/AbstractStringBuilder;Ljava/lang/Void;)V", sig := { parameters := [(.object "java/lang/AbstractStringBuilder"), (.object "java/lang/Void")], returnType := none }, accessFlags := 0, code := some k7c8 }
def k7c9 : Code := { maxStack := 2, maxLocals := 3, code := jdk_42_method_151_code, exceptionTable := #[], attributes := #[] }
def k7m9 : Method := { name := "<init>", desc := "([BB)V", sig := { parameters := [(.array .byte), .byte], returnType := none }, accessFlags := 0, code := some k7c9 }
def k7c10 : Code := { maxStack := 1, maxLocals := 1, code := jdk_42_method_152_code, exceptionTable := #[], attributes := #[] }
def k7m10 : Method := { name := "coder", desc := "()B", sig := { parameters := [], returnType := some .byte }, accessFlags := 0, code := some k7c10 }
def k7c11 : Code := { maxStack := 1, maxLocals := 1, code := jdk_42_method_154_code, exceptionTable := #[], attributes := #[] }
def k7m11 : Method := { name := "isLatin1", desc := "()Z", sig := { parameters := [], returnType := some .boolean }, accessFlags := 0, code := some k7c11 }
def k7c12 : Code := { maxStack := 3, maxLocals := 2, code := jdk_42_method_155_code, exceptionTable := #[], attributes := #[] }
def k7m12 : Method := { name := "checkIndex", desc := "(II)V", sig := { parameters := [.int, .int], returnType := none }, accessFlags := 8, code := some k7c12 }
def k7c13 : Code := { maxStack := 4, maxLocals := 3, code := jdk_42_method_157_code, exceptionTable := #[], attributes := #[] }
def k7m13 : Method := { name := "checkBoundsOffCount", desc := "(III)I", sig := { parameters := [.int, .int, .int], returnType := some .int }, accessFlags := 8, code := some k7c13 }
/-- java/lang/String -/
def k7 : Class := { plain "java/lang/String" (some 0) with
  accessFlags := 49
  interfaces := #[2, 3, 4, 5, 6]
  cf := some (fileOf pool7 10 #[.nestMembers #[1103]] #[{ accessFlags := 1, nameIndex := 5, descriptorIndex := 6, attributes := #[] }, { accessFlags := 1, nameIndex := 5, descriptorIndex := 1010, attributes := #[] }, { accessFlags := 1, nameIndex := 5, descriptorIndex := 1233, attributes := #[] }, { accessFlags := 1, nameIndex := 507, descriptorIndex := 334, attributes := #[] }, { accessFlags := 1, nameIndex := 497, descriptorIndex := 427, attributes := #[] }, { accessFlags := 9, nameIndex := 782, descriptorIndex := 783, attributes := #[] }, { accessFlags := 0, nameIndex := 532, descriptorIndex := 821, attributes := #[] }, { accessFlags := 2, nameIndex := 5, descriptorIndex := 29, attributes := #[] }, { accessFlags := 0, nameIndex := 5, descriptorIndex := 491, attributes := #[] }, { accessFlags := 0, nameIndex := 5, descriptorIndex := 211, attributes := #[] }, { accessFlags := 0, nameIndex := 17, descriptorIndex := 337, attributes := #[] }, { accessFlags := 0, nameIndex := 494, descriptorIndex := 142, attributes := #[] }, { accessFlags := 8, nameIndex := 501, descriptorIndex := 391, attributes := #[] }, { accessFlags := 8, nameIndex := 36, descriptorIndex := 37, attributes := #[] }] 49 2 #[1106, 1108, 575, 1110, 1112] #[{ accessFlags := 18, nameIndex := 13, descriptorIndex := 14, attributes := #[] }, { accessFlags := 18, nameIndex := 17, descriptorIndex := 18, attributes := #[] }, { accessFlags := 2, nameIndex := 21, descriptorIndex := 22, attributes := #[] }, { accessFlags := 2, nameIndex := 25, descriptorIndex := 26, attributes := #[] }, { accessFlags := 26, nameIndex := 1116, descriptorIndex := 1117, attributes := #[] }, { accessFlags := 24, nameIndex := 40, descriptorIndex := 26, attributes := #[] }, { accessFlags := 26, nameIndex := 1101, descriptorIndex := 1102, attributes := #[] }, { accessFlags := 26, nameIndex := 1121, descriptorIndex := 1122, attributes := #[] }, { accessFlags := 25, nameIndex := 599, descriptorIndex := 600, attributes := #[] }, { accessFlags := 24, nameIndex := 1125, descriptorIndex := 18, attributes := #[] }, { accessFlags := 24, nameIndex := 1127, descriptorIndex := 18, attributes := #[] }])
  fields := #[{ name := "value", type := (.array .byte), accessFlags := 18, slot := 0, constantValue := 0 }, { name := "coder", type := .byte, accessFlags := 18, slot := 1, constantValue := 0 }, { name := "hash", type := .int, accessFlags := 2, slot := 2, constantValue := 0 }, { name := "hashIsZero", type := .boolean, accessFlags := 2, slot := 3, constantValue := 0 }, { name := "serialVersionUID", type := .long, accessFlags := 26, slot := 0, constantValue := 0 }, { name := "COMPACT_STRINGS", type := .boolean, accessFlags := 24, slot := 1, constantValue := 0 }, { name := "serialPersistentFields", type := (.array (.object "java/io/ObjectStreamField")), accessFlags := 26, slot := 2, constantValue := 0 }, { name := "REPL", type := .char, accessFlags := 26, slot := 3, constantValue := 0 }, { name := "CASE_INSENSITIVE_ORDER", type := (.object "java/util/Comparator"), accessFlags := 25, slot := 4, constantValue := 0 }, { name := "LATIN1", type := .byte, accessFlags := 24, slot := 5, constantValue := 0 }, { name := "UTF16", type := .byte, accessFlags := 24, slot := 6, constantValue := 0 }]
  methods := #[k7m0, k7m1, k7m2, k7m3, k7m4, k7m5, k7m6, k7m7, k7m8, k7m9, k7m10, k7m11, k7m12, k7m13]
  instanceTypes := #[(.array .byte), .byte, .int, .boolean]
  staticTypes := #[.long, .boolean, (.array (.object "java/io/ObjectStreamField")), .char, (.object "java/util/Comparator"), .byte, .byte]
  resolved := Array.replicate 1451 none
  statics := some 0 }

def pool8 : Array CpInfo := pool [(3, .class_ 4), (0, u "java/lang/String"), (1, .class_ 8), (1, u "java/lang/Object"), (0, u "<init>"), (0, u "()V"), (0, .methodref 12 13), (0, .class_ 14), (0, .nameAndType 15 16), (0, u "java/lang/StringUTF16"), (0, u "newBytesLength"), (0, u "(I)I"), (3, .integer 1073741823), (23, .fieldref 12 45), (0, .nameAndType 46 47), (0, u "$assertionsDisabled"), (0, u "Z"), (0, .methodref 12 49), (0, .nameAndType 50 51), (0, u "length"), (0, u "([B)I"), (7, .fieldref 12 60), (0, .nameAndType 61 62), (0, u "HI_BYTE_SHIFT"), (0, u "I"), (0, .fieldref 12 64), (0, .nameAndType 65 62), (0, u "LO_BYTE_SHIFT"), (1, .methodref 12 68), (0, .nameAndType 69 70), (0, u "checkIndex"), (0, u "(I[B)V"), (0, .methodref 12 72), (0, .nameAndType 73 74), (0, u "getChar"), (0, u "([BI)C"), (24, u "(II[B)V"), (7, .methodref 12 108), (0, .nameAndType 109 110), (0, u "newBytesFor"), (0, u "(I)[B"), (0, .methodref 12 112), (0, .nameAndType 113 114), (0, u "putChar"), (0, u "([BII)V"), (0, .methodref 12 116), (0, .nameAndType 117 118), (0, u "compress"), (0, u "([CI[BII)I"), (0, .methodref 12 120), (0, .nameAndType 121 122), (0, u "toBytes"), (0, u "([CII)[B"), (17, u "inflate"), (0, u "([BI[BII)V"), (31, .methodref 12 174), (0, .nameAndType 175 99), (0, u "checkBoundsOffCount"), (85, u "coderFromArrayLen"), (0, u "([BI)B"), (18, u "(III)I"), (87, .class_ 371), (1, u "java/lang/StringUTF16$LinesSpliterator"), (20, u "charAt"), (21, .methodref 3 415), (0, .nameAndType 69 416), (0, u "(II)V"), (2, .methodref 3 420), (0, .nameAndType 175 281), (9, u "MAX_LENGTH"), (44, u "(C)[B"), (110, u "putCharSB"), (40, .class_ 628), (0, u "java/lang/StringUTF16$CodePointsSpliterator"), (0, .class_ 630), (0, u "java/lang/StringUTF16$CharsSpliterator")] 4

def k8m0 : Method := { name := "<init>", desc := "()V", sig := { parameters := [], returnType := none }, accessFlags := 0, code := none }
def k8c1 : Code := { maxStack := 1, maxLocals := 1, code := jdk_52_method_2_code, exceptionTable := #[], attributes := #[] }
def k8m1 : Method := { name := "newBytesFor", desc := "(I)[B", sig := { parameters := [.int], returnType := some (.array .byte) }, accessFlags := 9, code := some k8c1 }
def k8c2 : Code := { maxStack := 4, maxLocals := 1, code := jdk_52_method_3_code, exceptionTable := #[], attributes := #[] }
def k8m2 : Method := { name := "newBytesLength", desc := "(I)I", sig := { parameters := [.int], returnType := some .int }, accessFlags := 9, code := some k8c2 }
def k8c3 : Code := { maxStack := 4, maxLocals := 3, code := jdk_52_method_4_code, exceptionTable := #[], attributes := #[] }
def k8m3 : Method := { name := "putChar", desc := "([BII)V", sig := { parameters := [(.array .byte), .int, .int], returnType := none }, accessFlags := 8, code := some k8c3 }
def k8c4 : Code := { maxStack := 3, maxLocals := 2, code := jdk_52_method_5_code, exceptionTable := #[], attributes := #[] }
def k8m4 : Method := { name := "getChar", desc := "([BI)C", sig := { parameters := [(.array .byte), .int], returnType := some .char }, accessFlags := 8, code := some k8c4 }
def k8c5 : Code := { maxStack := 2, maxLocals := 1, code := jdk_52_method_6_code, exceptionTable := #[], attributes := #[] }
def k8m5 : Method := { name := "length", desc := "([B)I", sig := { parameters := [(.array .byte)], returnType := some .int }, accessFlags := 9, code := some k8c5 }
def k8c6 : Code := { maxStack := 4, maxLocals := 5, code := jdk_52_method_14_code, exceptionTable := #[], attributes := #[] }
def k8m6 : Method := { name := "toBytes", desc := "([CII)[B", sig := { parameters := [(.array .char), .int, .int], returnType := some (.array .byte) }, accessFlags := 9, code := some k8c6 }
def k8c7 : Code := { maxStack := 2, maxLocals := 2, code := jdk_52_method_15_code, exceptionTable := #[], attributes := #[] }
def k8m7 : Method := { name := "coderFromArrayLen", desc := "([BI)B", sig := { parameters := [(.array .byte), .int], returnType := some .byte }, accessFlags := 8, code := some k8c7 }
def k8c8 : Code := { maxStack := 5, maxLocals := 6, code := jdk_52_method_16_code, exceptionTable := #[], attributes := #[] }
def k8m8 : Method := { name := "compress", desc := "([CII)[B", sig := { parameters := [(.array .char), .int, .int], returnType := some (.array .byte) }, accessFlags := 9, code := some k8c8 }
def k8c9 : Code := { maxStack := 3, maxLocals := 7, code := jdk_52_method_21_code, exceptionTable := #[], attributes := #[] }
def k8m9 : Method := { name := "compress", desc := "([CI[BII)I", sig := { parameters := [(.array .char), .int, (.array .byte), .int, .int], returnType := some .int }, accessFlags := 9, code := some k8c9 }
def k8c10 : Code := { maxStack := 3, maxLocals := 2, code := jdk_52_method_24_code, exceptionTable := #[], attributes := #[] }
def k8m10 : Method := { name := "toBytes", desc := "(C)[B", sig := { parameters := [.char], returnType := some (.array .byte) }, accessFlags := 9, code := some k8c10 }
def k8c11 : Code := { maxStack := 3, maxLocals := 3, code := jdk_52_method_71_code, exceptionTable := #[], attributes := #[] }
def k8m11 : Method := { name := "putCharSB", desc := "([BII)V", sig := { parameters := [(.array .byte), .int, .int], returnType := none }, accessFlags := 9, code := some k8c11 }
def k8c12 : Code := { maxStack := 2, maxLocals := 2, code := jdk_52_method_83_code, exceptionTable := #[], attributes := #[] }
def k8m12 : Method := { name := "charAt", desc := "([BI)C", sig := { parameters := [(.array .byte), .int], returnType := some .char }, accessFlags := 9, code := some k8c12 }
def k8c13 : Code := { maxStack := 4, maxLocals := 6, code := jdk_52_method_86_code, exceptionTable := #[], attributes := #[] }
def k8m13 : Method := { name := "inflate", desc := "([BI[BII)V", sig := { parameters := [(.array .byte), .int, (.array .byte), .int, .int], returnType := none }, accessFlags := 9, code := some k8c13 }
def k8c14 : Code := { maxStack := 2, maxLocals := 2, code := jdk_52_method_91_code, exceptionTable := #[], attributes := #[] }
def k8m14 : Method := { name := "checkIndex", desc := "(I[B)V", sig := { parameters := [.int, (.array .byte)], returnType := none }, accessFlags := 9, code := some k8c14 }
def k8c15 : Code := { maxStack := 3, maxLocals := 3, code := jdk_52_method_94_code, exceptionTable := #[], attributes := #[] }
def k8m15 : Method := { name := "checkBoundsOffCount", desc := "(II[B)V", sig := { parameters := [.int, .int, (.array .byte)], returnType := none }, accessFlags := 9, code := some k8c15 }
/-- java/lang/StringUTF16 -/
def k8 : Class := { plain "java/lang/StringUTF16" (some 0) with
  accessFlags := 48
  interfaces := #[]
  cf := some (fileOf pool8 12 #[.nestMembers #[627, 629, 369]] #[{ accessFlags := 0, nameIndex := 9, descriptorIndex := 10, attributes := #[] }, { accessFlags := 9, nameIndex := 109, descriptorIndex := 110, attributes := #[] }, { accessFlags := 9, nameIndex := 15, descriptorIndex := 16, attributes := #[] }, { accessFlags := 8, nameIndex := 113, descriptorIndex := 114, attributes := #[] }, { accessFlags := 8, nameIndex := 73, descriptorIndex := 74, attributes := #[] }, { accessFlags := 9, nameIndex := 50, descriptorIndex := 51, attributes := #[] }, { accessFlags := 9, nameIndex := 121, descriptorIndex := 122, attributes := #[] }, { accessFlags := 8, nameIndex := 261, descriptorIndex := 262, attributes := #[] }, { accessFlags := 9, nameIndex := 117, descriptorIndex := 122, attributes := #[] }, { accessFlags := 9, nameIndex := 117, descriptorIndex := 118, attributes := #[] }, { accessFlags := 9, nameIndex := 121, descriptorIndex := 475, attributes := #[] }, { accessFlags := 9, nameIndex := 586, descriptorIndex := 114, attributes := #[] }, { accessFlags := 9, nameIndex := 392, descriptorIndex := 74, attributes := #[] }, { accessFlags := 9, nameIndex := 140, descriptorIndex := 141, attributes := #[] }, { accessFlags := 9, nameIndex := 69, descriptorIndex := 70, attributes := #[] }, { accessFlags := 9, nameIndex := 175, descriptorIndex := 99, attributes := #[] }] 48 6 #[] #[{ accessFlags := 26, nameIndex := 61, descriptorIndex := 62, attributes := #[] }, { accessFlags := 26, nameIndex := 65, descriptorIndex := 62, attributes := #[] }, { accessFlags := 24, nameIndex := 430, descriptorIndex := 62, attributes := #[] }, { accessFlags := 4120, nameIndex := 46, descriptorIndex := 47, attributes := #[] }])
  fields := #[{ name := "HI_BYTE_SHIFT", type := .int, accessFlags := 26, slot := 0, constantValue := 0 }, { name := "LO_BYTE_SHIFT", type := .int, accessFlags := 26, slot := 1, constantValue := 0 }, { name := "MAX_LENGTH", type := .int, accessFlags := 24, slot := 2, constantValue := 0 }, { name := "$assertionsDisabled", type := .boolean, accessFlags := 4120, slot := 3, constantValue := 0 }]
  methods := #[k8m0, k8m1, k8m2, k8m3, k8m4, k8m5, k8m6, k8m7, k8m8, k8m9, k8m10, k8m11, k8m12, k8m13, k8m14, k8m15]
  instanceTypes := #[]
  staticTypes := #[.int, .int, .int, .boolean]
  resolved := Array.replicate 635 none
  statics := some 1 }

def pool9 : Array CpInfo := pool [(2, .class_ 4), (1, u "java/lang/Object"), (0, u "<init>"), (0, u "()V"), (0, .class_ 8), (0, u "java/lang/Record")] 13

def k9m0 : Method := { name := "<init>", desc := "()V", sig := { parameters := [], returnType := none }, accessFlags := 4, code := none }
/-- java/lang/Record -/
def k9 : Class := { plain "java/lang/Record" (some 0) with
  accessFlags := 1057
  interfaces := #[]
  cf := some (fileOf pool9 7 #[] #[{ accessFlags := 4, nameIndex := 5, descriptorIndex := 6, attributes := #[] }] 1057 2 #[] #[])
  fields := #[]
  methods := #[k9m0]
  instanceTypes := #[]
  staticTypes := #[]
  resolved := Array.replicate 22 none
  statics := none }

def pool10 : Array CpInfo := pool [(2, .class_ 4), (1, u "java/lang/Record"), (0, u "<init>"), (2, .class_ 10), (1, u "com/example/lushan/lushan/console/Page"), (0, u "status"), (0, u "I"), (2, u "title"), (0, u "Ljava/lang/String;"), (2, u "content"), (0, u "Ljava/lang/Iterable;"), (2, u "escape"), (0, u "(Ljava/lang/String;)Ljava/lang/String;"), (20, .class_ 46), (0, u "java/lang/StringBuilder"), (0, .methodref 48 49), (0, .class_ 50), (0, .nameAndType 51 52), (0, u "java/lang/String"), (0, u "length"), (0, u "()I"), (0, .methodref 45 54), (0, .nameAndType 5 55), (0, u "(I)V"), (0, .methodref 48 57), (0, .nameAndType 58 59), (0, u "charAt"), (0, u "(I)C"), (0, .string 61), (0, u "&amp;"), (0, .methodref 45 63), (0, .nameAndType 64 65), (0, u "append"), (0, u "(Ljava/lang/String;)Ljava/lang/StringBuilder;"), (0, .string 67), (0, u "&lt;"), (0, .string 69), (0, u "&gt;"), (0, .string 71), (0, u "&quot;"), (0, .string 73), (0, u "&#39;"), (0, .methodref 45 75), (0, .nameAndType 64 76), (0, u "(C)Ljava/lang/StringBuilder;"), (0, .methodref 45 78), (0, .nameAndType 79 80), (0, u "toString"), (0, u "()Ljava/lang/String;")] 53

def k10c0 : Code := { maxStack := 3, maxLocals := 4, code := prog_8_method_3_code, exceptionTable := #[], attributes := #[] }
def k10m0 : Method := { name := "escape", desc := "(Ljava/lang/String;)Ljava/lang/String;", sig := { parameters := [(.object "java/lang/String")], returnType := some (.object "java/lang/String") }, accessFlags := 8, code := some k10c0 }
/-- com/example/lushan/lushan/console/Page -/
def k10 : Class := { plain "com/example/lushan/lushan/console/Page" (some 9) with
  accessFlags := 48
  interfaces := #[]
  cf := some (fileOf pool10 8 #[] #[{ accessFlags := 8, nameIndex := 23, descriptorIndex := 24, attributes := #[] }] 48 2 #[] #[{ accessFlags := 18, nameIndex := 11, descriptorIndex := 12, attributes := #[] }, { accessFlags := 18, nameIndex := 15, descriptorIndex := 16, attributes := #[] }, { accessFlags := 18, nameIndex := 19, descriptorIndex := 20, attributes := #[] }])
  fields := #[{ name := "status", type := .int, accessFlags := 18, slot := 0, constantValue := 0 }, { name := "title", type := (.object "java/lang/String"), accessFlags := 18, slot := 1, constantValue := 0 }, { name := "content", type := (.object "java/lang/Iterable"), accessFlags := 18, slot := 2, constantValue := 0 }]
  methods := #[k10m0]
  instanceTypes := #[.int, (.object "java/lang/String"), (.object "java/lang/Iterable")]
  staticTypes := #[]
  resolved := Array.replicate 134 none
  statics := none }

def pool11 : Array CpInfo := pool [(1, .class_ 2), (0, u "java/lang/Appendable"), (0, .class_ 4), (0, u "java/lang/Object")] 9

/-- java/lang/Appendable -/
def k11 : Class := { plain "java/lang/Appendable" (some 0) with
  accessFlags := 1537
  interfaces := #[]
  cf := some (fileOf pool11 1 #[] #[] 1537 3 #[] #[])
  fields := #[]
  methods := #[]
  instanceTypes := #[]
  staticTypes := #[]
  resolved := Array.replicate 14 none
  statics := none }

def pool12 : Array CpInfo := pool [(1, .class_ 2), (0, u "java/lang/String"), (0, .methodref 4 5), (0, .class_ 6), (0, .nameAndType 7 8), (0, u "java/lang/Object"), (0, u "<init>"), (0, u "()V"), (1, .class_ 12), (1, u "java/lang/AbstractStringBuilder"), (0, u "EMPTYVALUE"), (0, u "[B"), (0, .fieldref 10 16), (0, .nameAndType 17 14), (0, u "value"), (0, .fieldref 1 19), (0, .nameAndType 20 21), (0, u "COMPACT_STRINGS"), (0, u "Z"), (0, .fieldref 10 23), (0, .nameAndType 24 25), (0, u "coder"), (0, u "B"), (0, .methodref 27 28), (0, .class_ 29), (0, .nameAndType 30 31), (0, u "java/lang/StringUTF16"), (0, u "newBytesFor"), (0, u "(I)[B"), (0, .methodref 1 33), (0, .nameAndType 34 35), (0, u "length"), (0, u "()I"), (3, .integer 2147483647), (0, .methodref 1 41), (0, .nameAndType 24 42), (0, u "()B"), (2, u "append"), (0, u "(Ljava/lang/String;)Ljava/lang/AbstractStringBuilder;"), (1, .class_ 49), (0, u "java/lang/CharSequence"), (19, u "(Ljava/lang/String;)V"), (5, u "maybeLatin1"), (3, .fieldref 10 80), (0, .nameAndType 81 82), (0, u "count"), (0, u "I"), (0, .methodref 10 84), (0, .nameAndType 85 86), (0, u "isLatin1"), (0, u "()Z"), (1, .class_ 90), (1, u "java/lang/StringLatin1"), (9, .methodref 10 101), (0, .nameAndType 102 103), (0, u "ensureCapacityInternal"), (0, u "(I)V"), (0, .methodref 10 105), (0, .nameAndType 106 107), (0, u "newCapacity"), (0, u "(I)I"), (0, .methodref 109 110), (0, .class_ 111), (0, .nameAndType 112 113), (0, u "java/util/Arrays"), (0, u "copyOf"), (0, u "([BI)[B"), (0, .methodref 115 116), (0, .class_ 117), (0, .nameAndType 118 119), (0, u "jdk/internal/util/ArraysSupport"), (0, u "newLength"), (0, u "(III)I"), (5, .methodref 88 126), (0, .nameAndType 127 128), (0, u "inflate"), (0, u "([BI[BII)V"), (7, u "([BII)V"), (54, .methodref 88 192), (0, .nameAndType 193 194), (0, u "canEncode"), (0, u "(C)Z"), (0, .methodref 10 196), (0, .nameAndType 127 8), (0, .methodref 27 198), (0, .nameAndType 199 136), (0, u "putCharSB"), (8, .methodref 10 209), (0, .nameAndType 210 211), (0, u "putStringAt"), (0, u "(ILjava/lang/String;)V"), (5, u "inflateIfNeededFor"), (2, .nameAndType 221 222), (0, u "getBytes"), (0, u "([BIB)V"), (69, u "(C)Ljava/lang/AbstractStringBuilder;"), (104, .methodref 10 398), (0, .nameAndType 217 69), (0, .methodref 1 220), (3, u "()[B"), (40, .class_ 445), (0, u "java/lang/Appendable"), (106, u "getValue")] 56

def k12m0 : Method := { name := "<init>", desc := "()V", sig := { parameters := [], returnType := none }, accessFlags := 0, code := none }
def k12c1 : Code := { maxStack := 2, maxLocals := 2, code := jdk_68_method_2_code, exceptionTable := #[], attributes := #[] }
def k12m1 : Method := { name := "<init>", desc := "(I)V", sig := { parameters := [.int], returnType := none }, accessFlags := 0, code := some k12c1 }
def k12c2 : Code := { maxStack := 1, maxLocals := 1, code := jdk_68_method_6_code, exceptionTable := #[], attributes := #[] }
def k12m2 : Method := { name := "length", desc := "()I", sig := { parameters := [], returnType := some .int }, accessFlags := 1, code := some k12c2 }
def k12c3 : Code := { maxStack := 4, maxLocals := 3, code := jdk_68_method_9_code, exceptionTable := #[], attributes := #[] }
def k12m3 : Method := { name := "ensureCapacityInternal", desc := "(I)V", sig := { parameters := [.int], returnType := none }, accessFlags := 2, code := some k12c3 }
def k12c4 : Code := { maxStack := 5, maxLocals := 6, code := jdk_68_method_10_code, exceptionTable := #[], attributes := #[] }
def k12m4 : Method := { name := "newCapacity", desc := "(I)I", sig := { parameters := [.int], returnType := some .int }, accessFlags := 2, code := some k12c4 }
def k12c5 : Code := { maxStack := 5, maxLocals := 2, code := jdk_68_method_11_code, exceptionTable := #[], attributes := #[] }
def k12m5 : Method := { name := "inflate", desc := "()V", sig := { parameters := [], returnType := none }, accessFlags := 2, code := some k12c5 }
def k12c6 : Code := { maxStack := 3, maxLocals := 3, code := jdk_68_method_22_code, exceptionTable := #[], attributes := #[] }
def k12m6 : Method := { name := "append", desc := "(Ljava/lang/String;)Ljava/lang/AbstractStringBuilder;", sig := { parameters := [(.object "java/lang/String")], returnType := some (.object "java/lang/AbstractStringBuilder") }, accessFlags := 1, code := some k12c6 }
def k12c7 : Code := { maxStack := 5, maxLocals := 2, code := jdk_68_method_31_code, exceptionTable := #[], attributes := #[] }
def k12m7 : Method := { name := "append", desc := "(C)Ljava/lang/AbstractStringBuilder;", sig := { parameters := [.char], returnType := some (.object "java/lang/AbstractStringBuilder") }, accessFlags := 1, code := some k12c7 }
def k12c8 : Code := { maxStack := 1, maxLocals := 1, code := jdk_68_method_64_code, exceptionTable := #[], attributes := #[] }
def k12m8 : Method := { name := "getValue", desc := "()[B", sig := { parameters := [], returnType := some (.array .byte) }, accessFlags := 16, code := some k12c8 }
def k12c9 : Code := { maxStack := 1, maxLocals := 1, code := jdk_68_method_68_code, exceptionTable := #[], attributes := #[] }
def k12m9 : Method := { name := "isLatin1", desc := "()Z", sig := { parameters := [], returnType := some .boolean }, accessFlags := 16, code := some k12c9 }
def k12c10 : Code := { maxStack := 2, maxLocals := 2, code := jdk_68_method_71_code, exceptionTable := #[], attributes := #[] }
def k12m10 : Method := { name := "inflateIfNeededFor", desc := "(Ljava/lang/String;)V", sig := { parameters := [(.object "java/lang/String")], returnType := none }, accessFlags := 2, code := some k12c10 }
def k12c11 : Code := { maxStack := 4, maxLocals := 3, code := jdk_68_method_73_code, exceptionTable := #[], attributes := #[] }
def k12m11 : Method := { name := "putStringAt", desc := "(ILjava/lang/String;)V", sig := { parameters := [.int, (.object "java/lang/String")], returnType := none }, accessFlags := 2, code := some k12c11 }
/-- java/lang/AbstractStringBuilder -/
def k12 : Class := { plain "java/lang/AbstractStringBuilder" (some 0) with
  accessFlags := 1056
  interfaces := #[11, 4]
  cf := some (fileOf pool12 10 #[] #[{ accessFlags := 0, nameIndex := 7, descriptorIndex := 8, attributes := #[] }, { accessFlags := 0, nameIndex := 7, descriptorIndex := 103, attributes := #[] }, { accessFlags := 1, nameIndex := 34, descriptorIndex := 35, attributes := #[] }, { accessFlags := 2, nameIndex := 102, descriptorIndex := 103, attributes := #[] }, { accessFlags := 2, nameIndex := 106, descriptorIndex := 107, attributes := #[] }, { accessFlags := 2, nameIndex := 127, descriptorIndex := 8, attributes := #[] }, { accessFlags := 1, nameIndex := 45, descriptorIndex := 46, attributes := #[] }, { accessFlags := 1, nameIndex := 45, descriptorIndex := 292, attributes := #[] }, { accessFlags := 16, nameIndex := 552, descriptorIndex := 403, attributes := #[] }, { accessFlags := 16, nameIndex := 85, descriptorIndex := 86, attributes := #[] }, { accessFlags := 2, nameIndex := 217, descriptorIndex := 69, attributes := #[] }, { accessFlags := 2, nameIndex := 210, descriptorIndex := 211, attributes := #[] }] 1056 4 #[444, 48] #[{ accessFlags := 0, nameIndex := 17, descriptorIndex := 14, attributes := #[] }, { accessFlags := 0, nameIndex := 24, descriptorIndex := 25, attributes := #[] }, { accessFlags := 0, nameIndex := 75, descriptorIndex := 21, attributes := #[] }, { accessFlags := 0, nameIndex := 81, descriptorIndex := 82, attributes := #[] }, { accessFlags := 26, nameIndex := 13, descriptorIndex := 14, attributes := #[] }])
  fields := #[{ name := "value", type := (.array .byte), accessFlags := 0, slot := 0, constantValue := 0 }, { name := "coder", type := .byte, accessFlags := 0, slot := 1, constantValue := 0 }, { name := "maybeLatin1", type := .boolean, accessFlags := 0, slot := 2, constantValue := 0 }, { name := "count", type := .int, accessFlags := 0, slot := 3, constantValue := 0 }, { name := "EMPTYVALUE", type := (.array .byte), accessFlags := 26, slot := 0, constantValue := 0 }]
  methods := #[k12m0, k12m1, k12m2, k12m3, k12m4, k12m5, k12m6, k12m7, k12m8, k12m9, k12m10, k12m11]
  instanceTypes := #[(.array .byte), .byte, .boolean, .int]
  staticTypes := #[(.array .byte)]
  resolved := Array.replicate 609 none
  statics := none }

def pool13 : Array CpInfo := pool [(1, .methodref 2 3), (0, .class_ 4), (0, .nameAndType 5 6), (0, u "java/lang/AbstractStringBuilder"), (0, u "<init>"), (0, u "(I)V"), (11, .class_ 20), (1, u "java/lang/String"), (3, .class_ 26), (1, u "java/lang/StringBuilder"), (0, u "append"), (0, u "(Ljava/lang/String;)Ljava/lang/StringBuilder;"), (0, .methodref 2 30), (0, .nameAndType 27 31), (0, u "(Ljava/lang/String;)Ljava/lang/AbstractStringBuilder;"), (18, .methodref 2 51), (0, .nameAndType 27 52), (0, u "(C)Ljava/lang/AbstractStringBuilder;"), (84, .methodref 18 138), (0, .nameAndType 5 139), (0, u "(Ljava/lang/StringBuilder;)V"), (5, u "()V"), (10, u "()I"), (129, u "(C)Ljava/lang/StringBuilder;"), (56, .methodref 2 344), (0, .nameAndType 345 156), (0, u "length"), (3, .class_ 350), (0, u "java/lang/Appendable"), (0, .class_ 352), (0, u "java/io/Serializable"), (0, .class_ 354), (0, u "java/lang/Comparable"), (0, .class_ 356), (0, u "java/lang/CharSequence"), (0, u "serialVersionUID"), (0, u "J"), (40, u "toString"), (0, u "()Ljava/lang/String;")] 21

def k13m0 : Method := { name := "<init>", desc := "()V", sig := { parameters := [], returnType := none }, accessFlags := 1, code := none }
def k13c1 : Code := { maxStack := 2, maxLocals := 2, code := jdk_67_method_2_code, exceptionTable := #[], attributes := #[] }
def k13m1 : Method := { name := "<init>", desc := "(I)V", sig := { parameters := [.int], returnType := none }, accessFlags := 1, code := some k13c1 }
def k13c2 : Code := { maxStack := 2, maxLocals := 2, code := jdk_67_method_7_code, exceptionTable := #[], attributes := #[] }
def k13m2 : Method := { name := "append", desc := "(Ljava/lang/String;)Ljava/lang/StringBuilder;", sig := { parameters := [(.object "java/lang/String")], returnType := some (.object "java/lang/StringBuilder") }, accessFlags := 1, code := some k13c2 }
def k13c3 : Code := { maxStack := 2, maxLocals := 2, code := jdk_67_method_14_code, exceptionTable := #[], attributes := #[] }
def k13m3 : Method := { name := "append", desc := "(C)Ljava/lang/StringBuilder;", sig := { parameters := [.char], returnType := some (.object "java/lang/StringBuilder") }, accessFlags := 1, code := some k13c3 }
def k13c4 : Code := { maxStack := 3, maxLocals := 1, code := jdk_67_method_42_code, exceptionTable := #[], attributes := #[] }
def k13m4 : Method := { name := "toString", desc := "()Ljava/lang/String;", sig := { parameters := [], returnType := some (.object "java/lang/String") }, accessFlags := 1, code := some k13c4 }
def k13c5 : Code := { maxStack := 1, maxLocals := 1, code := jdk_67_method_93_code, exceptionTable := #[], attributes := #[] }
def k13m5 : Method := { name := "length", desc := "()I", sig := { parameters := [], returnType := some .int }, accessFlags := 4161, code := some k13c5 }
/-- java/lang/StringBuilder -/
def k13 : Class := { plain "java/lang/StringBuilder" (some 12) with
  accessFlags := 49
  interfaces := #[11, 2, 3, 4]
  cf := some (fileOf pool13 24 #[] #[{ accessFlags := 1, nameIndex := 5, descriptorIndex := 145, attributes := #[] }, { accessFlags := 1, nameIndex := 5, descriptorIndex := 6, attributes := #[] }, { accessFlags := 1, nameIndex := 27, descriptorIndex := 28, attributes := #[] }, { accessFlags := 1, nameIndex := 27, descriptorIndex := 286, attributes := #[] }, { accessFlags := 1, nameIndex := 399, descriptorIndex := 400, attributes := #[] }, { accessFlags := 4161, nameIndex := 345, descriptorIndex := 156, attributes := #[] }] 49 2 #[349, 351, 353, 355] #[{ accessFlags := 24, nameIndex := 357, descriptorIndex := 358, attributes := #[] }])
  fields := #[{ name := "serialVersionUID", type := .long, accessFlags := 24, slot := 0, constantValue := 0 }]
  methods := #[k13m0, k13m1, k13m2, k13m3, k13m4, k13m5]
  instanceTypes := #[(.array .byte), .byte, .boolean, .int]
  staticTypes := #[.long]
  resolved := Array.replicate 422 none
  statics := none }

def pool14 : Array CpInfo := pool [(1, .class_ 2), (0, u "java/lang/String"), (1, .class_ 6), (1, u "java/lang/Object"), (0, u "<init>"), (0, u "()V"), (0, .methodref 1 10), (0, .nameAndType 11 12), (0, u "checkIndex"), (0, u "(II)V"), (1, .class_ 16), (1, u "java/lang/StringLatin1"), (0, u "inflate"), (2, .class_ 22), (1, u "java/lang/StringUTF16"), (3, .nameAndType 17 27), (0, u "([BI[BII)V"), (25, u "([BI)C"), (36, u "canEncode"), (14, u "(C)Z"), (15, u "$assertionsDisabled"), (0, u "Z"), (98, .class_ 223), (1, u "java/lang/StringLatin1$LinesSpliterator"), (16, .methodref 20 26), (11, u "charAt"), (127, u "toBytes"), (1, u "(C)[B"), (7, .class_ 391), (0, u "java/lang/StringLatin1$CharsSpliterator")] 3

def k14m0 : Method := { name := "<init>", desc := "()V", sig := { parameters := [], returnType := none }, accessFlags := 0, code := none }
def k14c1 : Code := { maxStack := 2, maxLocals := 2, code := jdk_43_method_2_code, exceptionTable := #[], attributes := #[] }
def k14m1 : Method := { name := "charAt", desc := "([BI)C", sig := { parameters := [(.array .byte), .int], returnType := some .char }, accessFlags := 9, code := some k14c1 }
def k14c2 : Code := { maxStack := 2, maxLocals := 1, code := jdk_43_method_3_code, exceptionTable := #[], attributes := #[] }
def k14m2 : Method := { name := "canEncode", desc := "(C)Z", sig := { parameters := [.char], returnType := some .boolean }, accessFlags := 9, code := some k14c2 }
def k14c3 : Code := { maxStack := 4, maxLocals := 1, code := jdk_43_method_46_code, exceptionTable := #[], attributes := #[] }
def k14m3 : Method := { name := "toBytes", desc := "(C)[B", sig := { parameters := [.char], returnType := some (.array .byte) }, accessFlags := 9, code := some k14c3 }
def k14c4 : Code := { maxStack := 5, maxLocals := 5, code := jdk_43_method_50_code, exceptionTable := #[], attributes := #[] }
def k14m4 : Method := { name := "inflate", desc := "([BI[BII)V", sig := { parameters := [(.array .byte), .int, (.array .byte), .int, .int], returnType := none }, accessFlags := 9, code := some k14c4 }
/-- java/lang/StringLatin1 -/
def k14 : Class := { plain "java/lang/StringLatin1" (some 0) with
  accessFlags := 48
  interfaces := #[]
  cf := some (fileOf pool14 14 #[.nestMembers #[390, 221]] #[{ accessFlags := 0, nameIndex := 7, descriptorIndex := 8, attributes := #[] }, { accessFlags := 9, nameIndex := 252, descriptorIndex := 53, attributes := #[] }, { accessFlags := 9, nameIndex := 90, descriptorIndex := 105, attributes := #[] }, { accessFlags := 9, nameIndex := 380, descriptorIndex := 382, attributes := #[] }, { accessFlags := 9, nameIndex := 17, descriptorIndex := 27, attributes := #[] }] 48 4 #[] #[{ accessFlags := 4120, nameIndex := 121, descriptorIndex := 122, attributes := #[] }])
  fields := #[{ name := "$assertionsDisabled", type := .boolean, accessFlags := 4120, slot := 0, constantValue := 0 }]
  methods := #[k14m0, k14m1, k14m2, k14m3, k14m4]
  instanceTypes := #[]
  staticTypes := #[.boolean]
  resolved := Array.replicate 395 none
  statics := none }

def pool15 : Array CpInfo := pool [(2, .class_ 4), (1, u "java/lang/Object"), (0, u "<init>"), (0, u "()V"), (17, .class_ 26), (1, u "jdk/internal/util/Preconditions"), (6, u "checkIndex"), (15, u "checkFromIndexSize"), (5, .class_ 56), (0, u "jdk/internal/util/Preconditions$4"), (57, .class_ 115), (0, u "jdk/internal/util/Preconditions$1"), (7, u "SIOOBE_FORMATTER"), (0, u "Ljava/util/function/BiFunction;"), (0, .class_ 126), (0, u "jdk/internal/util/Preconditions$2"), (3, u "AIOOBE_FORMATTER"), (0, .class_ 132), (0, u "jdk/internal/util/Preconditions$3"), (3, u "IOOBE_FORMATTER"), (41, u "(IILjava/util/function/BiFunction;)I"), (4, u "(IIILjava/util/function/BiFunction;)I")] 10

def k15m0 : Method := { name := "<init>", desc := "()V", sig := { parameters := [], returnType := none }, accessFlags := 1, code := none }
def k15c1 : Code := { maxStack := 3, maxLocals := 3, code := jdk_41_method_11_code, exceptionTable := #[], attributes := #[] }
def k15m1 : Method := { name := "checkIndex", desc := "(IILjava/util/function/BiFunction;)I", sig := { parameters := [.int, .int, (.object "java/util/function/BiFunction")], returnType := some .int }, accessFlags := 9, code := some k15c1 }
def k15c2 : Code := { maxStack := 4, maxLocals := 4, code := jdk_41_method_13_code, exceptionTable := #[], attributes := #[] }
def k15m2 : Method := { name := "checkFromIndexSize", desc := "(IIILjava/util/function/BiFunction;)I", sig := { parameters := [.int, .int, .int, (.object "java/util/function/BiFunction")], returnType := some .int }, accessFlags := 9, code := some k15c2 }
/-- jdk/internal/util/Preconditions -/
def k15 : Class := { plain "jdk/internal/util/Preconditions" (some 0) with
  accessFlags := 33
  interfaces := #[]
  cf := some (fileOf pool15 24 #[.nestMembers #[55, 131, 125, 114]] #[{ accessFlags := 1, nameIndex := 5, descriptorIndex := 6, attributes := #[] }, { accessFlags := 9, nameIndex := 33, descriptorIndex := 178, attributes := #[] }, { accessFlags := 9, nameIndex := 49, descriptorIndex := 183, attributes := #[] }] 33 2 #[] #[{ accessFlags := 25, nameIndex := 123, descriptorIndex := 124, attributes := #[] }, { accessFlags := 25, nameIndex := 130, descriptorIndex := 124, attributes := #[] }, { accessFlags := 25, nameIndex := 136, descriptorIndex := 124, attributes := #[] }])
  fields := #[{ name := "SIOOBE_FORMATTER", type := (.object "java/util/function/BiFunction"), accessFlags := 25, slot := 0, constantValue := 0 }, { name := "AIOOBE_FORMATTER", type := (.object "java/util/function/BiFunction"), accessFlags := 25, slot := 1, constantValue := 0 }, { name := "IOOBE_FORMATTER", type := (.object "java/util/function/BiFunction"), accessFlags := 25, slot := 2, constantValue := 0 }]
  methods := #[k15m0, k15m1, k15m2]
  instanceTypes := #[]
  staticTypes := #[(.object "java/util/function/BiFunction"), (.object "java/util/function/BiFunction"), (.object "java/util/function/BiFunction")]
  resolved := Array.replicate 194 none
  statics := some 2 }

def pool16 : Array CpInfo := pool [(9, u "<init>"), (6, .class_ 18), (1, u "java/lang/Object"), (0, u "()V"), (1, .class_ 23), (1, u "jdk/internal/util/ArraysSupport"), (0, u "LOG2_ARRAY_LONG_INDEX_SCALE"), (0, u "I"), (2, u "U"), (0, u "Ljdk/internal/misc/Unsafe;"), (8, u "BIG_ENDIAN"), (0, u "Z"), (8, u "LOG2_BYTE_BIT_SIZE"), (4, u "LOG2_ARRAY_INT_INDEX_SCALE"), (54, u "JLA"), (0, u "Ljdk/internal/access/JavaLangAccess;"), (11, u "LOG2_ARRAY_BOOLEAN_INDEX_SCALE"), (9, u "LOG2_ARRAY_BYTE_INDEX_SCALE"), (5, u "LOG2_ARRAY_CHAR_INDEX_SCALE"), (5, u "LOG2_ARRAY_SHORT_INDEX_SCALE"), (18, u "LOG2_ARRAY_FLOAT_INDEX_SCALE"), (24, u "LOG2_ARRAY_DOUBLE_INDEX_SCALE"), (6, .methodref 195 196), (0, .class_ 197), (0, .nameAndType 198 199), (0, u "java/lang/Math"), (0, u "max"), (0, u "(II)I"), (0, .integer 2147483639), (76, u "T_BOOLEAN"), (2, u "T_CHAR"), (1, u "T_FLOAT"), (1, u "T_DOUBLE"), (1, u "T_BYTE"), (1, u "T_SHORT"), (1, u "T_INT"), (1, u "T_LONG"), (1, u "SOFT_MAX_ARRAY_LENGTH"), (56, u "newLength"), (0, u "(III)I")] 25

def k16m0 : Method := { name := "<init>", desc := "()V", sig := { parameters := [], returnType := none }, accessFlags := 2, code := none }
def k16c1 : Code := { maxStack := 3, maxLocals := 4, code := jdk_48_method_27_code, exceptionTable := #[], attributes := #[] }
def k16m1 : Method := { name := "newLength", desc := "(III)I", sig := { parameters := [.int, .int, .int], returnType := some .int }, accessFlags := 9, code := some k16c1 }
/-- jdk/internal/util/ArraysSupport -/
def k16 : Class := { plain "jdk/internal/util/ArraysSupport" (some 0) with
  accessFlags := 33
  interfaces := #[]
  cf := some (fileOf pool16 21 #[] #[{ accessFlags := 2, nameIndex := 9, descriptorIndex := 19, attributes := #[] }, { accessFlags := 9, nameIndex := 351, descriptorIndex := 352, attributes := #[] }] 33 16 #[] #[{ accessFlags := 24, nameIndex := 28, descriptorIndex := 29, attributes := #[] }, { accessFlags := 26, nameIndex := 38, descriptorIndex := 39, attributes := #[] }, { accessFlags := 25, nameIndex := 121, descriptorIndex := 25, attributes := #[] }, { accessFlags := 25, nameIndex := 131, descriptorIndex := 25, attributes := #[] }, { accessFlags := 25, nameIndex := 137, descriptorIndex := 25, attributes := #[] }, { accessFlags := 25, nameIndex := 143, descriptorIndex := 25, attributes := #[] }, { accessFlags := 25, nameIndex := 53, descriptorIndex := 25, attributes := #[] }, { accessFlags := 25, nameIndex := 24, descriptorIndex := 25, attributes := #[] }, { accessFlags := 25, nameIndex := 162, descriptorIndex := 25, attributes := #[] }, { accessFlags := 25, nameIndex := 187, descriptorIndex := 25, attributes := #[] }, { accessFlags := 26, nameIndex := 48, descriptorIndex := 25, attributes := #[] }, { accessFlags := 25, nameIndex := 277, descriptorIndex := 25, attributes := #[] }, { accessFlags := 25, nameIndex := 280, descriptorIndex := 25, attributes := #[] }, { accessFlags := 25, nameIndex := 282, descriptorIndex := 25, attributes := #[] }, { accessFlags := 25, nameIndex := 284, descriptorIndex := 25, attributes := #[] }, { accessFlags := 25, nameIndex := 286, descriptorIndex := 25, attributes := #[] }, { accessFlags := 25, nameIndex := 288, descriptorIndex := 25, attributes := #[] }, { accessFlags := 25, nameIndex := 290, descriptorIndex := 25, attributes := #[] }, { accessFlags := 25, nameIndex := 292, descriptorIndex := 25, attributes := #[] }, { accessFlags := 26, nameIndex := 108, descriptorIndex := 109, attributes := #[] }, { accessFlags := 25, nameIndex := 294, descriptorIndex := 25, attributes := #[] }])
  fields := #[{ name := "U", type := (.object "jdk/internal/misc/Unsafe"), accessFlags := 24, slot := 0, constantValue := 0 }, { name := "BIG_ENDIAN", type := .boolean, accessFlags := 26, slot := 1, constantValue := 0 }, { name := "LOG2_ARRAY_BOOLEAN_INDEX_SCALE", type := .int, accessFlags := 25, slot := 2, constantValue := 0 }, { name := "LOG2_ARRAY_BYTE_INDEX_SCALE", type := .int, accessFlags := 25, slot := 3, constantValue := 0 }, { name := "LOG2_ARRAY_CHAR_INDEX_SCALE", type := .int, accessFlags := 25, slot := 4, constantValue := 0 }, { name := "LOG2_ARRAY_SHORT_INDEX_SCALE", type := .int, accessFlags := 25, slot := 5, constantValue := 0 }, { name := "LOG2_ARRAY_INT_INDEX_SCALE", type := .int, accessFlags := 25, slot := 6, constantValue := 0 }, { name := "LOG2_ARRAY_LONG_INDEX_SCALE", type := .int, accessFlags := 25, slot := 7, constantValue := 0 }, { name := "LOG2_ARRAY_FLOAT_INDEX_SCALE", type := .int, accessFlags := 25, slot := 8, constantValue := 0 }, { name := "LOG2_ARRAY_DOUBLE_INDEX_SCALE", type := .int, accessFlags := 25, slot := 9, constantValue := 0 }, { name := "LOG2_BYTE_BIT_SIZE", type := .int, accessFlags := 26, slot := 10, constantValue := 0 }, { name := "T_BOOLEAN", type := .int, accessFlags := 25, slot := 11, constantValue := 0 }, { name := "T_CHAR", type := .int, accessFlags := 25, slot := 12, constantValue := 0 }, { name := "T_FLOAT", type := .int, accessFlags := 25, slot := 13, constantValue := 0 }, { name := "T_DOUBLE", type := .int, accessFlags := 25, slot := 14, constantValue := 0 }, { name := "T_BYTE", type := .int, accessFlags := 25, slot := 15, constantValue := 0 }, { name := "T_SHORT", type := .int, accessFlags := 25, slot := 16, constantValue := 0 }, { name := "T_INT", type := .int, accessFlags := 25, slot := 17, constantValue := 0 }, { name := "T_LONG", type := .int, accessFlags := 25, slot := 18, constantValue := 0 }, { name := "JLA", type := (.object "jdk/internal/access/JavaLangAccess"), accessFlags := 26, slot := 19, constantValue := 0 }, { name := "SOFT_MAX_ARRAY_LENGTH", type := .int, accessFlags := 25, slot := 20, constantValue := 0 }]
  methods := #[k16m0, k16m1]
  instanceTypes := #[]
  staticTypes := #[(.object "jdk/internal/misc/Unsafe"), .boolean, .int, .int, .int, .int, .int, .int, .int, .int, .int, .int, .int, .int, .int, .int, .int, .int, .int, (.object "jdk/internal/access/JavaLangAccess"), .int]
  resolved := Array.replicate 378 none
  statics := none }

def pool17 : Array CpInfo := pool [(1, .class_ 2), (0, u "java/lang/Math"), (1, .class_ 6), (1, u "java/lang/Object"), (0, u "<init>"), (0, u "()V"), (89, .class_ 100), (1, u "java/lang/Math$RandomNumberGeneratorHolder"), (71, u "negativeZeroFloatBits"), (0, u "J"), (2, u "negativeZeroDoubleBits"), (21, u "max"), (2, u "min"), (43, u "$assertionsDisabled"), (0, u "Z"), (88, u "(II)I"), (2, u "twoToTheDoubleScaleDown"), (0, u "D"), (4, u "twoToTheDoubleScaleUp"), (9, u "E"), (3, u "PI"), (2, u "TAU"), (2, u "DEGREES_TO_RADIANS"), (0, u "RADIANS_TO_DEGREES")] 94

def k17m0 : Method := { name := "<init>", desc := "()V", sig := { parameters := [], returnType := none }, accessFlags := 2, code := none }
def k17c1 : Code := { maxStack := 2, maxLocals := 2, code := jdk_29_method_65_code, exceptionTable := #[], attributes := #[] }
def k17m1 : Method := { name := "max", desc := "(II)I", sig := { parameters := [.int, .int], returnType := some .int }, accessFlags := 9, code := some k17c1 }
def k17c2 : Code := { maxStack := 2, maxLocals := 2, code := jdk_29_method_69_code, exceptionTable := #[], attributes := #[] }
def k17m2 : Method := { name := "min", desc := "(II)I", sig := { parameters := [.int, .int], returnType := some .int }, accessFlags := 9, code := some k17c2 }
/-- java/lang/Math -/
def k17 : Class := { plain "java/lang/Math" (some 0) with
  accessFlags := 49
  interfaces := #[]
  cf := some (fileOf pool17 1 #[.nestMembers #[98]] #[{ accessFlags := 2, nameIndex := 7, descriptorIndex := 8, attributes := #[] }, { accessFlags := 9, nameIndex := 198, descriptorIndex := 335, attributes := #[] }, { accessFlags := 9, nameIndex := 201, descriptorIndex := 335, attributes := #[] }] 49 4 #[] #[{ accessFlags := 25, nameIndex := 354, descriptorIndex := 339, attributes := #[] }, { accessFlags := 25, nameIndex := 358, descriptorIndex := 339, attributes := #[] }, { accessFlags := 25, nameIndex := 361, descriptorIndex := 339, attributes := #[] }, { accessFlags := 26, nameIndex := 364, descriptorIndex := 339, attributes := #[] }, { accessFlags := 26, nameIndex := 365, descriptorIndex := 339, attributes := #[] }, { accessFlags := 26, nameIndex := 172, descriptorIndex := 173, attributes := #[] }, { accessFlags := 26, nameIndex := 176, descriptorIndex := 173, attributes := #[] }, { accessFlags := 8, nameIndex := 344, descriptorIndex := 339, attributes := #[] }, { accessFlags := 8, nameIndex := 338, descriptorIndex := 339, attributes := #[] }, { accessFlags := 4120, nameIndex := 245, descriptorIndex := 246, attributes := #[] }])
  fields := #[{ name := "E", type := .double, accessFlags := 25, slot := 0, constantValue := 0 }, { name := "PI", type := .double, accessFlags := 25, slot := 1, constantValue := 0 }, { name := "TAU", type := .double, accessFlags := 25, slot := 2, constantValue := 0 }, { name := "DEGREES_TO_RADIANS", type := .double, accessFlags := 26, slot := 3, constantValue := 0 }, { name := "RADIANS_TO_DEGREES", type := .double, accessFlags := 26, slot := 4, constantValue := 0 }, { name := "negativeZeroFloatBits", type := .long, accessFlags := 26, slot := 5, constantValue := 0 }, { name := "negativeZeroDoubleBits", type := .long, accessFlags := 26, slot := 6, constantValue := 0 }, { name := "twoToTheDoubleScaleUp", type := .double, accessFlags := 8, slot := 7, constantValue := 0 }, { name := "twoToTheDoubleScaleDown", type := .double, accessFlags := 8, slot := 8, constantValue := 0 }, { name := "$assertionsDisabled", type := .boolean, accessFlags := 4120, slot := 9, constantValue := 0 }]
  methods := #[k17m0, k17m1, k17m2]
  instanceTypes := #[]
  staticTypes := #[.double, .double, .double, .double, .double, .long, .long, .double, .double, .boolean]
  resolved := Array.replicate 460 none
  statics := none }

def pool18 : Array CpInfo := pool [(2, .class_ 4), (1, u "java/lang/Object"), (0, u "<init>"), (0, u "()V"), (7, .class_ 16), (1, u "java/util/Arrays"), (57, .class_ 76), (1, u "java/util/Arrays$NaturalOrder"), (32, u "()Ljava/lang/Object;"), (3, .class_ 115), (1, u "java/util/Arrays$LegacyMergeSort"), (1, u "Z"), (10, .nameAndType 129 109), (0, u "clone"), (9, u "copyOfRange"), (10, .methodref 151 152), (0, .class_ 153), (0, .nameAndType 154 155), (0, u "java/lang/System"), (0, u "arraycopy"), (0, u "(Ljava/lang/Object;ILjava/lang/Object;II)V"), (146, u "copyOf"), (1, .methodref 305 306), (0, .class_ 307), (0, .nameAndType 308 309), (0, u "java/lang/Math"), (0, u "min"), (0, u "(II)I"), (0, .methodref 311 128), (0, .class_ 312), (0, u "[B"), (26, .methodref 14 340), (0, .nameAndType 341 342), (0, u "copyOfRangeByte"), (0, u "([BII)[B"), (0, .methodref 14 344), (0, .nameAndType 345 346), (0, u "checkLength"), (0, u "(II)V"), (28, .class_ 376), (0, u "java/util/Arrays$ArrayList"), (68, u "$assertionsDisabled"), (269, u "MIN_ARRAY_SORT_GRAN"), (0, u "I"), (2, u "INSERTIONSORT_THRESHOLD"), (149, u "([BI)[B"), (105, .class_ 976), (0, u "java/util/Arrays$ArrayItr")] 52

def k18m0 : Method := { name := "<init>", desc := "()V", sig := { parameters := [], returnType := none }, accessFlags := 2, code := none }
def k18c1 : Code := { maxStack := 6, maxLocals := 3, code := jdk_65_method_121_code, exceptionTable := #[], attributes := #[] }
def k18m1 : Method := { name := "copyOf", desc := "([BI)[B", sig := { parameters := [(.array .byte), .int], returnType := some (.array .byte) }, accessFlags := 9, code := some k18c1 }
def k18c2 : Code := { maxStack := 4, maxLocals := 2, code := jdk_65_method_131_code, exceptionTable := #[], attributes := #[] }
def k18m2 : Method := { name := "checkLength", desc := "(II)V", sig := { parameters := [.int, .int], returnType := none }, accessFlags := 10, code := some k18c2 }
def k18c3 : Code := { maxStack := 3, maxLocals := 3, code := jdk_65_method_132_code, exceptionTable := #[], attributes := #[] }
def k18m3 : Method := { name := "copyOfRange", desc := "([BII)[B", sig := { parameters := [(.array .byte), .int, .int], returnType := some (.array .byte) }, accessFlags := 9, code := some k18c3 }
def k18c4 : Code := { maxStack := 6, maxLocals := 5, code := jdk_65_method_133_code, exceptionTable := #[], attributes := #[] }
def k18m4 : Method := { name := "copyOfRangeByte", desc := "([BII)[B", sig := { parameters := [(.array .byte), .int, .int], returnType := some (.array .byte) }, accessFlags := 10, code := some k18c4 }
/-- java/util/Arrays -/
def k18 : Class := { plain "java/util/Arrays" (some 0) with
  accessFlags := 49
  interfaces := #[]
  cf := some (fileOf pool18 14 #[.nestMembers #[975, 375, 113, 74]] #[{ accessFlags := 2, nameIndex := 5, descriptorIndex := 6, attributes := #[] }, { accessFlags := 9, nameIndex := 302, descriptorIndex := 869, attributes := #[] }, { accessFlags := 10, nameIndex := 345, descriptorIndex := 346, attributes := #[] }, { accessFlags := 9, nameIndex := 139, descriptorIndex := 342, attributes := #[] }, { accessFlags := 10, nameIndex := 341, descriptorIndex := 342, attributes := #[] }] 49 2 #[] #[{ accessFlags := 26, nameIndex := 715, descriptorIndex := 716, attributes := #[] }, { accessFlags := 26, nameIndex := 719, descriptorIndex := 716, attributes := #[] }, { accessFlags := 4120, nameIndex := 445, descriptorIndex := 117, attributes := #[] }])
  fields := #[{ name := "MIN_ARRAY_SORT_GRAN", type := .int, accessFlags := 26, slot := 0, constantValue := 0 }, { name := "INSERTIONSORT_THRESHOLD", type := .int, accessFlags := 26, slot := 1, constantValue := 0 }, { name := "$assertionsDisabled", type := .boolean, accessFlags := 4120, slot := 2, constantValue := 0 }]
  methods := #[k18m0, k18m1, k18m2, k18m3, k18m4]
  instanceTypes := #[]
  staticTypes := #[.int, .int, .boolean]
  resolved := Array.replicate 1029 none
  statics := none }

def pool19 : Array CpInfo := pool [(2, .class_ 4), (1, u "java/lang/Object"), (0, u "<init>"), (0, u "()V"), (1, .class_ 10), (1, u "java/lang/System"), (0, u "allowSecurityManager"), (0, u "I"), (16, u "cons"), (0, u "Ljava/io/Console;"), (77, .class_ 110), (1, u "java/lang/System$CallersHolder"), (43, u "initialErrStream"), (0, u "Ljava/io/PrintStream;"), (19, u "security"), (0, u "Ljava/lang/SecurityManager;"), (31, .class_ 209), (0, u "java/lang/System$1"), (7, u "props"), (0, u "Ljava/util/Properties;"), (2, u "lineSeparator"), (0, u "Ljava/lang/String;"), (96, .class_ 321), (1, u "java/lang/System$LoggerFinder"), (5, .class_ 328), (0, u "java/lang/System$Logger"), (67, u "err"), (2, u "out"), (91, u "notSupportedJnuEncoding"), (15, u "in"), (17, u "initialIn"), (0, u "Ljava/io/InputStream;"), (35, u "bootLayer"), (0, u "Ljava/lang/ModuleLayer;"), (99, .class_ 664), (0, u "java/lang/System$2"), (9, u "NEVER"), (2, u "MAYBE"), (49, u "arraycopy"), (0, u "(Ljava/lang/Object;ILjava/lang/Object;II)V"), (72, .class_ 802), (0, u "java/lang/System$Logger$Level")] 31

def k19m0 : Method := { name := "<init>", desc := "()V", sig := { parameters := [], returnType := none }, accessFlags := 2, code := none }
def k19m1 : Method := { name := "arraycopy", desc := "(Ljava/lang/Object;ILjava/lang/Object;II)V", sig := { parameters := [(.object "java/lang/Object"), .int, (.object "java/lang/Object"), .int, .int], returnType := none }, accessFlags := 265, code := none }
/-- java/lang/System -/
def k19 : Class := { plain "java/lang/System" (some 0) with
  accessFlags := 49
  interfaces := #[]
  cf := some (fileOf pool19 8 #[.nestMembers #[319, 327, 801, 108, 663, 208]] #[{ accessFlags := 2, nameIndex := 5, descriptorIndex := 6, attributes := #[] }, { accessFlags := 265, nameIndex := 727, descriptorIndex := 728, attributes := #[] }] 49 2 #[] #[{ accessFlags := 25, nameIndex := 507, descriptorIndex := 526, attributes := #[] }, { accessFlags := 25, nameIndex := 399, descriptorIndex := 155, attributes := #[] }, { accessFlags := 25, nameIndex := 396, descriptorIndex := 155, attributes := #[] }, { accessFlags := 10, nameIndex := 525, descriptorIndex := 526, attributes := #[] }, { accessFlags := 26, nameIndex := 674, descriptorIndex := 12, attributes := #[] }, { accessFlags := 26, nameIndex := 677, descriptorIndex := 12, attributes := #[] }, { accessFlags := 10, nameIndex := 11, descriptorIndex := 12, attributes := #[] }, { accessFlags := 74, nameIndex := 175, descriptorIndex := 176, attributes := #[] }, { accessFlags := 10, nameIndex := 491, descriptorIndex := 222, attributes := #[] }, { accessFlags := 74, nameIndex := 29, descriptorIndex := 30, attributes := #[] }, { accessFlags := 74, nameIndex := 154, descriptorIndex := 155, attributes := #[] }, { accessFlags := 10, nameIndex := 217, descriptorIndex := 218, attributes := #[] }, { accessFlags := 10, nameIndex := 221, descriptorIndex := 222, attributes := #[] }, { accessFlags := 8, nameIndex := 562, descriptorIndex := 563, attributes := #[] }])
  fields := #[{ name := "in", type := (.object "java/io/InputStream"), accessFlags := 25, slot := 0, constantValue := 0 }, { name := "out", type := (.object "java/io/PrintStream"), accessFlags := 25, slot := 1, constantValue := 0 }, { name := "err", type := (.object "java/io/PrintStream"), accessFlags := 25, slot := 2, constantValue := 0 }, { name := "initialIn", type := (.object "java/io/InputStream"), accessFlags := 10, slot := 3, constantValue := 0 }, { name := "NEVER", type := .int, accessFlags := 26, slot := 4, constantValue := 0 }, { name := "MAYBE", type := .int, accessFlags := 26, slot := 5, constantValue := 0 }, { name := "allowSecurityManager", type := .int, accessFlags := 10, slot := 6, constantValue := 0 }, { name := "security", type := (.object "java/lang/SecurityManager"), accessFlags := 74, slot := 7, constantValue := 0 }, { name := "notSupportedJnuEncoding", type := (.object "java/lang/String"), accessFlags := 10, slot := 8, constantValue := 0 }, { name := "cons", type := (.object "java/io/Console"), accessFlags := 74, slot := 9, constantValue := 0 }, { name := "initialErrStream", type := (.object "java/io/PrintStream"), accessFlags := 74, slot := 10, constantValue := 0 }, { name := "props", type := (.object "java/util/Properties"), accessFlags := 10, slot := 11, constantValue := 0 }, { name := "lineSeparator", type := (.object "java/lang/String"), accessFlags := 10, slot := 12, constantValue := 0 }, { name := "bootLayer", type := (.object "java/lang/ModuleLayer"), accessFlags := 8, slot := 13, constantValue := 0 }]
  methods := #[k19m0, k19m1]
  instanceTypes := #[]
  staticTypes := #[(.object "java/io/InputStream"), (.object "java/io/PrintStream"), (.object "java/io/PrintStream"), (.object "java/io/InputStream"), .int, .int, .int, (.object "java/lang/SecurityManager"), (.object "java/lang/String"), (.object "java/io/Console"), (.object "java/io/PrintStream"), (.object "java/util/Properties"), (.object "java/lang/String"), (.object "java/lang/ModuleLayer")]
  resolved := Array.replicate 834 none
  statics := none }

def pool20 : Array CpInfo := pool [(1, .class_ 2), (0, u "java/lang/Cloneable"), (0, .class_ 4), (0, u "java/lang/Object")] 2

/-- java/lang/Cloneable -/
def k20 : Class := { plain "java/lang/Cloneable" (some 0) with
  accessFlags := 1537
  interfaces := #[]
  cf := some (fileOf pool20 1 #[] #[] 1537 3 #[] #[])
  fields := #[]
  methods := #[]
  instanceTypes := #[]
  staticTypes := #[]
  resolved := Array.replicate 7 none
  statics := none }

/-- the primitive byte -/
def k21 : Class := { plain "byte" none with kind := .primitive 'B', accessFlags := 0x411 }
/-- [B -/
def k22 : Class := { plain "[B" (some 0) with kind := .array 21 .byte, interfaces := #[20, 2], accessFlags := 1041 }

/-- the primitive char -/
def k23 : Class := { plain "char" none with kind := .primitive 'C', accessFlags := 0x411 }
/-- [C -/
def k24 : Class := { plain "[C" (some 0) with kind := .array 23 .char, interfaces := #[20, 2], accessFlags := 1041 }

/-- the primitive int -/
def k25 : Class := { plain "int" none with kind := .primitive 'I', accessFlags := 0x411 }
/-- [I -/
def k26 : Class := { plain "[I" (some 0) with kind := .array 25 .int, interfaces := #[20, 2], accessFlags := 1041 }

def heap : Heap := #[{ cls := 7, slots := #[.long 0, .int 1, .null, .int 0, .null, .int 0, .int 0], vm := .statics 7 },
  { cls := 8, slots := #[.int 0, .int 8, .int 0, .int 1], vm := .statics 8 },
  { cls := 15, slots := #[.null, .null, .null], vm := .statics 15 }]
def classes : Array Class := #[k0, k1, k2, k3, k4, k5, k6, k7, k8, k9, k10, k11, k12, k13, k14, k15, k16, k17, k18, k19, k20, k21, k22, k23, k24, k25, k26]
def interned : List (Array UInt16 × Addr) := []
def slotsUsed : Nat := 14
def theMethod : MethodId := ⟨1, 1⟩
def args0 : Array Value := #[.int 1, .int 2, .int 3, .int 4]
def aboutOver (below : List Frame) : State where
  vm := { classes := classes, interned := interned.toArray }
  heap := heap
  slotsUsed := slotsUsed
  threads := #[{ frames := .invoking theMethod args0 :: below }]
def below0 : List Frame := [.native { method := ⟨0, 0⟩, args := #[] }]
def about1 : State := aboutOver below0
def p0 : Program := .bare "" "" ""
def e0 : Env := launch0.env 0 0 0
theorem w_frames : about1.frames = Frame.invoking theMethod args0 :: below0 := rfl
set_option maxRecDepth 65536 in
theorem w_args : argsFit about1.vm theMethod args0 = true := by decide +kernel
set_option maxRecDepth 65536 in
theorem w_heap : heapFits about1 = true := by decide +kernel
set_option maxRecDepth 65536 in
theorem w_runnable : about1.curStatus? = some .runnable := by decide +kernel
set_option maxRecDepth 65536 in
theorem w_alone : about1.alone = true := by decide +kernel
set_option maxRecDepth 65536 in
theorem w_named : about1.methodNamed? x = some theMethod := by decide +kernel
set_option maxRecDepth 65536 in
theorem w_hears : about1.hears theMethod below0 = true := by decide +kernel
set_option maxRecDepth 65536 in
theorem w_ripe : about1.ripe theMethod args0 below0 = true := by decide +kernel
theorem w_running : about1.status = .running := rfl
set_option maxRecDepth 65536 in
theorem w_room : about1.hasRoom e0.platform room_1 = true :=
  launch0.hasRoom_least _ room_1 (by decide +kernel) (by decide +kernel) (by decide +kernel) (by decide +kernel) (by decide +kernel) (by decide +kernel)
theorem allAtoms_all (ts : List Jvm.Cond) (a : Array Jvm.Value) (st : Jvm.State) : (allAtoms ts).before a st = ts.all (fun c => c.before a st) := by
  induction ts with
  | nil => rfl
  | cons c t ih =>
    show (Jvm.Cond.and c (allAtoms t)).before a st = _
    rw [Jvm.Cond.before_and, ih, List.all_cons]
def words1 : List Jvm.Cond := Jvm.Cond.code x code maxLocals ret :: tables_1
/-- a 'code' word, met by the world's own term for the bytes: nothing is compared byte by byte -/
theorem code_word {y : MethodName} {bytes : ByteArray} {mx : Nat} {rt : Option FieldType} {a : Array Value} {s : State} {m : MethodId} {meth : Method} {c : Code} (h1 : s.methodNamed? y = some m) (h2 : s.vm.method? m = some meth) (h3 : meth.code = some c) (h4 : c.code = bytes)
    (h5 : (c.maxLocals == mx && c.exceptionTable.isEmpty && decide (c.maxStack ≤ mostOperands) && decide (meth.sig.returnType = rt) && !meth.locks && decide (parseMethodDescriptor y.desc = some meth.sig)) = true) : (Jvm.Cond.code y bytes mx rt).before a s = true := by
  simp only [Bool.and_eq_true, beq_iff_eq, Bool.not_eq_true', decide_eq_true_eq] at h5
  obtain ⟨⟨⟨⟨⟨g1, g2⟩, g3⟩, g4⟩, g5⟩, g6⟩ := h5
  simp [Cond.before, Cond.holds, Cond.value, h1, h2, h3, h4, g1, g2, g3, g4, g5, g6]
def isCode : Jvm.Cond → Bool
  | .code _ _ _ _ => true
  | _ => false
theorem all_split {L : List Jvm.Cond} {P : Jvm.Cond → Bool} (h1 : L.all (fun c => isCode c || P c) = true) (h2 : ∀ c ∈ L.filter isCode, P c = true) : L.all P = true := by
  refine List.all_eq_true.mpr fun c hc => ?_
  have h := List.all_eq_true.mp h1 c hc
  rcases Bool.eq_false_or_eq_true (isCode c) with hi | hi
  · exact h2 c (List.mem_filter.mpr ⟨hc, hi⟩)
  · simpa [hi] using h
set_option maxRecDepth 65536 in
theorem w_c0 : (Jvm.Cond.code x code maxLocals ret).before args0 about1 = true := code_word (m := ⟨1, 1⟩) (meth := k1m1) (c := k1c1) (by decide +kernel) rfl rfl rfl (by decide +kernel)
set_option maxRecDepth 65536 in
theorem w_c1 : (Jvm.Cond.code ({ cls := "com/example/lushan/lushan/console/PageEscapePinLaw", name := "draw", desc := "(I)C" } : Jvm.MethodName) method_3_code (2 : Nat) (Option.some Jvm.ClassFile.FieldType.char)).before args0 about1 = true := code_word (m := ⟨1, 2⟩) (meth := k1m2) (c := k1c2) (by decide +kernel) rfl rfl rfl (by decide +kernel)
set_option maxRecDepth 65536 in
theorem w_c2 : (Jvm.Cond.code ({ cls := "java/lang/String", name := "<init>", desc := "([C)V" } : Jvm.MethodName) jdk_42_method_3_code (2 : Nat) (Option.none : Option Jvm.ClassFile.FieldType)).before args0 about1 = true := code_word (m := ⟨7, 1⟩) (meth := k7m1) (c := k7c1) (by decide +kernel) rfl rfl rfl (by decide +kernel)
set_option maxRecDepth 65536 in
theorem w_c3 : (Jvm.Cond.code ({ cls := "java/lang/String", name := "<init>", desc := "([CIILjava/lang/Void;)V" } : Jvm.MethodName) jdk_42_method_149_code (6 : Nat) (Option.none : Option Jvm.ClassFile.FieldType)).before args0 about1 = true := code_word (m := ⟨7, 7⟩) (meth := k7m7) (c := k7c7) (by decide +kernel) rfl rfl rfl (by decide +kernel)
set_option maxRecDepth 65536 in
theorem w_c4 : (Jvm.Cond.code ({ cls := "java/lang/Object", name := "<init>", desc := "()V" } : Jvm.MethodName) object_method_1_code (1 : Nat) (Option.none : Option Jvm.ClassFile.FieldType)).before args0 about1 = true := code_word (m := ⟨0, 0⟩) (meth := k0m0) (c := k0c0) (by decide +kernel) rfl rfl rfl (by decide +kernel)
set_option maxRecDepth 65536 in
theorem w_c5 : (Jvm.Cond.code ({ cls := "java/lang/StringUTF16", name := "compress", desc := "([CII)[B" } : Jvm.MethodName) jdk_52_method_16_code (6 : Nat) (Option.some (Jvm.ClassFile.FieldType.array Jvm.ClassFile.FieldType.byte))).before args0 about1 = true := code_word (m := ⟨8, 8⟩) (meth := k8m8) (c := k8c8) (by decide +kernel) rfl rfl rfl (by decide +kernel)
set_option maxRecDepth 65536 in
theorem w_c6 : (Jvm.Cond.code ({ cls := "java/lang/StringUTF16", name := "compress", desc := "([CI[BII)I" } : Jvm.MethodName) jdk_52_method_21_code (7 : Nat) (Option.some Jvm.ClassFile.FieldType.int)).before args0 about1 = true := code_word (m := ⟨8, 9⟩) (meth := k8m9) (c := k8c9) (by decide +kernel) rfl rfl rfl (by decide +kernel)
set_option maxRecDepth 65536 in
theorem w_c7 : (Jvm.Cond.code ({ cls := "java/lang/StringUTF16", name := "coderFromArrayLen", desc := "([BI)B" } : Jvm.MethodName) jdk_52_method_15_code (2 : Nat) (Option.some Jvm.ClassFile.FieldType.byte)).before args0 about1 = true := code_word (m := ⟨8, 7⟩) (meth := k8m7) (c := k8c7) (by decide +kernel) rfl rfl rfl (by decide +kernel)
set_option maxRecDepth 65536 in
theorem w_c8 : (Jvm.Cond.code ({ cls := "com/example/lushan/lushan/console/PageEscapePinLaw", name := "ref", desc := "(C)Ljava/lang/String;" } : Jvm.MethodName) method_4_code (1 : Nat) (Option.some (Jvm.ClassFile.FieldType.object "java/lang/String"))).before args0 about1 = true := code_word (m := ⟨1, 3⟩) (meth := k1m3) (c := k1c3) (by decide +kernel) rfl rfl rfl (by decide +kernel)
set_option maxRecDepth 65536 in
theorem w_c9 : (Jvm.Cond.code ({ cls := "com/example/lushan/lushan/console/Page", name := "escape", desc := "(Ljava/lang/String;)Ljava/lang/String;" } : Jvm.MethodName) prog_8_method_3_code (4 : Nat) (Option.some (Jvm.ClassFile.FieldType.object "java/lang/String"))).before args0 about1 = true := code_word (m := ⟨10, 0⟩) (meth := k10m0) (c := k10c0) (by decide +kernel) rfl rfl rfl (by decide +kernel)
set_option maxRecDepth 65536 in
theorem w_c10 : (Jvm.Cond.code ({ cls := "java/lang/String", name := "length", desc := "()I" } : Jvm.MethodName) jdk_42_method_54_code (1 : Nat) (Option.some Jvm.ClassFile.FieldType.int)).before args0 about1 = true := code_word (m := ⟨7, 3⟩) (meth := k7m3) (c := k7c3) (by decide +kernel) rfl rfl rfl (by decide +kernel)
set_option maxRecDepth 65536 in
theorem w_c11 : (Jvm.Cond.code ({ cls := "java/lang/String", name := "coder", desc := "()B" } : Jvm.MethodName) jdk_42_method_152_code (1 : Nat) (Option.some Jvm.ClassFile.FieldType.byte)).before args0 about1 = true := code_word (m := ⟨7, 10⟩) (meth := k7m10) (c := k7c10) (by decide +kernel) rfl rfl rfl (by decide +kernel)
set_option maxRecDepth 65536 in
theorem w_c12 : (Jvm.Cond.code ({ cls := "java/lang/StringBuilder", name := "<init>", desc := "(I)V" } : Jvm.MethodName) jdk_67_method_2_code (2 : Nat) (Option.none : Option Jvm.ClassFile.FieldType)).before args0 about1 = true := code_word (m := ⟨13, 1⟩) (meth := k13m1) (c := k13c1) (by decide +kernel) rfl rfl rfl (by decide +kernel)
set_option maxRecDepth 65536 in
theorem w_c13 : (Jvm.Cond.code ({ cls := "java/lang/AbstractStringBuilder", name := "<init>", desc := "(I)V" } : Jvm.MethodName) jdk_68_method_2_code (2 : Nat) (Option.none : Option Jvm.ClassFile.FieldType)).before args0 about1 = true := code_word (m := ⟨12, 1⟩) (meth := k12m1) (c := k12c1) (by decide +kernel) rfl rfl rfl (by decide +kernel)
set_option maxRecDepth 65536 in
theorem w_c14 : (Jvm.Cond.code ({ cls := "java/lang/String", name := "charAt", desc := "(I)C" } : Jvm.MethodName) jdk_42_method_56_code (2 : Nat) (Option.some Jvm.ClassFile.FieldType.char)).before args0 about1 = true := code_word (m := ⟨7, 4⟩) (meth := k7m4) (c := k7c4) (by decide +kernel) rfl rfl rfl (by decide +kernel)
set_option maxRecDepth 65536 in
theorem w_c15 : (Jvm.Cond.code ({ cls := "java/lang/String", name := "isLatin1", desc := "()Z" } : Jvm.MethodName) jdk_42_method_154_code (1 : Nat) (Option.some Jvm.ClassFile.FieldType.boolean)).before args0 about1 = true := code_word (m := ⟨7, 11⟩) (meth := k7m11) (c := k7c11) (by decide +kernel) rfl rfl rfl (by decide +kernel)
set_option maxRecDepth 65536 in
theorem w_c16 : (Jvm.Cond.code ({ cls := "java/lang/StringLatin1", name := "charAt", desc := "([BI)C" } : Jvm.MethodName) jdk_43_method_2_code (2 : Nat) (Option.some Jvm.ClassFile.FieldType.char)).before args0 about1 = true := code_word (m := ⟨14, 1⟩) (meth := k14m1) (c := k14c1) (by decide +kernel) rfl rfl rfl (by decide +kernel)
set_option maxRecDepth 65536 in
theorem w_c17 : (Jvm.Cond.code ({ cls := "java/lang/String", name := "checkIndex", desc := "(II)V" } : Jvm.MethodName) jdk_42_method_155_code (2 : Nat) (Option.none : Option Jvm.ClassFile.FieldType)).before args0 about1 = true := code_word (m := ⟨7, 12⟩) (meth := k7m12) (c := k7c12) (by decide +kernel) rfl rfl rfl (by decide +kernel)
set_option maxRecDepth 65536 in
theorem w_c18 : (Jvm.Cond.code ({ cls := "jdk/internal/util/Preconditions", name := "checkIndex", desc := "(IILjava/util/function/BiFunction;)I" } : Jvm.MethodName) jdk_41_method_11_code (3 : Nat) (Option.some Jvm.ClassFile.FieldType.int)).before args0 about1 = true := code_word (m := ⟨15, 1⟩) (meth := k15m1) (c := k15c1) (by decide +kernel) rfl rfl rfl (by decide +kernel)
set_option maxRecDepth 65536 in
theorem w_c19 : (Jvm.Cond.code ({ cls := "java/lang/StringBuilder", name := "append", desc := "(Ljava/lang/String;)Ljava/lang/StringBuilder;" } : Jvm.MethodName) jdk_67_method_7_code (2 : Nat) (Option.some (Jvm.ClassFile.FieldType.object "java/lang/StringBuilder"))).before args0 about1 = true := code_word (m := ⟨13, 2⟩) (meth := k13m2) (c := k13c2) (by decide +kernel) rfl rfl rfl (by decide +kernel)
set_option maxRecDepth 65536 in
theorem w_c20 : (Jvm.Cond.code ({ cls := "java/lang/AbstractStringBuilder", name := "append", desc := "(Ljava/lang/String;)Ljava/lang/AbstractStringBuilder;" } : Jvm.MethodName) jdk_68_method_22_code (3 : Nat) (Option.some (Jvm.ClassFile.FieldType.object "java/lang/AbstractStringBuilder"))).before args0 about1 = true := code_word (m := ⟨12, 6⟩) (meth := k12m6) (c := k12c6) (by decide +kernel) rfl rfl rfl (by decide +kernel)
set_option maxRecDepth 65536 in
theorem w_c21 : (Jvm.Cond.code ({ cls := "java/lang/AbstractStringBuilder", name := "ensureCapacityInternal", desc := "(I)V" } : Jvm.MethodName) jdk_68_method_9_code (3 : Nat) (Option.none : Option Jvm.ClassFile.FieldType)).before args0 about1 = true := code_word (m := ⟨12, 3⟩) (meth := k12m3) (c := k12c3) (by decide +kernel) rfl rfl rfl (by decide +kernel)
set_option maxRecDepth 65536 in
theorem w_c22 : (Jvm.Cond.code ({ cls := "java/lang/AbstractStringBuilder", name := "newCapacity", desc := "(I)I" } : Jvm.MethodName) jdk_68_method_10_code (6 : Nat) (Option.some Jvm.ClassFile.FieldType.int)).before args0 about1 = true := code_word (m := ⟨12, 4⟩) (meth := k12m4) (c := k12c4) (by decide +kernel) rfl rfl rfl (by decide +kernel)
set_option maxRecDepth 65536 in
theorem w_c23 : (Jvm.Cond.code ({ cls := "jdk/internal/util/ArraysSupport", name := "newLength", desc := "(III)I" } : Jvm.MethodName) jdk_48_method_27_code (4 : Nat) (Option.some Jvm.ClassFile.FieldType.int)).before args0 about1 = true := code_word (m := ⟨16, 1⟩) (meth := k16m1) (c := k16c1) (by decide +kernel) rfl rfl rfl (by decide +kernel)
set_option maxRecDepth 65536 in
theorem w_c24 : (Jvm.Cond.code ({ cls := "java/lang/Math", name := "max", desc := "(II)I" } : Jvm.MethodName) jdk_29_method_65_code (2 : Nat) (Option.some Jvm.ClassFile.FieldType.int)).before args0 about1 = true := code_word (m := ⟨17, 1⟩) (meth := k17m1) (c := k17c1) (by decide +kernel) rfl rfl rfl (by decide +kernel)
set_option maxRecDepth 65536 in
theorem w_c25 : (Jvm.Cond.code ({ cls := "java/util/Arrays", name := "copyOf", desc := "([BI)[B" } : Jvm.MethodName) jdk_65_method_121_code (3 : Nat) (Option.some (Jvm.ClassFile.FieldType.array Jvm.ClassFile.FieldType.byte))).before args0 about1 = true := code_word (m := ⟨18, 1⟩) (meth := k18m1) (c := k18c1) (by decide +kernel) rfl rfl rfl (by decide +kernel)
set_option maxRecDepth 65536 in
theorem w_c26 : (Jvm.Cond.code ({ cls := "java/lang/Math", name := "min", desc := "(II)I" } : Jvm.MethodName) jdk_29_method_69_code (2 : Nat) (Option.some Jvm.ClassFile.FieldType.int)).before args0 about1 = true := code_word (m := ⟨17, 2⟩) (meth := k17m2) (c := k17c2) (by decide +kernel) rfl rfl rfl (by decide +kernel)
set_option maxRecDepth 65536 in
theorem w_c27 : (Jvm.Cond.code ({ cls := "java/lang/AbstractStringBuilder", name := "putStringAt", desc := "(ILjava/lang/String;)V" } : Jvm.MethodName) jdk_68_method_73_code (3 : Nat) (Option.none : Option Jvm.ClassFile.FieldType)).before args0 about1 = true := code_word (m := ⟨12, 11⟩) (meth := k12m11) (c := k12c11) (by decide +kernel) rfl rfl rfl (by decide +kernel)
set_option maxRecDepth 65536 in
theorem w_c28 : (Jvm.Cond.code ({ cls := "java/lang/AbstractStringBuilder", name := "inflateIfNeededFor", desc := "(Ljava/lang/String;)V" } : Jvm.MethodName) jdk_68_method_71_code (2 : Nat) (Option.none : Option Jvm.ClassFile.FieldType)).before args0 about1 = true := code_word (m := ⟨12, 10⟩) (meth := k12m10) (c := k12c10) (by decide +kernel) rfl rfl rfl (by decide +kernel)
set_option maxRecDepth 65536 in
theorem w_c29 : (Jvm.Cond.code ({ cls := "java/lang/String", name := "getBytes", desc := "([BIB)V" } : Jvm.MethodName) jdk_42_method_147_code (4 : Nat) (Option.none : Option Jvm.ClassFile.FieldType)).before args0 about1 = true := code_word (m := ⟨7, 6⟩) (meth := k7m6) (c := k7c6) (by decide +kernel) rfl rfl rfl (by decide +kernel)
set_option maxRecDepth 65536 in
theorem w_c30 : (Jvm.Cond.code ({ cls := "java/lang/StringBuilder", name := "toString", desc := "()Ljava/lang/String;" } : Jvm.MethodName) jdk_67_method_42_code (1 : Nat) (Option.some (Jvm.ClassFile.FieldType.object "java/lang/String"))).before args0 about1 = true := code_word (m := ⟨13, 4⟩) (meth := k13m4) (c := k13c4) (by decide +kernel) rfl rfl rfl (by decide +kernel)
set_option maxRecDepth 65536 in
theorem w_c31 : (Jvm.Cond.code ({ cls := "java/lang/String", name := "<init>", desc := "(Ljava/lang/StringBuilder;)V" } : Jvm.MethodName) jdk_42_method_53_code (2 : Nat) (Option.none : Option Jvm.ClassFile.FieldType)).before args0 about1 = true := code_word (m := ⟨7, 2⟩) (meth := k7m2) (c := k7c2) (by decide +kernel) rfl rfl rfl (by decide +kernel)
set_option maxRecDepth 65536 in
theorem w_c32 : (Jvm.Cond.code ({ cls := "java/lang/String", name := "<init>", desc := "(Ljava/lang/AbstractStringBuilder;Ljava/lang/Void;)V" } : Jvm.MethodName) jdk_42_method_150_code (5 : Nat) (Option.none : Option Jvm.ClassFile.FieldType)).before args0 about1 = true := code_word (m := ⟨7, 8⟩) (meth := k7m8) (c := k7c8) (by decide +kernel) rfl rfl rfl (by decide +kernel)
set_option maxRecDepth 65536 in
theorem w_c33 : (Jvm.Cond.code ({ cls := "java/lang/AbstractStringBuilder", name := "getValue", desc := "()[B" } : Jvm.MethodName) jdk_68_method_64_code (1 : Nat) (Option.some (Jvm.ClassFile.FieldType.array Jvm.ClassFile.FieldType.byte))).before args0 about1 = true := code_word (m := ⟨12, 8⟩) (meth := k12m8) (c := k12c8) (by decide +kernel) rfl rfl rfl (by decide +kernel)
set_option maxRecDepth 65536 in
theorem w_c34 : (Jvm.Cond.code ({ cls := "java/lang/StringBuilder", name := "length", desc := "()I" } : Jvm.MethodName) jdk_67_method_93_code (1 : Nat) (Option.some Jvm.ClassFile.FieldType.int)).before args0 about1 = true := code_word (m := ⟨13, 5⟩) (meth := k13m5) (c := k13c5) (by decide +kernel) rfl rfl rfl (by decide +kernel)
set_option maxRecDepth 65536 in
theorem w_c35 : (Jvm.Cond.code ({ cls := "java/lang/AbstractStringBuilder", name := "length", desc := "()I" } : Jvm.MethodName) jdk_68_method_6_code (1 : Nat) (Option.some Jvm.ClassFile.FieldType.int)).before args0 about1 = true := code_word (m := ⟨12, 2⟩) (meth := k12m2) (c := k12c2) (by decide +kernel) rfl rfl rfl (by decide +kernel)
set_option maxRecDepth 65536 in
theorem w_c36 : (Jvm.Cond.code ({ cls := "java/lang/AbstractStringBuilder", name := "isLatin1", desc := "()Z" } : Jvm.MethodName) jdk_68_method_68_code (1 : Nat) (Option.some Jvm.ClassFile.FieldType.boolean)).before args0 about1 = true := code_word (m := ⟨12, 9⟩) (meth := k12m9) (c := k12c9) (by decide +kernel) rfl rfl rfl (by decide +kernel)
set_option maxRecDepth 65536 in
theorem w_c37 : (Jvm.Cond.code ({ cls := "java/util/Arrays", name := "copyOfRange", desc := "([BII)[B" } : Jvm.MethodName) jdk_65_method_132_code (3 : Nat) (Option.some (Jvm.ClassFile.FieldType.array Jvm.ClassFile.FieldType.byte))).before args0 about1 = true := code_word (m := ⟨18, 3⟩) (meth := k18m3) (c := k18c3) (by decide +kernel) rfl rfl rfl (by decide +kernel)
set_option maxRecDepth 65536 in
theorem w_c38 : (Jvm.Cond.code ({ cls := "com/example/lushan/lushan/console/PageEscapePinLaw", name := "at", desc := "(Ljava/lang/String;Ljava/lang/String;Ljava/lang/String;Ljava/lang/String;I)Z" } : Jvm.MethodName) method_5_code (5 : Nat) (Option.some Jvm.ClassFile.FieldType.boolean)).before args0 about1 = true := code_word (m := ⟨1, 4⟩) (meth := k1m4) (c := k1c4) (by decide +kernel) rfl rfl rfl (by decide +kernel)
set_option maxRecDepth 65536 in
theorem w_c39 : (Jvm.Cond.code ({ cls := "com/example/lushan/lushan/console/PageEscapePinLaw", name := "expected", desc := "(Ljava/lang/String;Ljava/lang/String;Ljava/lang/String;I)C" } : Jvm.MethodName) method_6_code (5 : Nat) (Option.some Jvm.ClassFile.FieldType.char)).before args0 about1 = true := code_word (m := ⟨1, 5⟩) (meth := k1m5) (c := k1c5) (by decide +kernel) rfl rfl rfl (by decide +kernel)
set_option maxRecDepth 65536 in
theorem w_c40 : (Jvm.Cond.code ({ cls := "java/util/Arrays", name := "copyOfRangeByte", desc := "([BII)[B" } : Jvm.MethodName) jdk_65_method_133_code (5 : Nat) (Option.some (Jvm.ClassFile.FieldType.array Jvm.ClassFile.FieldType.byte))).before args0 about1 = true := code_word (m := ⟨18, 4⟩) (meth := k18m4) (c := k18c4) (by decide +kernel) rfl rfl rfl (by decide +kernel)
set_option maxRecDepth 65536 in
theorem w_c41 : (Jvm.Cond.code ({ cls := "java/util/Arrays", name := "checkLength", desc := "(II)V" } : Jvm.MethodName) jdk_65_method_131_code (2 : Nat) (Option.none : Option Jvm.ClassFile.FieldType)).before args0 about1 = true := code_word (m := ⟨18, 2⟩) (meth := k18m2) (c := k18c2) (by decide +kernel) rfl rfl rfl (by decide +kernel)
set_option maxRecDepth 65536 in
theorem w_c42 : (Jvm.Cond.code ({ cls := "java/lang/String", name := "valueOf", desc := "(C)Ljava/lang/String;" } : Jvm.MethodName) jdk_42_method_139_code (1 : Nat) (Option.some (Jvm.ClassFile.FieldType.object "java/lang/String"))).before args0 about1 = true := code_word (m := ⟨7, 5⟩) (meth := k7m5) (c := k7c5) (by decide +kernel) rfl rfl rfl (by decide +kernel)
set_option maxRecDepth 65536 in
theorem w_c43 : (Jvm.Cond.code ({ cls := "java/lang/StringLatin1", name := "canEncode", desc := "(C)Z" } : Jvm.MethodName) jdk_43_method_3_code (1 : Nat) (Option.some Jvm.ClassFile.FieldType.boolean)).before args0 about1 = true := code_word (m := ⟨14, 2⟩) (meth := k14m2) (c := k14c2) (by decide +kernel) rfl rfl rfl (by decide +kernel)
set_option maxRecDepth 65536 in
theorem w_c44 : (Jvm.Cond.code ({ cls := "java/lang/StringLatin1", name := "toBytes", desc := "(C)[B" } : Jvm.MethodName) jdk_43_method_46_code (1 : Nat) (Option.some (Jvm.ClassFile.FieldType.array Jvm.ClassFile.FieldType.byte))).before args0 about1 = true := code_word (m := ⟨14, 3⟩) (meth := k14m3) (c := k14c3) (by decide +kernel) rfl rfl rfl (by decide +kernel)
set_option maxRecDepth 65536 in
theorem w_c45 : (Jvm.Cond.code ({ cls := "java/lang/String", name := "<init>", desc := "([BB)V" } : Jvm.MethodName) jdk_42_method_151_code (3 : Nat) (Option.none : Option Jvm.ClassFile.FieldType)).before args0 about1 = true := code_word (m := ⟨7, 9⟩) (meth := k7m9) (c := k7c9) (by decide +kernel) rfl rfl rfl (by decide +kernel)
set_option maxRecDepth 65536 in
theorem w_c46 : (Jvm.Cond.code ({ cls := "java/lang/StringBuilder", name := "append", desc := "(C)Ljava/lang/StringBuilder;" } : Jvm.MethodName) jdk_67_method_14_code (2 : Nat) (Option.some (Jvm.ClassFile.FieldType.object "java/lang/StringBuilder"))).before args0 about1 = true := code_word (m := ⟨13, 3⟩) (meth := k13m3) (c := k13c3) (by decide +kernel) rfl rfl rfl (by decide +kernel)
set_option maxRecDepth 65536 in
theorem w_c47 : (Jvm.Cond.code ({ cls := "java/lang/AbstractStringBuilder", name := "append", desc := "(C)Ljava/lang/AbstractStringBuilder;" } : Jvm.MethodName) jdk_68_method_31_code (2 : Nat) (Option.some (Jvm.ClassFile.FieldType.object "java/lang/AbstractStringBuilder"))).before args0 about1 = true := code_word (m := ⟨12, 7⟩) (meth := k12m7) (c := k12c7) (by decide +kernel) rfl rfl rfl (by decide +kernel)
set_option maxRecDepth 65536 in
theorem w_c48 : (Jvm.Cond.code ({ cls := "java/lang/StringUTF16", name := "toBytes", desc := "([CII)[B" } : Jvm.MethodName) jdk_52_method_14_code (5 : Nat) (Option.some (Jvm.ClassFile.FieldType.array Jvm.ClassFile.FieldType.byte))).before args0 about1 = true := code_word (m := ⟨8, 6⟩) (meth := k8m6) (c := k8c6) (by decide +kernel) rfl rfl rfl (by decide +kernel)
set_option maxRecDepth 65536 in
theorem w_c49 : (Jvm.Cond.code ({ cls := "java/lang/StringUTF16", name := "newBytesFor", desc := "(I)[B" } : Jvm.MethodName) jdk_52_method_2_code (1 : Nat) (Option.some (Jvm.ClassFile.FieldType.array Jvm.ClassFile.FieldType.byte))).before args0 about1 = true := code_word (m := ⟨8, 1⟩) (meth := k8m1) (c := k8c1) (by decide +kernel) rfl rfl rfl (by decide +kernel)
set_option maxRecDepth 65536 in
theorem w_c50 : (Jvm.Cond.code ({ cls := "java/lang/StringUTF16", name := "newBytesLength", desc := "(I)I" } : Jvm.MethodName) jdk_52_method_3_code (1 : Nat) (Option.some Jvm.ClassFile.FieldType.int)).before args0 about1 = true := code_word (m := ⟨8, 2⟩) (meth := k8m2) (c := k8c2) (by decide +kernel) rfl rfl rfl (by decide +kernel)
set_option maxRecDepth 65536 in
theorem w_c51 : (Jvm.Cond.code ({ cls := "java/lang/StringUTF16", name := "putChar", desc := "([BII)V" } : Jvm.MethodName) jdk_52_method_4_code (3 : Nat) (Option.none : Option Jvm.ClassFile.FieldType)).before args0 about1 = true := code_word (m := ⟨8, 3⟩) (meth := k8m3) (c := k8c3) (by decide +kernel) rfl rfl rfl (by decide +kernel)
set_option maxRecDepth 65536 in
theorem w_c52 : (Jvm.Cond.code ({ cls := "java/lang/StringUTF16", name := "getChar", desc := "([BI)C" } : Jvm.MethodName) jdk_52_method_5_code (2 : Nat) (Option.some Jvm.ClassFile.FieldType.char)).before args0 about1 = true := code_word (m := ⟨8, 4⟩) (meth := k8m4) (c := k8c4) (by decide +kernel) rfl rfl rfl (by decide +kernel)
set_option maxRecDepth 65536 in
theorem w_c53 : (Jvm.Cond.code ({ cls := "java/lang/StringUTF16", name := "toBytes", desc := "(C)[B" } : Jvm.MethodName) jdk_52_method_24_code (2 : Nat) (Option.some (Jvm.ClassFile.FieldType.array Jvm.ClassFile.FieldType.byte))).before args0 about1 = true := code_word (m := ⟨8, 10⟩) (meth := k8m10) (c := k8c10) (by decide +kernel) rfl rfl rfl (by decide +kernel)
set_option maxRecDepth 65536 in
theorem w_c54 : (Jvm.Cond.code ({ cls := "java/lang/StringUTF16", name := "charAt", desc := "([BI)C" } : Jvm.MethodName) jdk_52_method_83_code (2 : Nat) (Option.some Jvm.ClassFile.FieldType.char)).before args0 about1 = true := code_word (m := ⟨8, 12⟩) (meth := k8m12) (c := k8c12) (by decide +kernel) rfl rfl rfl (by decide +kernel)
set_option maxRecDepth 65536 in
theorem w_c55 : (Jvm.Cond.code ({ cls := "java/lang/StringUTF16", name := "checkIndex", desc := "(I[B)V" } : Jvm.MethodName) jdk_52_method_91_code (2 : Nat) (Option.none : Option Jvm.ClassFile.FieldType)).before args0 about1 = true := code_word (m := ⟨8, 14⟩) (meth := k8m14) (c := k8c14) (by decide +kernel) rfl rfl rfl (by decide +kernel)
set_option maxRecDepth 65536 in
theorem w_c56 : (Jvm.Cond.code ({ cls := "java/lang/StringUTF16", name := "length", desc := "([B)I" } : Jvm.MethodName) jdk_52_method_6_code (1 : Nat) (Option.some Jvm.ClassFile.FieldType.int)).before args0 about1 = true := code_word (m := ⟨8, 5⟩) (meth := k8m5) (c := k8c5) (by decide +kernel) rfl rfl rfl (by decide +kernel)
set_option maxRecDepth 65536 in
theorem w_c57 : (Jvm.Cond.code ({ cls := "java/lang/AbstractStringBuilder", name := "inflate", desc := "()V" } : Jvm.MethodName) jdk_68_method_11_code (2 : Nat) (Option.none : Option Jvm.ClassFile.FieldType)).before args0 about1 = true := code_word (m := ⟨12, 5⟩) (meth := k12m5) (c := k12c5) (by decide +kernel) rfl rfl rfl (by decide +kernel)
set_option maxRecDepth 65536 in
theorem w_c58 : (Jvm.Cond.code ({ cls := "java/lang/StringLatin1", name := "inflate", desc := "([BI[BII)V" } : Jvm.MethodName) jdk_43_method_50_code (5 : Nat) (Option.none : Option Jvm.ClassFile.FieldType)).before args0 about1 = true := code_word (m := ⟨14, 4⟩) (meth := k14m4) (c := k14c4) (by decide +kernel) rfl rfl rfl (by decide +kernel)
set_option maxRecDepth 65536 in
theorem w_c59 : (Jvm.Cond.code ({ cls := "java/lang/StringUTF16", name := "inflate", desc := "([BI[BII)V" } : Jvm.MethodName) jdk_52_method_86_code (6 : Nat) (Option.none : Option Jvm.ClassFile.FieldType)).before args0 about1 = true := code_word (m := ⟨8, 13⟩) (meth := k8m13) (c := k8c13) (by decide +kernel) rfl rfl rfl (by decide +kernel)
set_option maxRecDepth 65536 in
theorem w_c60 : (Jvm.Cond.code ({ cls := "java/lang/StringUTF16", name := "checkBoundsOffCount", desc := "(II[B)V" } : Jvm.MethodName) jdk_52_method_94_code (3 : Nat) (Option.none : Option Jvm.ClassFile.FieldType)).before args0 about1 = true := code_word (m := ⟨8, 15⟩) (meth := k8m15) (c := k8c15) (by decide +kernel) rfl rfl rfl (by decide +kernel)
set_option maxRecDepth 65536 in
theorem w_c61 : (Jvm.Cond.code ({ cls := "java/lang/String", name := "checkBoundsOffCount", desc := "(III)I" } : Jvm.MethodName) jdk_42_method_157_code (3 : Nat) (Option.some Jvm.ClassFile.FieldType.int)).before args0 about1 = true := code_word (m := ⟨7, 13⟩) (meth := k7m13) (c := k7c13) (by decide +kernel) rfl rfl rfl (by decide +kernel)
set_option maxRecDepth 65536 in
theorem w_c62 : (Jvm.Cond.code ({ cls := "jdk/internal/util/Preconditions", name := "checkFromIndexSize", desc := "(IIILjava/util/function/BiFunction;)I" } : Jvm.MethodName) jdk_41_method_13_code (4 : Nat) (Option.some Jvm.ClassFile.FieldType.int)).before args0 about1 = true := code_word (m := ⟨15, 2⟩) (meth := k15m2) (c := k15c2) (by decide +kernel) rfl rfl rfl (by decide +kernel)
set_option maxRecDepth 65536 in
theorem w_c63 : (Jvm.Cond.code ({ cls := "java/lang/StringUTF16", name := "putCharSB", desc := "([BII)V" } : Jvm.MethodName) jdk_52_method_71_code (3 : Nat) (Option.none : Option Jvm.ClassFile.FieldType)).before args0 about1 = true := code_word (m := ⟨8, 11⟩) (meth := k8m11) (c := k8c11) (by decide +kernel) rfl rfl rfl (by decide +kernel)
def codes1 : List Jvm.Cond := [Jvm.Cond.code x code maxLocals ret, Jvm.Cond.code ({ cls := "com/example/lushan/lushan/console/PageEscapePinLaw", name := "draw", desc := "(I)C" } : Jvm.MethodName) method_3_code (2 : Nat) (Option.some Jvm.ClassFile.FieldType.char), Jvm.Cond.code ({ cls := "java/lang/String", name := "<init>", desc := "([C)V" } : Jvm.MethodName) jdk_42_method_3_code (2 : Nat) (Option.none : Option Jvm.ClassFile.FieldType), Jvm.Cond.code ({ cls := "java/lang/String", name := "<init>", desc := "([CIILjava/lang/Void;)V" } : Jvm.MethodName) jdk_42_method_149_code (6 : Nat) (Option.none : Option Jvm.ClassFile.FieldType), Jvm.Cond.code ({ cls := "java/lang/Object", name := "<init>", desc := "()V" } : Jvm.MethodName) object_method_1_code (1 : Nat) (Option.none : Option Jvm.ClassFile.FieldType), Jvm.Cond.code ({ cls := "java/lang/StringUTF16", name := "compress", desc := "([CII)[B" } : Jvm.MethodName) jdk_52_method_16_code (6 : Nat) (Option.some (Jvm.ClassFile.FieldType.array Jvm.ClassFile.FieldType.byte)), Jvm.Cond.code ({ cls := "java/lang/StringUTF16", name := "compress", desc := "([CI[BII)I" } : Jvm.MethodName) jdk_52_method_21_code (7 : Nat) (Option.some Jvm.ClassFile.FieldType.int), Jvm.Cond.code ({ cls := "java/lang/StringUTF16", name := "coderFromArrayLen", desc := "([BI)B" } : Jvm.MethodName) jdk_52_method_15_code (2 : Nat) (Option.some Jvm.ClassFile.FieldType.byte), Jvm.Cond.code ({ cls := "com/example/lushan/lushan/console/PageEscapePinLaw", name := "ref", desc := "(C)Ljava/lang/String;" } : Jvm.MethodName) method_4_code (1 : Nat) (Option.some (Jvm.ClassFile.FieldType.object "java/lang/String")), Jvm.Cond.code ({ cls := "com/example/lushan/lushan/console/Page", name := "escape", desc := "(Ljava/lang/String;)Ljava/lang/String;" } : Jvm.MethodName) prog_8_method_3_code (4 : Nat) (Option.some (Jvm.ClassFile.FieldType.object "java/lang/String")), Jvm.Cond.code ({ cls := "java/lang/String", name := "length", desc := "()I" } : Jvm.MethodName) jdk_42_method_54_code (1 : Nat) (Option.some Jvm.ClassFile.FieldType.int), Jvm.Cond.code ({ cls := "java/lang/String", name := "coder", desc := "()B" } : Jvm.MethodName) jdk_42_method_152_code (1 : Nat) (Option.some Jvm.ClassFile.FieldType.byte), Jvm.Cond.code ({ cls := "java/lang/StringBuilder", name := "<init>", desc := "(I)V" } : Jvm.MethodName) jdk_67_method_2_code (2 : Nat) (Option.none : Option Jvm.ClassFile.FieldType), Jvm.Cond.code ({ cls := "java/lang/AbstractStringBuilder", name := "<init>", desc := "(I)V" } : Jvm.MethodName) jdk_68_method_2_code (2 : Nat) (Option.none : Option Jvm.ClassFile.FieldType), Jvm.Cond.code ({ cls := "java/lang/String", name := "charAt", desc := "(I)C" } : Jvm.MethodName) jdk_42_method_56_code (2 : Nat) (Option.some Jvm.ClassFile.FieldType.char), Jvm.Cond.code ({ cls := "java/lang/String", name := "isLatin1", desc := "()Z" } : Jvm.MethodName) jdk_42_method_154_code (1 : Nat) (Option.some Jvm.ClassFile.FieldType.boolean), Jvm.Cond.code ({ cls := "java/lang/StringLatin1", name := "charAt", desc := "([BI)C" } : Jvm.MethodName) jdk_43_method_2_code (2 : Nat) (Option.some Jvm.ClassFile.FieldType.char), Jvm.Cond.code ({ cls := "java/lang/String", name := "checkIndex", desc := "(II)V" } : Jvm.MethodName) jdk_42_method_155_code (2 : Nat) (Option.none : Option Jvm.ClassFile.FieldType), Jvm.Cond.code ({ cls := "jdk/internal/util/Preconditions", name := "checkIndex", desc := "(IILjava/util/function/BiFunction;)I" } : Jvm.MethodName) jdk_41_method_11_code (3 : Nat) (Option.some Jvm.ClassFile.FieldType.int), Jvm.Cond.code ({ cls := "java/lang/StringBuilder", name := "append", desc := "(Ljava/lang/String;)Ljava/lang/StringBuilder;" } : Jvm.MethodName) jdk_67_method_7_code (2 : Nat) (Option.some (Jvm.ClassFile.FieldType.object "java/lang/StringBuilder")), Jvm.Cond.code ({ cls := "java/lang/AbstractStringBuilder", name := "append", desc := "(Ljava/lang/String;)Ljava/lang/AbstractStringBuilder;" } : Jvm.MethodName) jdk_68_method_22_code (3 : Nat) (Option.some (Jvm.ClassFile.FieldType.object "java/lang/AbstractStringBuilder")), Jvm.Cond.code ({ cls := "java/lang/AbstractStringBuilder", name := "ensureCapacityInternal", desc := "(I)V" } : Jvm.MethodName) jdk_68_method_9_code (3 : Nat) (Option.none : Option Jvm.ClassFile.FieldType), Jvm.Cond.code ({ cls := "java/lang/AbstractStringBuilder", name := "newCapacity", desc := "(I)I" } : Jvm.MethodName) jdk_68_method_10_code (6 : Nat) (Option.some Jvm.ClassFile.FieldType.int), Jvm.Cond.code ({ cls := "jdk/internal/util/ArraysSupport", name := "newLength", desc := "(III)I" } : Jvm.MethodName) jdk_48_method_27_code (4 : Nat) (Option.some Jvm.ClassFile.FieldType.int), Jvm.Cond.code ({ cls := "java/lang/Math", name := "max", desc := "(II)I" } : Jvm.MethodName) jdk_29_method_65_code (2 : Nat) (Option.some Jvm.ClassFile.FieldType.int), Jvm.Cond.code ({ cls := "java/util/Arrays", name := "copyOf", desc := "([BI)[B" } : Jvm.MethodName) jdk_65_method_121_code (3 : Nat) (Option.some (Jvm.ClassFile.FieldType.array Jvm.ClassFile.FieldType.byte)), Jvm.Cond.code ({ cls := "java/lang/Math", name := "min", desc := "(II)I" } : Jvm.MethodName) jdk_29_method_69_code (2 : Nat) (Option.some Jvm.ClassFile.FieldType.int), Jvm.Cond.code ({ cls := "java/lang/AbstractStringBuilder", name := "putStringAt", desc := "(ILjava/lang/String;)V" } : Jvm.MethodName) jdk_68_method_73_code (3 : Nat) (Option.none : Option Jvm.ClassFile.FieldType), Jvm.Cond.code ({ cls := "java/lang/AbstractStringBuilder", name := "inflateIfNeededFor", desc := "(Ljava/lang/String;)V" } : Jvm.MethodName) jdk_68_method_71_code (2 : Nat) (Option.none : Option Jvm.ClassFile.FieldType), Jvm.Cond.code ({ cls := "java/lang/String", name := "getBytes", desc := "([BIB)V" } : Jvm.MethodName) jdk_42_method_147_code (4 : Nat) (Option.none : Option Jvm.ClassFile.FieldType), Jvm.Cond.code ({ cls := "java/lang/StringBuilder", name := "toString", desc := "()Ljava/lang/String;" } : Jvm.MethodName) jdk_67_method_42_code (1 : Nat) (Option.some (Jvm.ClassFile.FieldType.object "java/lang/String")), Jvm.Cond.code ({ cls := "java/lang/String", name := "<init>", desc := "(Ljava/lang/StringBuilder;)V" } : Jvm.MethodName) jdk_42_method_53_code (2 : Nat) (Option.none : Option Jvm.ClassFile.FieldType), Jvm.Cond.code ({ cls := "java/lang/String", name := "<init>", desc := "(Ljava/lang/AbstractStringBuilder;Ljava/lang/Void;)V" } : Jvm.MethodName) jdk_42_method_150_code (5 : Nat) (Option.none : Option Jvm.ClassFile.FieldType), Jvm.Cond.code ({ cls := "java/lang/AbstractStringBuilder", name := "getValue", desc := "()[B" } : Jvm.MethodName) jdk_68_method_64_code (1 : Nat) (Option.some (Jvm.ClassFile.FieldType.array Jvm.ClassFile.FieldType.byte)), Jvm.Cond.code ({ cls := "java/lang/StringBuilder", name := "length", desc := "()I" } : Jvm.MethodName) jdk_67_method_93_code (1 : Nat) (Option.some Jvm.ClassFile.FieldType.int), Jvm.Cond.code ({ cls := "java/lang/AbstractStringBuilder", name := "length", desc := "()I" } : Jvm.MethodName) jdk_68_method_6_code (1 : Nat) (Option.some Jvm.ClassFile.FieldType.int), Jvm.Cond.code ({ cls := "java/lang/AbstractStringBuilder", name := "isLatin1", desc := "()Z" } : Jvm.MethodName) jdk_68_method_68_code (1 : Nat) (Option.some Jvm.ClassFile.FieldType.boolean), Jvm.Cond.code ({ cls := "java/util/Arrays", name := "copyOfRange", desc := "([BII)[B" } : Jvm.MethodName) jdk_65_method_132_code (3 : Nat) (Option.some (Jvm.ClassFile.FieldType.array Jvm.ClassFile.FieldType.byte)), Jvm.Cond.code ({ cls := "com/example/lushan/lushan/console/PageEscapePinLaw", name := "at", desc := "(Ljava/lang/String;Ljava/lang/String;Ljava/lang/String;Ljava/lang/String;I)Z" } : Jvm.MethodName) method_5_code (5 : Nat) (Option.some Jvm.ClassFile.FieldType.boolean), Jvm.Cond.code ({ cls := "com/example/lushan/lushan/console/PageEscapePinLaw", name := "expected", desc := "(Ljava/lang/String;Ljava/lang/String;Ljava/lang/String;I)C" } : Jvm.MethodName) method_6_code (5 : Nat) (Option.some Jvm.ClassFile.FieldType.char), Jvm.Cond.code ({ cls := "java/util/Arrays", name := "copyOfRangeByte", desc := "([BII)[B" } : Jvm.MethodName) jdk_65_method_133_code (5 : Nat) (Option.some (Jvm.ClassFile.FieldType.array Jvm.ClassFile.FieldType.byte)), Jvm.Cond.code ({ cls := "java/util/Arrays", name := "checkLength", desc := "(II)V" } : Jvm.MethodName) jdk_65_method_131_code (2 : Nat) (Option.none : Option Jvm.ClassFile.FieldType), Jvm.Cond.code ({ cls := "java/lang/String", name := "valueOf", desc := "(C)Ljava/lang/String;" } : Jvm.MethodName) jdk_42_method_139_code (1 : Nat) (Option.some (Jvm.ClassFile.FieldType.object "java/lang/String")), Jvm.Cond.code ({ cls := "java/lang/StringLatin1", name := "canEncode", desc := "(C)Z" } : Jvm.MethodName) jdk_43_method_3_code (1 : Nat) (Option.some Jvm.ClassFile.FieldType.boolean), Jvm.Cond.code ({ cls := "java/lang/StringLatin1", name := "toBytes", desc := "(C)[B" } : Jvm.MethodName) jdk_43_method_46_code (1 : Nat) (Option.some (Jvm.ClassFile.FieldType.array Jvm.ClassFile.FieldType.byte)), Jvm.Cond.code ({ cls := "java/lang/String", name := "<init>", desc := "([BB)V" } : Jvm.MethodName) jdk_42_method_151_code (3 : Nat) (Option.none : Option Jvm.ClassFile.FieldType), Jvm.Cond.code ({ cls := "java/lang/StringBuilder", name := "append", desc := "(C)Ljava/lang/StringBuilder;" } : Jvm.MethodName) jdk_67_method_14_code (2 : Nat) (Option.some (Jvm.ClassFile.FieldType.object "java/lang/StringBuilder")), Jvm.Cond.code ({ cls := "java/lang/AbstractStringBuilder", name := "append", desc := "(C)Ljava/lang/AbstractStringBuilder;" } : Jvm.MethodName) jdk_68_method_31_code (2 : Nat) (Option.some (Jvm.ClassFile.FieldType.object "java/lang/AbstractStringBuilder")), Jvm.Cond.code ({ cls := "java/lang/StringUTF16", name := "toBytes", desc := "([CII)[B" } : Jvm.MethodName) jdk_52_method_14_code (5 : Nat) (Option.some (Jvm.ClassFile.FieldType.array Jvm.ClassFile.FieldType.byte)), Jvm.Cond.code ({ cls := "java/lang/StringUTF16", name := "newBytesFor", desc := "(I)[B" } : Jvm.MethodName) jdk_52_method_2_code (1 : Nat) (Option.some (Jvm.ClassFile.FieldType.array Jvm.ClassFile.FieldType.byte)), Jvm.Cond.code ({ cls := "java/lang/StringUTF16", name := "newBytesLength", desc := "(I)I" } : Jvm.MethodName) jdk_52_method_3_code (1 : Nat) (Option.some Jvm.ClassFile.FieldType.int), Jvm.Cond.code ({ cls := "java/lang/StringUTF16", name := "putChar", desc := "([BII)V" } : Jvm.MethodName) jdk_52_method_4_code (3 : Nat) (Option.none : Option Jvm.ClassFile.FieldType), Jvm.Cond.code ({ cls := "java/lang/StringUTF16", name := "getChar", desc := "([BI)C" } : Jvm.MethodName) jdk_52_method_5_code (2 : Nat) (Option.some Jvm.ClassFile.FieldType.char), Jvm.Cond.code ({ cls := "java/lang/StringUTF16", name := "toBytes", desc := "(C)[B" } : Jvm.MethodName) jdk_52_method_24_code (2 : Nat) (Option.some (Jvm.ClassFile.FieldType.array Jvm.ClassFile.FieldType.byte)), Jvm.Cond.code ({ cls := "java/lang/StringUTF16", name := "charAt", desc := "([BI)C" } : Jvm.MethodName) jdk_52_method_83_code (2 : Nat) (Option.some Jvm.ClassFile.FieldType.char), Jvm.Cond.code ({ cls := "java/lang/StringUTF16", name := "checkIndex", desc := "(I[B)V" } : Jvm.MethodName) jdk_52_method_91_code (2 : Nat) (Option.none : Option Jvm.ClassFile.FieldType), Jvm.Cond.code ({ cls := "java/lang/StringUTF16", name := "length", desc := "([B)I" } : Jvm.MethodName) jdk_52_method_6_code (1 : Nat) (Option.some Jvm.ClassFile.FieldType.int), Jvm.Cond.code ({ cls := "java/lang/AbstractStringBuilder", name := "inflate", desc := "()V" } : Jvm.MethodName) jdk_68_method_11_code (2 : Nat) (Option.none : Option Jvm.ClassFile.FieldType), Jvm.Cond.code ({ cls := "java/lang/StringLatin1", name := "inflate", desc := "([BI[BII)V" } : Jvm.MethodName) jdk_43_method_50_code (5 : Nat) (Option.none : Option Jvm.ClassFile.FieldType), Jvm.Cond.code ({ cls := "java/lang/StringUTF16", name := "inflate", desc := "([BI[BII)V" } : Jvm.MethodName) jdk_52_method_86_code (6 : Nat) (Option.none : Option Jvm.ClassFile.FieldType), Jvm.Cond.code ({ cls := "java/lang/StringUTF16", name := "checkBoundsOffCount", desc := "(II[B)V" } : Jvm.MethodName) jdk_52_method_94_code (3 : Nat) (Option.none : Option Jvm.ClassFile.FieldType), Jvm.Cond.code ({ cls := "java/lang/String", name := "checkBoundsOffCount", desc := "(III)I" } : Jvm.MethodName) jdk_42_method_157_code (3 : Nat) (Option.some Jvm.ClassFile.FieldType.int), Jvm.Cond.code ({ cls := "jdk/internal/util/Preconditions", name := "checkFromIndexSize", desc := "(IIILjava/util/function/BiFunction;)I" } : Jvm.MethodName) jdk_41_method_13_code (4 : Nat) (Option.some Jvm.ClassFile.FieldType.int), Jvm.Cond.code ({ cls := "java/lang/StringUTF16", name := "putCharSB", desc := "([BII)V" } : Jvm.MethodName) jdk_52_method_71_code (3 : Nat) (Option.none : Option Jvm.ClassFile.FieldType)]
set_option maxRecDepth 65536 in
theorem codes_eq : words1.filter isCode = codes1 := rfl
theorem w_codes : ∀ c ∈ words1.filter isCode, c.before args0 about1 = true := by
  rw [codes_eq]
  intro c hc
  simp only [codes1, List.mem_cons, List.not_mem_nil, or_false] at hc
  rcases hc with rfl | rfl | rfl | rfl | rfl | rfl | rfl | rfl | rfl | rfl | rfl | rfl | rfl | rfl | rfl | rfl | rfl | rfl | rfl | rfl | rfl | rfl | rfl | rfl | rfl | rfl | rfl | rfl | rfl | rfl | rfl | rfl | rfl | rfl | rfl | rfl | rfl | rfl | rfl | rfl | rfl | rfl | rfl | rfl | rfl | rfl | rfl | rfl | rfl | rfl | rfl | rfl | rfl | rfl | rfl | rfl | rfl | rfl | rfl | rfl | rfl | rfl | rfl | rfl
  · exact w_c0
  · exact w_c1
  · exact w_c2
  · exact w_c3
  · exact w_c4
  · exact w_c5
  · exact w_c6
  · exact w_c7
  · exact w_c8
  · exact w_c9
  · exact w_c10
  · exact w_c11
  · exact w_c12
  · exact w_c13
  · exact w_c14
  · exact w_c15
  · exact w_c16
  · exact w_c17
  · exact w_c18
  · exact w_c19
  · exact w_c20
  · exact w_c21
  · exact w_c22
  · exact w_c23
  · exact w_c24
  · exact w_c25
  · exact w_c26
  · exact w_c27
  · exact w_c28
  · exact w_c29
  · exact w_c30
  · exact w_c31
  · exact w_c32
  · exact w_c33
  · exact w_c34
  · exact w_c35
  · exact w_c36
  · exact w_c37
  · exact w_c38
  · exact w_c39
  · exact w_c40
  · exact w_c41
  · exact w_c42
  · exact w_c43
  · exact w_c44
  · exact w_c45
  · exact w_c46
  · exact w_c47
  · exact w_c48
  · exact w_c49
  · exact w_c50
  · exact w_c51
  · exact w_c52
  · exact w_c53
  · exact w_c54
  · exact w_c55
  · exact w_c56
  · exact w_c57
  · exact w_c58
  · exact w_c59
  · exact w_c60
  · exact w_c61
  · exact w_c62
  · exact w_c63
set_option maxRecDepth 65536 in
theorem w_t1 : (words1.take 24).all (fun c => isCode c || c.before args0 about1) = true := by decide +kernel
set_option maxRecDepth 65536 in
theorem w_t2 : ((words1.drop 24).take 24).all (fun c => isCode c || c.before args0 about1) = true := by decide +kernel
set_option maxRecDepth 65536 in
theorem w_t3 : (((words1.drop 24).drop 24).take 24).all (fun c => isCode c || c.before args0 about1) = true := by decide +kernel
set_option maxRecDepth 65536 in
theorem w_t4 : ((((words1.drop 24).drop 24).drop 24).take 24).all (fun c => isCode c || c.before args0 about1) = true := by decide +kernel
set_option maxRecDepth 65536 in
theorem w_t5 : (((((words1.drop 24).drop 24).drop 24).drop 24).take 24).all (fun c => isCode c || c.before args0 about1) = true := by decide +kernel
set_option maxRecDepth 65536 in
theorem w_t6 : ((((((words1.drop 24).drop 24).drop 24).drop 24).drop 24).take 24).all (fun c => isCode c || c.before args0 about1) = true := by decide +kernel
set_option maxRecDepth 65536 in
theorem w_t7 : (((((((words1.drop 24).drop 24).drop 24).drop 24).drop 24).drop 24).take 24).all (fun c => isCode c || c.before args0 about1) = true := by decide +kernel
set_option maxRecDepth 65536 in
theorem w_t8 : ((((((((words1.drop 24).drop 24).drop 24).drop 24).drop 24).drop 24).drop 24).take 24).all (fun c => isCode c || c.before args0 about1) = true := by decide +kernel
set_option maxRecDepth 65536 in
theorem w_t9 : (((((((((words1.drop 24).drop 24).drop 24).drop 24).drop 24).drop 24).drop 24).drop 24).take 24).all (fun c => isCode c || c.before args0 about1) = true := by decide +kernel
set_option maxRecDepth 65536 in
theorem w_t10 : ((((((((((words1.drop 24).drop 24).drop 24).drop 24).drop 24).drop 24).drop 24).drop 24).drop 24).take 24).all (fun c => isCode c || c.before args0 about1) = true := by decide +kernel
set_option maxRecDepth 65536 in
theorem w_t11 : (((((((((((words1.drop 24).drop 24).drop 24).drop 24).drop 24).drop 24).drop 24).drop 24).drop 24).drop 24).take 24).all (fun c => isCode c || c.before args0 about1) = true := by decide +kernel
set_option maxRecDepth 65536 in
theorem w_t12 : ((((((((((((words1.drop 24).drop 24).drop 24).drop 24).drop 24).drop 24).drop 24).drop 24).drop 24).drop 24).drop 24).take 24).all (fun c => isCode c || c.before args0 about1) = true := by decide +kernel
set_option maxRecDepth 65536 in
theorem w_t13 : ((((((((((((words1.drop 24).drop 24).drop 24).drop 24).drop 24).drop 24).drop 24).drop 24).drop 24).drop 24).drop 24).drop 24).all (fun c => isCode c || c.before args0 about1) = true := by decide +kernel
theorem w_tables : (allAtoms (Jvm.Cond.code x code maxLocals ret :: tables_1)).before args0 about1 = true := by
  rw [allAtoms_all]
  show words1.all (fun c => c.before args0 about1) = true
  refine all_split ?_ w_codes
  rw [← List.take_append_drop 24 words1, List.all_append, w_t1, ← List.take_append_drop 24 (words1.drop 24), List.all_append, w_t2, ← List.take_append_drop 24 ((words1.drop 24).drop 24), List.all_append, w_t3, ← List.take_append_drop 24 (((words1.drop 24).drop 24).drop 24), List.all_append, w_t4, ← List.take_append_drop 24 ((((words1.drop 24).drop 24).drop 24).drop 24), List.all_append, w_t5, ← List.take_append_drop 24 (((((words1.drop 24).drop 24).drop 24).drop 24).drop 24), List.all_append, w_t6, ← List.take_append_drop 24 ((((((words1.drop 24).drop 24).drop 24).drop 24).drop 24).drop 24), List.all_append, w_t7, ← List.take_append_drop 24 (((((((words1.drop 24).drop 24).drop 24).drop 24).drop 24).drop 24).drop 24), List.all_append, w_t8, ← List.take_append_drop 24 ((((((((words1.drop 24).drop 24).drop 24).drop 24).drop 24).drop 24).drop 24).drop 24), List.all_append, w_t9, ← List.take_append_drop 24 (((((((((words1.drop 24).drop 24).drop 24).drop 24).drop 24).drop 24).drop 24).drop 24).drop 24), List.all_append, w_t10, ← List.take_append_drop 24 ((((((((((words1.drop 24).drop 24).drop 24).drop 24).drop 24).drop 24).drop 24).drop 24).drop 24).drop 24), List.all_append, w_t11, ← List.take_append_drop 24 (((((((((((words1.drop 24).drop 24).drop 24).drop 24).drop 24).drop 24).drop 24).drop 24).drop 24).drop 24).drop 24), List.all_append, w_t12, w_t13]
  rfl
set_option maxRecDepth 65536 in
theorem w_rest : rest_1_c.before args0 about1 = true := by decide +kernel
set_option maxRecDepth 65536 in
theorem w_case : (Jvm.Cond.and given_1 narrow_1).before args0 about1 = true := by decide +kernel
set_option maxRecDepth 65536 in
theorem w_consts : constsHeld consts_1 about1 := Jvm.Lit.constsHeldB_iff.mp (by decide +kernel)
theorem w_applies : (headSpec (Jvm.Cond.code x code maxLocals ret :: tables_1) room_1).applies x e0.platform about1 = true :=
  (Spec.applies_iff w_frames).mpr ⟨w_running, w_runnable, w_alone, w_named, w_hears, w_ripe, w_room, w_tables⟩
theorem atStart : AtStart classFile x code maxLocals ret World_1 tables_1 room_1 Calls_1 rest_1 Pre_1 launch0 p0 e0 about1 theMethod args0 below0 :=
  ⟨lists_1, trivial, launch0.admits_env _ _ _, launch0.least_env, fairChoices_fair.cas, fairChoices_fair.clock, w_frames, w_args, w_heap, w_applies, ⟨w_consts, trivial⟩, w_rest, w_case⟩
end start1
theorem witness_1 : WitnessClaimed_1 := ⟨start1.p0, start1.e0, start1.about1, start1.theMethod, start1.args0, start1.below0, start1.atStart⟩
end Jvm.Pilot.@@N@@
