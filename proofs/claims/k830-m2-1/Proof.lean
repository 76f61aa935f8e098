
import JvmDerived
import JvmDerived.Pilot.@@N@@Statement
import JvmDerived.Pilot.@@N@@Code
set_option linter.unusedVariables false
set_option linter.unusedSimpArgs false
set_option maxRecDepth 65536
set_option maxHeartbeats 40000000
namespace Jvm.RoadKit
open Sem ClassFile Op Lib Jvm.Stand Jvm.Free Jvm.LawKit
section New
variable {p : Program} {l : Launch} {e : Env} {R : Room} {s : State} {m : MethodId} {args : Array Value} {below : List Frame} {meth : Method} {c : Code} {T : State} {locs : List Loc} {cells slots : Nat}
theorem retI (X : Stand p l e R s m args below meth c T locs cells slots) (hx : p.tables.exec = Jvm.exec) {pc : Nat} {Ls : Array Slot} {z : Int32} {rest : List Value} (hret : meth.sig.returnType = some .int) (hd : decode c.code pc = .ok (.ireturn, 1)) {fs : List Frame}
  (hl : ∀ (f : JFrame) (acts : List Action), f.method = m → f.locked = none → f.entered = [] → (doReturn e (T.setTop f) acts (some (.int z))).1 = T.setFrames fs) : Steps p.tables e below (T.setTop (mkF m pc Ls (.int z :: rest))) (T.setFrames fs) := by
 have hm' : T.vm.method? m = some meth := X.method'
 have hn : narrow .int (.int z) = .int z := rfl
 show Steps p.tables e below (T.setTop { method := m, pc := pc, locals := Ls, stack := _ :: rest, locked := none }) _
 jvm_step X.here [X.here.top, hx, hd, hm', hret, hn]
 first | (intro acts; rw [hl _ acts rfl rfl rfl]) | rw [hl _ _ rfl rfl rfl]
 exact Steps.refl _
/-- what is left of a walk: from S the run comes to its end, and Q is said of that -/
def OwnGo (p : Program) (e : Env) (below : List Frame) (s : State) (Q : Option Value → Heap → List Loc → Prop) (k n : Nat) (S : State) : Prop :=
 ∃ s₂ o, Steps p.tables e below S s₂ ∧ s₂.status = .running ∧ Ended s₂ below o ∧ ∃ v L, o = .returned v ∧ Q v s₂.heap L ∧ FrameEnd s o s₂ L k n
theorem gs {Q : Option Value → Heap → List Loc → Prop} {k n : Nat} {S S' : State} (f : ∀ t, Steps p.tables e below S' t → Steps p.tables e below S t) (h : OwnGo p e below s Q k n S') : OwnGo p e below s Q k n S := by
 obtain ⟨s₂, o, h1, r⟩ := h; exact ⟨s₂, o, f _ h1, r⟩
theorem gout {Q : Option Value → Heap → List Loc → Prop} {k n : Nat} {S : State} (X : Stand p l e R s m args below meth c T locs cells slots) (hlk : meth.locks = false) {v : Option Value} (hv : meth.sig.returnType = none → v = none) (hk : cells ≤ k) (hn : slots ≤ n) (hq : Q v T.heap locs)
  (st : ∀ fs, (∀ (f : JFrame) (acts : List Action), f.method = m → f.locked = none → f.entered = [] → (doReturn e (T.setTop f) acts v).1 = T.setFrames fs) → Steps p.tables e below S (T.setFrames fs)) : OwnGo p e below s Q k n S := by
 obtain ⟨fs, hr, hrun, hended, hW, hsame⟩ := X.leave (v := v) hv hlk
 exact ⟨_, _, st fs hr, hrun, hended, v, _, rfl, hq, ⟨v, rfl⟩, hW, hsame.mono hk hn⟩
/-- .. where String constants may be loaded on the way -/
def OwnGoW (p : Program) (e : Env) (below : List Frame) (s : State) (Z : State) (EL : List (String × Nat)) (Q : Option Value → Heap → List Loc → Prop) (k n : Nat) (S : State) : Prop :=
 ∃ s₂ o, Steps p.tables e below S s₂ ∧ s₂.status = .running ∧ Ended s₂ below o ∧ ∃ v L, o = .returned v ∧ Q v s₂.heap L ∧ CHr Z EL s.vm s.heap s₂.vm s₂.heap ∧ ReturnedEndW s o s₂ L k n
theorem gsW {Z : State} {EL : List (String × Nat)} {Q : Option Value → Heap → List Loc → Prop} {k n : Nat} {S S' : State} (f : ∀ t, Steps p.tables e below S' t → Steps p.tables e below S t) (h : OwnGoW p e below s Z EL Q k n S') : OwnGoW p e below s Z EL Q k n S := by
 obtain ⟨s₂, o, h1, r⟩ := h; exact ⟨s₂, o, f _ h1, r⟩
theorem goutW {Z : State} {a0 : Array Value} {EL : List (String × Nat)} {Q : Option Value → Heap → List Loc → Prop} {k n k0 : Nat} {S : State} {vm1 : Vm} {h0 h : Heap} (X : Stand p l e R (s.setVm vm1) m args below meth c T locs cells slots) (hS : s.Since vm1 k0) (hkk : k0 ≤ h.size) (hZ : Z.Warmed39 (s.setVm vm1).vm) (hEL : EW Z a0 EL) (hh : s.heap = h0) (eT : T.heap = h) (hR : CHr Z EL s.vm h0 vm1 h)
  (hlk : meth.locks = false) {v : Option Value} (hv : meth.sig.returnType = none → v = none) (hk : cells ≤ k) (hn : slots ≤ n) (hq : Q v h locs)
  (st : ∀ fs, (∀ (f : JFrame) (acts : List Action), f.method = m → f.locked = none → f.entered = [] → (doReturn e (T.setTop f) acts v).1 = T.setFrames fs) → Steps p.tables e below S (T.setFrames fs)) : OwnGoW p e below s Z EL Q k n S := by
 subst eT hh
 obtain ⟨fs, hr, hrun, hended, hE⟩ := X.leaveW hS hkk (v := v) hv hlk
 exact ⟨_, _, st fs hr, hrun, hended, v, _, rfl, hq, hR.trans (show CHr Z EL vm1 T.heap T.vm T.heap from CHv.at X hZ hEL hR.1), hE.1, hE.2.1, hE.2.2.1, hE.2.2.2.mono hk hn⟩
end New
def CtrW (l : Launch) (Z : State) (EL : List (String × Nat)) (y : MethodName) (bytes : ByteArray) (maxL : Nat) (ret : Option FieldType) (ws : List Jvm.Cond) (R : Room) (as' : Array Value) (h0 : Heap) (Q : Option Value → Heap → List Loc → Prop) : Prop :=
 MetFree l y (head1 (Jvm.Cond.code y bytes maxL ret :: ws) R) (fun a U => a = as' ∧ Z.Warmed39 U.vm ∧ U.heap = h0 ∧ CHv Z EL U.vm h0) (fun _ _ _ _ _ => True) (fun _ U o U' => ∃ v L, o = .returned v ∧ Q v U'.heap L ∧ CHr Z EL U.vm U.heap U'.vm U'.heap ∧ ReturnedEndW U o U' L R.cells R.slots)
/-- a method's contract -/
def Ctr (l : Launch) (Z : State) (y : MethodName) (bytes : ByteArray) (maxL : Nat) (ret : Option FieldType) (ws : List Jvm.Cond) (R : Room) (as' : Array Value) (h0 : Heap) (Q : Option Value → Heap → List Loc → Prop) : Prop :=
 MetFree l y (head1 (Jvm.Cond.code y bytes maxL ret :: ws) R) (fun a U => a = as' ∧ Z.Warmed39 U.vm ∧ U.heap = h0) (fun _ _ _ _ _ => True) (fun _ U o U' => ∃ v L, o = .returned v ∧ Q v U'.heap L ∧ FrameEnd U o U' L R.cells R.slots)
section Own
variable {p : Program} {l : Launch} {e : Env} {R : Room} {s Z : State} {args a0 : Array Value} {below : List Frame} {y : MethodName} {bytes : ByteArray} {maxL : Nat} {ret : Option FieldType} {rm : Room} {len W : Nat} {as' : Array Value} {h : Heap} {Q : Option Value → Heap → List Loc → Prop} {EL : List (String × Nat)} {vm0 : Vm} {ws : List Jvm.Cond}
theorem Ctr.of (hM : MetFree l y (head1 (Jvm.Cond.code y bytes maxL ret :: ws) R) (fun a U => a = as' ∧ Z.Warmed39 U.vm ∧ U.heap = h) (fun _ _ _ _ _ => True) (fun _ U o U' => ∃ v L, o = .returned v ∧ Q v U'.heap L ∧ FrameEnd U o U' L R.cells R.slots)) : Ctr l Z y bytes maxL ret ws R as' h Q := hM
theorem CtrW.of (hM : MetFree l y (head1 (Jvm.Cond.code y bytes maxL ret :: ws) R) (fun a U => a = as' ∧ Z.Warmed39 U.vm ∧ U.heap = h ∧ CHv Z EL U.vm h) (fun _ _ _ _ _ => True) (fun _ U o U' => ∃ v L, o = .returned v ∧ Q v U'.heap L ∧ CHr Z EL U.vm U.heap U'.vm U'.heap ∧ ReturnedEndW U o U' L R.cells R.slots)) : CtrW l Z EL y bytes maxL ret ws R as' h Q := hM
theorem backC (hM : Ctr l Z y bytes maxL ret [] rm as' h Q) (hZ : Z.Warmed39 s.vm) (wc : (Cond.code y bytes maxL ret).before a0 Z = true) (wz : (Cond.initialized y.cls).before a0 Z = true) (hf : rm.frames + 1 ≤ R.frames) (hl : W + (maxL + 11) + rm.locals ≤ R.locals) :
  Back l R p e below s args y len W (fun A a => a = as' ∧ A.U.heap = h ∧ A.cells + rm.cells ≤ R.cells ∧ A.slots + rm.slots ≤ R.slots)
   (fun A _ v B => ∃ L, Q v B.U.heap L ∧ B.locs = A.locs ++ L ∧ B.cells = A.cells + rm.cells ∧ B.slots = A.slots + rm.slots) := backOf (Q := Q) hM hZ wc wz hf hl
theorem backCW (hM : CtrW l Z EL y bytes maxL ret [] rm as' h Q) (hZ : Z.Warmed39 vm0) (wc : (Cond.code y bytes maxL ret).before a0 Z = true) (wz : (Cond.initialized y.cls).before a0 Z = true) (hf : rm.frames + 1 ≤ R.frames) (hl : W + (maxL + 11) + rm.locals ≤ R.locals) (hEL : EW Z a0 EL) (H : CHv Z EL vm0 h) :
  BackS l R p e below (s.setVm vm0) args y len W (fun A a => a = as' ∧ A.U.heap = h ∧ A.cells + rm.cells ≤ R.cells ∧ A.slots + rm.slots ≤ R.slots)
   (fun A _ v B => ∃ L, Q v B.U.heap L ∧ B.locs = A.locs ++ L ∧ B.cells = A.cells + rm.cells ∧ B.slots = A.slots + rm.slots ∧ CHr Z EL vm0 h B.U.vm B.U.heap) := backOfSH (Q := Q) hM hZ wc wz hf hl hEL H
theorem Ctr.go {h0 : Heap} (hp : plainFor y = true) (H : ∀ (p : Program) (e : Env) (s : State) (m : MethodId) (below : List Frame) (meth : Method) (c : Code) (s₁ : State), BodyLoose p l y (head1 (Jvm.Cond.code y bytes maxL ret :: ws) R) bytes maxL ret e s m as' below meth c s₁ → p.tables.exec = Jvm.exec → c.code = bytes → c.maxLocals = maxL → Z.Warmed39 s.vm → s.vm.findClass y.cls = some m.cls → meth.name = y.name → Stand p l e R s m as' below meth c s₁ [] 0 0 → s₁.heap = h0 → OwnGo p e below s Q R.cells R.slots (s₁.setTop (entryFrame m as' maxL))) : Ctr l Z y bytes maxL ret ws R as' h0 Q := by
 refine Ctr.of (MetFree.of_bodySF hp hisR ?_)
 intro p e s m args below meth c s₁ Bd hml0 hP hK
 obtain ⟨rfl, hZ, hh⟩ := hP
 exact H p e s m below meth c s₁ Bd Bd.exec Bd.bytes hml0 hZ (findClass_of_methodNamed Bd.named) (name_of_methodNamed Bd.named Bd.method).1 (Stand.of_body Bd) (by rw [← hh, Bd.state]; rfl)
end Own
end Jvm.RoadKit
open Int32 renaming ofNat → oI
namespace Jvm.Pilot.@@N@@
open Jvm Jvm.ClassFile Sem Op Lib Jvm.Free Jvm.Stand Jvm.LawKit Jvm.RoadKit Bundle Jvm.Pilot.@@N@@.Jvm.D
section Ow
variable {p : Program} {l : Launch} {e : Env} {R : Room} {s : State} {m : MethodId} {args : Array Value} {below : List Frame} {meth : Method} {c : Code} {T : State} {locs : List Loc} {cells slots : Nat} {code : ByteArray} {pc : Nat} {L : Array Slot} {S : List Value} {tg : State} {ls : List Slot}
theorem own_sl (l : Array Slot) (i : Nat) (v : Value) : storeLocals l i v = (l[i]?).bind fun q => match q with
 | .second => (setAt l (i - 1) .unset).bind fun l' => storeSelf l' i v
 | .val old => if old.category = 2 then (setAt l (i + 1) .unset).bind fun l' => storeSelf l' i v else storeSelf l i v
 | .unset => storeSelf l i v := rfl
theorem own_ss (l : Array Slot) (i : Nat) (v : Value) : storeSelf l i v = (setAt l i (.val v)).bind fun l' => if v.category = 2 then (l'[i + 1]?).bind (fun q => match q with
 | .val old => if old.category = 2 then (setAt l' (i + 2) .unset).bind fun l2 => setAt l2 (i + 1) .second else setAt l' (i + 1) .second
 | _ => setAt l' (i + 1) .second) else some l' := rfl
theorem own_sa (l : Array Slot) (i : Nat) (x : Slot) : setAt l i x = if i < l.size then some (l.setIfInBounds i x) else none := rfl
theorem own_stl {k : Nat} {v : Value} (hv : v.category = 1) (h : ls[k]? = some .unset ∨ ∃ w : Value, ls[k]? = some (.val w) ∧ w.category = 1) : storeLocals ls.toArray k v = some (ls.set k (.val v)).toArray := by
 have hk : k < ls.length := by rcases h with h | ⟨w, h, -⟩ <;> exact (List.getElem?_eq_some_iff.mp h).1
 have hs : storeSelf ls.toArray k v = some (ls.set k (.val v)).toArray := by
  rw [own_ss, own_sa, if_pos (by rw [List.size_toArray]; exact hk)]
  show (if v.category = 2 then _ else _) = _
  rw [if_neg (by rw [hv]; decide), List.setIfInBounds_toArray]
 rw [own_sl, List.getElem?_toArray]
 rcases h with h | ⟨w, h, hw⟩
 ·rw [h]; exact hs
 ·rw [h]; show (if w.category = 2 then _ else _) = _
  rw [if_neg (by rw [hw]; decide)]; exact hs
theorem jj {k : Nat} (h : ls[k]? = some .unset) : ls[k]? = some .unset ∨ ∃ w : Value, ls[k]? = some (.val w) ∧ w.category = 1 := Or.inl h
theorem jF {k : Nat} {w : Value} (h : ls[k]? = some (.val w)) (q : w.category = 1) : ls[k]? = some .unset ∨ ∃ w : Value, ls[k]? = some (.val w) ∧ w.category = 1 := Or.inr ⟨w, h, q⟩
theorem own_rc {v : Value} (h : v.isRef = true) : v.category = 1 := by cases v <;> first | rfl | cases h
theorem jac (X : Stand p l e R s m args below meth c T locs cells slots) (hq : p.tables.exec = Jvm.exec ∧ c.code = code) {own : String} {index : Nat} {v : Int32} (hown : s.vm.findClass own = some m.cls) (w : (Cond.constant own index v).before args s = true) (d : decode code pc = .ok (.ldc index, 2)) (r : Steps p.tables e below (T.setTop (mkF m (pc + 2) L (.int v :: S))) tg) : Steps p.tables e below (T.setTop (mkF m pc L S)) tg := X.ldcInt hq.1 hown w (g := mkF m pc L S) rfl (hb hq.2 d) _ r
theorem o_aconstNull (X : Stand p l e R s m args below meth c T locs cells slots) (hq : p.tables.exec = Jvm.exec ∧ c.code = code) (d : decode code pc = .ok (.aconst_null, 1)) (r : Steps p.tables e below (T.setTop (mkF m (pc + 1) L (.null :: S))) tg)  : Steps p.tables e below (T.setTop (mkF m pc L (S))) tg := XS.aconstNull X.here hq.1 rfl (hb hq.2 d) r
theorem jy (X : Stand p l e R s m args below meth c T locs cells slots) (hq : p.tables.exec = Jvm.exec ∧ c.code = code) {k : Nat} {v : Value} (d : decode code pc = .ok (.aload k, 2)) (hl : ls[k]? = some (.val v)) (hv : v.isRef = true) (r : Steps p.tables e below (T.setTop (mkF m (pc + 2) ls.toArray (v :: S))) tg)  : Steps p.tables e below (T.setTop (mkF m pc ls.toArray (S))) tg := XS.aload X.here hq.1 rfl (hb hq.2 d) (by rw [List.getElem?_toArray]; exact hl) hv r
theorem jb (X : Stand p l e R s m args below meth c T locs cells slots) (hq : p.tables.exec = Jvm.exec ∧ c.code = code) {k : Fin 4} {v : Value} (d : decode code pc = .ok (.aload_n k, 1)) (hl : ls[k.val]? = some (.val v)) (hv : v.isRef = true) (r : Steps p.tables e below (T.setTop (mkF m (pc + 1) ls.toArray (v :: S))) tg)  : Steps p.tables e below (T.setTop (mkF m pc ls.toArray (S))) tg := XS.aloadN X.here hq.1 rfl (hb hq.2 d) (by rw [List.getElem?_toArray]; exact hl) hv r
theorem jQ (X : Stand p l e R s m args below meth c T locs cells slots) (hq : p.tables.exec = Jvm.exec ∧ c.code = code) {k : Nat} {x : Value} (d : decode code pc = .ok (.astore k, 2)) (hv : x.isRef = true) (hl : ls[k]? = some .unset ∨ ∃ w : Value, ls[k]? = some (.val w) ∧ w.category = 1) (r : Steps p.tables e below (T.setTop (mkF m (pc + 2) (ls.set k (.val x)).toArray (S))) tg)  : Steps p.tables e below (T.setTop (mkF m pc ls.toArray (x :: S))) tg := XS.astore X.here hq.1 rfl (hb hq.2 d) rfl hv (own_stl (own_rc hv) hl) r
theorem jR (X : Stand p l e R s m args below meth c T locs cells slots) (hq : p.tables.exec = Jvm.exec ∧ c.code = code) {k : Fin 4} {x : Value} (d : decode code pc = .ok (.astore_n k, 1)) (hv : x.isRef = true) (hl : ls[k.val]? = some .unset ∨ ∃ w : Value, ls[k.val]? = some (.val w) ∧ w.category = 1) (r : Steps p.tables e below (T.setTop (mkF m (pc + 1) (ls.set k.val (.val x)).toArray (S))) tg)  : Steps p.tables e below (T.setTop (mkF m pc ls.toArray (x :: S))) tg := XS.astoreN X.here hq.1 rfl (hb hq.2 d) rfl hv (own_stl (own_rc hv) hl) r
theorem jz (X : Stand p l e R s m args below meth c T locs cells slots) (hq : p.tables.exec = Jvm.exec ∧ c.code = code) {v : Int32} {i : Int} (d : decode code pc = .ok (.bipush i, 2)) (r : Steps p.tables e below (T.setTop (mkF m (pc + 2) L (.int v :: S))) tg) (hv : (Int8.ofInt i).toInt32 = v := by rfl) : Steps p.tables e below (T.setTop (mkF m pc L S)) tg := by subst hv; exact XS.bipush X.here hq.1 rfl (hb hq.2 d) r
theorem jad (X : Stand p l e R s m args below meth c T locs cells slots) (hq : p.tables.exec = Jvm.exec ∧ c.code = code) {x : Value} (d : decode code pc = .ok (.dup, 1)) (hc : x.category = 1) (r : Steps p.tables e below (T.setTop (mkF m (pc + 1) L (x :: x :: S))) tg)  : Steps p.tables e below (T.setTop (mkF m pc L (x :: S))) tg := XS.dup X.here hq.1 rfl (hb hq.2 d) rfl hc r
theorem o_dupX1 (X : Stand p l e R s m args below meth c T locs cells slots) (hq : p.tables.exec = Jvm.exec ∧ c.code = code) {x y : Value} (d : decode code pc = .ok (.dup_x1, 1)) (hc : x.category = 1) (hc2 : y.category = 1) (r : Steps p.tables e below (T.setTop (mkF m (pc + 1) L (x :: y :: x :: S))) tg)  : Steps p.tables e below (T.setTop (mkF m pc L (x :: y :: S))) tg := XS.dupX1 X.here hq.1 rfl (hb hq.2 d) rfl hc hc2 r
theorem jp (X : Stand p l e R s m args below meth c T locs cells slots) (hq : p.tables.exec = Jvm.exec ∧ c.code = code) {o : Int} {pc' : Nat} (d : decode code pc = .ok (.goto o, 3)) (r : Steps p.tables e below (T.setTop (mkF m (pc') L (S))) tg) (ho : decide (0 ≤ (pc : Int) + o) = true := by rfl) (hp : ((pc : Int) + o).toNat = pc' := by rfl) : Steps p.tables e below (T.setTop (mkF m pc L (S))) tg := XS.goto X.here hq.1 rfl rfl (hb hq.2 d) (of_decide_eq_true ho) hp r
theorem o_i2b (X : Stand p l e R s m args below meth c T locs cells slots) (hq : p.tables.exec = Jvm.exec ∧ c.code = code) {v : Int32} (d : decode code pc = .ok (.i2b, 1)) (r : Steps p.tables e below (T.setTop (mkF m (pc + 1) L (.int (v.toInt8.toInt32) :: S))) tg)  : Steps p.tables e below (T.setTop (mkF m pc L (.int v :: S))) tg := XS.i2b X.here hq.1 rfl (hb hq.2 d) rfl r
theorem o_i2c (X : Stand p l e R s m args below meth c T locs cells slots) (hq : p.tables.exec = Jvm.exec ∧ c.code = code) {v : Int32} (d : decode code pc = .ok (.i2c, 1)) (r : Steps p.tables e below (T.setTop (mkF m (pc + 1) L (.int (v.toUInt32.toUInt16.toUInt32.toInt32) :: S))) tg)  : Steps p.tables e below (T.setTop (mkF m pc L (.int v :: S))) tg := XS.i2c X.here hq.1 rfl (hb hq.2 d) rfl r
theorem jt (X : Stand p l e R s m args below meth c T locs cells slots) (hq : p.tables.exec = Jvm.exec ∧ c.code = code) {x y : Int32} (d : decode code pc = .ok (.iadd, 1)) (r : Steps p.tables e below (T.setTop (mkF m (pc + 1) L (.int (x + y) :: S))) tg)  : Steps p.tables e below (T.setTop (mkF m pc L (.int y :: .int x :: S))) tg := XS.iadd X.here hq.1 rfl (hb hq.2 d) rfl r
theorem jab (X : Stand p l e R s m args below meth c T locs cells slots) (hq : p.tables.exec = Jvm.exec ∧ c.code = code) {x y : Int32} (d : decode code pc = .ok (.iand, 1)) (r : Steps p.tables e below (T.setTop (mkF m (pc + 1) L (.int (x &&& y) :: S))) tg)  : Steps p.tables e below (T.setTop (mkF m pc L (.int y :: .int x :: S))) tg := XS.iand X.here hq.1 rfl (hb hq.2 d) rfl r
theorem jm (X : Stand p l e R s m args below meth c T locs cells slots) (hq : p.tables.exec = Jvm.exec ∧ c.code = code) {cd : ClassFile.Cond} {o : Int} {x y : Int32} (d : decode code pc = .ok (.if_icmp cd o, 3)) (hc : if_icmp.holds cd x y = false) (r : Steps p.tables e below (T.setTop (mkF m (pc + 3) L (S))) tg)  : Steps p.tables e below (T.setTop (mkF m pc L (.int y :: .int x :: S))) tg := XS.icmpNo X.here hq.1 rfl (hb hq.2 d) rfl hc r
theorem jh (X : Stand p l e R s m args below meth c T locs cells slots) (hq : p.tables.exec = Jvm.exec ∧ c.code = code) {cd : ClassFile.Cond} {x y : Int32} {o : Int} {pc' : Nat} (d : decode code pc = .ok (.if_icmp cd o, 3)) (hc : if_icmp.holds cd x y = true) (r : Steps p.tables e below (T.setTop (mkF m (pc') L (S))) tg) (ho : decide (0 ≤ (pc : Int) + o) = true := by rfl) (hp : ((pc : Int) + o).toNat = pc' := by rfl) : Steps p.tables e below (T.setTop (mkF m pc L (.int y :: .int x :: S))) tg := XS.icmpYes X.here hq.1 rfl rfl (hb hq.2 d) rfl hc (of_decide_eq_true ho) hp r
theorem jf (X : Stand p l e R s m args below meth c T locs cells slots) (hq : p.tables.exec = Jvm.exec ∧ c.code = code) {v : Int32} {i : Int} (d : decode code pc = .ok (.iconst i, 1)) (r : Steps p.tables e below (T.setTop (mkF m (pc + 1) L (.int v :: S))) tg) (hv : Int32.ofInt i = v := by rfl) : Steps p.tables e below (T.setTop (mkF m pc L S)) tg := by subst hv; exact XS.iconst X.here hq.1 rfl (hb hq.2 d) r
theorem o_idiv (X : Stand p l e R s m args below meth c T locs cells slots) (hq : p.tables.exec = Jvm.exec ∧ c.code = code) {x y : Int32} (d : decode code pc = .ok (.idiv, 1)) (hy : y ≠ 0) (r : Steps p.tables e below (T.setTop (mkF m (pc + 1) L (.int (x / y) :: S))) tg)  : Steps p.tables e below (T.setTop (mkF m pc L (.int y :: .int x :: S))) tg := XS.idiv X.here hq.1 rfl (hb hq.2 d) rfl hy r
theorem jG (X : Stand p l e R s m args below meth c T locs cells slots) (hq : p.tables.exec = Jvm.exec ∧ c.code = code) {cd : ClassFile.Cond} {o : Int} {x : Int32} (d : decode code pc = .ok (.ifCond cd o, 3)) (hc : ifCond.holds cd x = false) (r : Steps p.tables e below (T.setTop (mkF m (pc + 3) L (S))) tg)  : Steps p.tables e below (T.setTop (mkF m pc L (.int x :: S))) tg := XS.ifNo X.here hq.1 rfl (hb hq.2 d) rfl hc r
theorem jI (X : Stand p l e R s m args below meth c T locs cells slots) (hq : p.tables.exec = Jvm.exec ∧ c.code = code) {cd : ClassFile.Cond} {x : Int32} {o : Int} {pc' : Nat} (d : decode code pc = .ok (.ifCond cd o, 3)) (hc : ifCond.holds cd x = true) (r : Steps p.tables e below (T.setTop (mkF m (pc') L (S))) tg) (ho : decide (0 ≤ (pc : Int) + o) = true := by rfl) (hp : ((pc : Int) + o).toNat = pc' := by rfl) : Steps p.tables e below (T.setTop (mkF m pc L (.int x :: S))) tg := XS.ifYes X.here hq.1 rfl rfl (hb hq.2 d) rfl hc (of_decide_eq_true ho) hp r
theorem o_ifnonnullYes (X : Stand p l e R s m args below meth c T locs cells slots) (hq : p.tables.exec = Jvm.exec ∧ c.code = code) {b : Addr} {o : Int} {pc' : Nat} (d : decode code pc = .ok (.ifnonnull o, 3)) (r : Steps p.tables e below (T.setTop (mkF m (pc') L (S))) tg) (ho : decide (0 ≤ (pc : Int) + o) = true := by rfl) (hp : ((pc : Int) + o).toNat = pc' := by rfl) : Steps p.tables e below (T.setTop (mkF m pc L (.ref b :: S))) tg := XS.ifnonnullYes X.here hq.1 rfl rfl (hb hq.2 d) rfl (of_decide_eq_true ho) hp r
theorem o_iinc (X : Stand p l e R s m args below meth c T locs cells slots) (hq : p.tables.exec = Jvm.exec ∧ c.code = code) {k : Nat} {cst : Int} {x : Int32} (d : decode code pc = .ok (.iinc k cst, 3)) (hl : ls[k]? = some (.val (.int x))) (r : Steps p.tables e below (T.setTop (mkF m (pc + 3) (ls.set k (.val (.int (x + Int32.ofInt cst)))).toArray (S))) tg)  : Steps p.tables e below (T.setTop (mkF m pc ls.toArray (S))) tg := XS.iinc X.here hq.1 rfl (hb hq.2 d) (by rw [List.getElem?_toArray]; exact hl) (own_stl rfl (Or.inr ⟨_, hl, rfl⟩)) r
theorem ja (X : Stand p l e R s m args below meth c T locs cells slots) (hq : p.tables.exec = Jvm.exec ∧ c.code = code) {k : Nat} {v : Int32} (d : decode code pc = .ok (.iload k, 2)) (hl : ls[k]? = some (.val (.int v))) (r : Steps p.tables e below (T.setTop (mkF m (pc + 2) ls.toArray (.int v :: S))) tg)  : Steps p.tables e below (T.setTop (mkF m pc ls.toArray (S))) tg := XS.iload X.here hq.1 rfl (hb hq.2 d) (by rw [List.getElem?_toArray]; exact hl) r
theorem ji (X : Stand p l e R s m args below meth c T locs cells slots) (hq : p.tables.exec = Jvm.exec ∧ c.code = code) {k : Fin 4} {v : Int32} (d : decode code pc = .ok (.iload_n k, 1)) (hl : ls[k.val]? = some (.val (.int v))) (r : Steps p.tables e below (T.setTop (mkF m (pc + 1) ls.toArray (.int v :: S))) tg)  : Steps p.tables e below (T.setTop (mkF m pc ls.toArray (S))) tg := XS.iloadN X.here hq.1 rfl (hb hq.2 d) (by rw [List.getElem?_toArray]; exact hl) r
theorem o_ishl (X : Stand p l e R s m args below meth c T locs cells slots) (hq : p.tables.exec = Jvm.exec ∧ c.code = code) {x : Int32} {y : Int32} (d : decode code pc = .ok (.ishl, 1)) (r : Steps p.tables e below (T.setTop (mkF m (pc + 1) L (.int (x <<< (y &&& 31)) :: S))) tg)  : Steps p.tables e below (T.setTop (mkF m pc L (.int y :: .int x :: S))) tg := XS.ishl X.here hq.1 rfl (hb hq.2 d) rfl r
theorem o_ishr (X : Stand p l e R s m args below meth c T locs cells slots) (hq : p.tables.exec = Jvm.exec ∧ c.code = code) {x : Int32} {y : Int32} (d : decode code pc = .ok (.ishr, 1)) (r : Steps p.tables e below (T.setTop (mkF m (pc + 1) L (.int (x >>> (y &&& 31)) :: S))) tg)  : Steps p.tables e below (T.setTop (mkF m pc L (.int y :: .int x :: S))) tg := XS.ishr X.here hq.1 rfl (hb hq.2 d) rfl r
theorem je (X : Stand p l e R s m args below meth c T locs cells slots) (hq : p.tables.exec = Jvm.exec ∧ c.code = code) {k : Nat} {x : Int32} (d : decode code pc = .ok (.istore k, 2)) (hl : ls[k]? = some .unset ∨ ∃ w : Value, ls[k]? = some (.val w) ∧ w.category = 1) (r : Steps p.tables e below (T.setTop (mkF m (pc + 2) (ls.set k (.val (.int x))).toArray (S))) tg)  : Steps p.tables e below (T.setTop (mkF m pc ls.toArray (.int x :: S))) tg := XS.istore X.here hq.1 rfl (hb hq.2 d) rfl (own_stl rfl hl) r
theorem jT (X : Stand p l e R s m args below meth c T locs cells slots) (hq : p.tables.exec = Jvm.exec ∧ c.code = code) {k : Fin 4} {x : Int32} (d : decode code pc = .ok (.istore_n k, 1)) (hl : ls[k.val]? = some .unset ∨ ∃ w : Value, ls[k.val]? = some (.val w) ∧ w.category = 1) (r : Steps p.tables e below (T.setTop (mkF m (pc + 1) (ls.set k.val (.val (.int x))).toArray (S))) tg)  : Steps p.tables e below (T.setTop (mkF m pc ls.toArray (.int x :: S))) tg := XS.istoreN X.here hq.1 rfl (hb hq.2 d) rfl (own_stl rfl hl) r
theorem o_isub (X : Stand p l e R s m args below meth c T locs cells slots) (hq : p.tables.exec = Jvm.exec ∧ c.code = code) {x y : Int32} (d : decode code pc = .ok (.isub, 1)) (r : Steps p.tables e below (T.setTop (mkF m (pc + 1) L (.int (x - y) :: S))) tg)  : Steps p.tables e below (T.setTop (mkF m pc L (.int y :: .int x :: S))) tg := XS.isub X.here hq.1 rfl (hb hq.2 d) rfl r
theorem o_iushr (X : Stand p l e R s m args below meth c T locs cells slots) (hq : p.tables.exec = Jvm.exec ∧ c.code = code) {x : Int32} {y : Int32} (d : decode code pc = .ok (.iushr, 1)) (r : Steps p.tables e below (T.setTop (mkF m (pc + 1) L (.int ((x.toUInt32 >>> (y &&& 31).toUInt32).toInt32) :: S))) tg)  : Steps p.tables e below (T.setTop (mkF m pc L (.int y :: .int x :: S))) tg := XS.iushr X.here hq.1 rfl (hb hq.2 d) rfl r
theorem jW (X : Stand p l e R s m args below meth c T locs cells slots) (hq : p.tables.exec = Jvm.exec ∧ c.code = code) {x : Value} (d : decode code pc = .ok (.pop, 1)) (hc : x.category = 1) (r : Steps p.tables e below (T.setTop (mkF m (pc + 1) L (S))) tg)  : Steps p.tables e below (T.setTop (mkF m pc L (x :: S))) tg := XS.pop X.here hq.1 rfl (hb hq.2 d) rfl hc r
theorem o_sipush (X : Stand p l e R s m args below meth c T locs cells slots) (hq : p.tables.exec = Jvm.exec ∧ c.code = code) {v : Int32} {i : Int} (d : decode code pc = .ok (.sipush i, 3)) (r : Steps p.tables e below (T.setTop (mkF m (pc + 3) L (.int v :: S))) tg) (hv : (Int16.ofInt i).toInt32 = v := by rfl) : Steps p.tables e below (T.setTop (mkF m pc L S)) tg := by subst hv; exact XS.sipush X.here hq.1 rfl (hb hq.2 d) r
end Ow
section Oc
variable {p : Program} {l : Launch} {e : Env} {R : Room} {s u Z : State} {m : MethodId} {args a0 : Array Value} {below : List Frame} {meth : Method} {c : Code} {T : State} {locs : List Loc} {cells slots : Nat} {code : ByteArray} {pc : Nat} {L : Array Slot} {S : List Value} {EL : List (String × Nat)} {QQ : Option Value → Heap → List Loc → Prop} {kk nn : Nat} {own : String} {index : Nat} {y : MethodName} {bytes : ByteArray} {maxL : Nat} {ret : Option FieldType} {rm : Room} {as' : Array Value} {h : Heap} {Q' : Option Value → Heap → List Loc → Prop} {vm0 : Vm} {k0 : Nat}
theorem nfs {C : String} (hZ : Z.Warmed39 u.vm) (w : (Cond.selects C y y).before a0 Z = true) : NotFace u y := notFace_of_selects (args := #[]) (mvT hZ w)
theorem cSS (X : Stand p l e R (s.setVm vm0) m args below meth c T locs cells slots) (hx : p.tables.exec = Jvm.exec) (hS : s.Since vm0 k0) (hk : k0 ≤ h.size) (hZ : Z.Warmed39 (s.setVm vm0).vm) (hown : (s.setVm vm0).vm.findClass own = some m.cls) (w1 : (Cond.methodLink own index y).before a0 Z = true) (w2 : (Cond.static y).before a0 Z = true) (wz : (Cond.initialized y.cls).before a0 Z = true) (wc : (Cond.code y bytes maxL ret).before a0 Z = true) (hM : CtrW l Z EL y bytes maxL ret [] rm as' h Q') (hEL : EW Z a0 EL) (H : CHv Z EL vm0 h) (hby : c.code = code) (d : decode code pc = .ok (.invokestatic index, 3)) (eT : T.heap = h) {ps : List FieldType} {r : Option FieldType} (pd : parseMethodDescriptor y.desc = some ⟨ps, r⟩) {argsL rest : List Value} (W : Nat) (hsz : L.size = c.maxLocals) (q1 : as' = argsL.toArray) (q2 : argsL.length = ps.length) (q3 : S = argsL.reverse ++ rest) (q4 : (rest.map fun v => v.category).sum = W) (q5 : (y.cls ≠ "java/lang/invoke/MethodHandle" ∧ y.cls ≠ "java/lang/invoke/VarHandle") ∧ rm.frames + 1 ≤ R.frames ∧ W + (maxL + 11) + rm.locals ≤ R.locals ∧ cells + rm.cells ≤ R.cells) (q6 : slots + rm.slots ≤ R.slots)
  (K : ∀ v T' Lc, Stand p l e R (s.setVm T'.vm) m args below meth c T' (locs ++ Lc) (cells + rm.cells) (slots + rm.slots) → s.Since T'.vm T'.heap.size → Z.Warmed39 (s.setVm T'.vm).vm → (s.setVm T'.vm).vm.findClass own = some m.cls → Q' v T'.heap Lc → CHr Z EL vm0 h T'.vm T'.heap → OwnGoW p e below s Z EL QQ kk nn (T'.setTop (mkF m (pc + 3) L (v.toList ++ rest)))) : OwnGoW p e below s Z EL QQ kk nn (T.setTop (mkF m pc L S)) := by
 obtain ⟨v, _, ⟨T', L', k', n'⟩, -, Xq, hSq, gq, ⟨Lc, hQ, l', y', z', rq⟩, st⟩ := callSS X hx (y := y) hown (mvT hZ w1) (mvT hZ w2) (mvT hZ wz) (mvT hZ wc) q5.1 (backCW (W := W) hM hZ wc wz q5.2.1 q5.2.2.1 hEL H) (g := mkF m pc L S) rfl hsz (argsL := argsL) (rest := rest) (lenOf pd q2) q3 (by show 2 * 0 + _ ≤ _; rw [q4]; omega) (hb hby d) (fun _ _ => ⟨q1.symm, eT, q5.2.2.2, q6⟩)
 dsimp only [Pt.U, Pt.locs, Pt.cells, Pt.slots] at Xq hSq gq rq l' y' z' st hQ
 subst l' y' z'
 obtain ⟨X', hS', hZ', hown'⟩ := rebS hS (Nat.le_trans hk (Nat.le_of_eq (congrArg Array.size eT.symm))) Xq hSq gq hZ hown
 exact gsW (fun _ k => st.trans k) (K _ _ _ X' hS' hZ' hown' hQ rq)
theorem cIS (X : Stand p l e R (s.setVm vm0) m args below meth c T locs cells slots) (hx : p.tables.exec = Jvm.exec) (hS : s.Since vm0 k0) (hk : k0 ≤ h.size) (hZ : Z.Warmed39 (s.setVm vm0).vm) (hown : (s.setVm vm0).vm.findClass own = some m.cls) (hy1 : y.name = "<init>") (w1 : (Cond.methodLink own index y).before a0 Z = true) (w2 : (Cond.instanceMethod y).before a0 Z = true) (wz : (Cond.initialized y.cls).before a0 Z = true) (wc : (Cond.code y bytes maxL none).before a0 Z = true) (hM : CtrW l Z EL y bytes maxL none [] rm as' h Q') (hEL : EW Z a0 EL) (H : CHv Z EL vm0 h) (hby : c.code = code) (d : decode code pc = .ok (.invokespecial index, 3)) (eT : T.heap = h) {ps : List FieldType} {r : Option FieldType} (pd : parseMethodDescriptor y.desc = some ⟨ps, r⟩) {argsL rest : List Value} (W : Nat) (hsz : L.size = c.maxLocals) {a : Addr} (q1 : as' = (.ref a :: argsL).toArray) (q2 : argsL.length = ps.length) (q3 : S = argsL.reverse ++ .ref a :: rest) (q4 : (rest.map fun v => v.category).sum = W) (q5 : (y.cls ≠ "java/lang/invoke/MethodHandle" ∧ y.cls ≠ "java/lang/invoke/VarHandle") ∧ rm.frames + 1 ≤ R.frames ∧ W + (maxL + 11) + rm.locals ≤ R.locals ∧ cells + rm.cells ≤ R.cells) (q6 : slots + rm.slots ≤ R.slots)
  (K : ∀ v T' Lc, Stand p l e R (s.setVm T'.vm) m args below meth c T' (locs ++ Lc) (cells + rm.cells) (slots + rm.slots) → s.Since T'.vm T'.heap.size → Z.Warmed39 (s.setVm T'.vm).vm → (s.setVm T'.vm).vm.findClass own = some m.cls → Q' v T'.heap Lc → CHr Z EL vm0 h T'.vm T'.heap → OwnGoW p e below s Z EL QQ kk nn (T'.setTop (mkF m (pc + 3) L (v.toList ++ rest)))) : OwnGoW p e below s Z EL QQ kk nn (T.setTop (mkF m pc L S)) := by
 obtain ⟨v, _, ⟨T', L', k', n'⟩, -, Xq, hSq, gq, ⟨Lc, hQ, l', y', z', rq⟩, st⟩ := X.specialBackS hx (y := y) hy1 hown (mvT hZ w1) (mvT hZ w2) (mvT hZ wc) q5.1 (backCW (W := W) hM hZ wc wz q5.2.1 q5.2.2.1 hEL H) (g := mkF m pc L S) rfl hsz (Steps.refl _) (a := a) (argsL := argsL) (rest := rest) (lenOf pd q2) q3 (by show 2 * 0 + _ ≤ _; rw [q4]; omega) (hb hby d) (fun _ _ => ⟨q1.symm, eT, q5.2.2.2, q6⟩)
 dsimp only [Pt.U, Pt.locs, Pt.cells, Pt.slots] at Xq hSq gq rq l' y' z' st hQ
 subst l' y' z'
 obtain ⟨X', hS', hZ', hown'⟩ := rebS hS (Nat.le_trans hk (Nat.le_of_eq (congrArg Array.size eT.symm))) Xq hSq gq hZ hown
 exact gsW (fun _ k => st.trans k) (K _ _ _ X' hS' hZ' hown' hQ rq)
theorem cVS (X : Stand p l e R (s.setVm vm0) m args below meth c T locs cells slots) (hx : p.tables.exec = Jvm.exec) (hS : s.Since vm0 k0) (hk : k0 ≤ h.size) (hZ : Z.Warmed39 (s.setVm vm0).vm) (hown : (s.setVm vm0).vm.findClass own = some m.cls) {y' : MethodName} {C : String} (w1 : (Cond.methodLink own index y').before a0 Z = true) (w2 : (Cond.declares y').before a0 Z = true) (hnf : NotFace (s.setVm vm0) y') (ws : (Cond.selects C y' y).before a0 Z = true) (wi : (Cond.instanceMethod y).before a0 Z = true) (wz : (Cond.initialized y.cls).before a0 Z = true) (wc : (Cond.code y bytes maxL ret).before a0 Z = true) (hM : CtrW l Z EL y bytes maxL ret [] rm as' h Q') (hEL : EW Z a0 EL) (H : CHv Z EL vm0 h) (hby : c.code = code) (d : decode code pc = .ok (.invokevirtual index, 3)) (eT : T.heap = h) {ps : List FieldType} {r : Option FieldType} (pd : parseMethodDescriptor y'.desc = some ⟨ps, r⟩) {argsL rest : List Value} (W : Nat) (hsz : L.size = c.maxLocals) {a : Addr} (E : Exa Z h a C) (q1 : as' = (.ref a :: argsL).toArray) (q2 : argsL.length = ps.length) (q3 : S = argsL.reverse ++ .ref a :: rest) (q4 : (rest.map fun v => v.category).sum = W) (q5 : (y'.cls ≠ "java/lang/invoke/MethodHandle" ∧ y'.cls ≠ "java/lang/invoke/VarHandle") ∧ rm.frames + 1 ≤ R.frames ∧ W + (maxL + 11) + rm.locals ≤ R.locals ∧ cells + rm.cells ≤ R.cells) (q6 : slots + rm.slots ≤ R.slots)
  (K : ∀ v T' Lc, Stand p l e R (s.setVm T'.vm) m args below meth c T' (locs ++ Lc) (cells + rm.cells) (slots + rm.slots) → s.Since T'.vm T'.heap.size → Z.Warmed39 (s.setVm T'.vm).vm → (s.setVm T'.vm).vm.findClass own = some m.cls → Q' v T'.heap Lc → CHr Z EL vm0 h T'.vm T'.heap → OwnGoW p e below s Z EL QQ kk nn (T'.setTop (mkF m (pc + 3) L (v.toList ++ rest)))) : OwnGoW p e below s Z EL QQ kk nn (T.setTop (mkF m pc L S)) := by
 obtain ⟨cq, kq, qa, qb, qc⟩ := isOf hZ eT E
 obtain ⟨v, _, ⟨T', L', k', n'⟩, -, Xq, hSq, gq, ⟨Lc, hQ, l', y', z', rq⟩, st⟩ := X.virtualBackS hx (y := y') (z := y) hown (mvT hZ w1) (mvT hZ w2) hnf (mvT hZ ws) (mvT hZ wi) q5.1 (backCW (W := W) hM hZ wc wz q5.2.1 q5.2.2.1 hEL H) qa qc (g := mkF m pc L S) rfl hsz (Steps.refl _) (argsL := argsL) (rest := rest) (lenOf pd q2) q3 (by show 2 * 0 + _ ≤ _; rw [q4]; omega) (hb hby d) (fun _ _ => ⟨q1.symm, eT, q5.2.2.2, q6⟩)
 dsimp only [Pt.U, Pt.locs, Pt.cells, Pt.slots] at Xq hSq gq rq l' y' z' st hQ
 subst l' y' z'
 obtain ⟨X', hS', hZ', hown'⟩ := rebS hS (Nat.le_trans hk (Nat.le_of_eq (congrArg Array.size eT.symm))) Xq hSq gq hZ hown
 exact gsW (fun _ k => st.trans k) (K _ _ _ X' hS' hZ' hown' hQ rq)
theorem cS (X : Stand p l e R u m args below meth c T locs cells slots) (hx : p.tables.exec = Jvm.exec) (hZ : Z.Warmed39 u.vm) (hown : u.vm.findClass own = some m.cls) (w1 : (Cond.methodLink own index y).before a0 Z = true) (w2 : (Cond.static y).before a0 Z = true) (wz : (Cond.initialized y.cls).before a0 Z = true) (wc : (Cond.code y bytes maxL ret).before a0 Z = true) (hM : Ctr l Z y bytes maxL ret [] rm as' h Q') (hby : c.code = code) (d : decode code pc = .ok (.invokestatic index, 3)) (eT : T.heap = h) {ps : List FieldType} {r : Option FieldType} (pd : parseMethodDescriptor y.desc = some ⟨ps, r⟩) {argsL rest : List Value} (W : Nat) (hsz : L.size = c.maxLocals) (q1 : as' = argsL.toArray) (q2 : argsL.length = ps.length) (q3 : S = argsL.reverse ++ rest) (q4 : (rest.map fun v => v.category).sum = W) (q5 : (y.cls ≠ "java/lang/invoke/MethodHandle" ∧ y.cls ≠ "java/lang/invoke/VarHandle") ∧ rm.frames + 1 ≤ R.frames ∧ W + (maxL + 11) + rm.locals ≤ R.locals ∧ cells + rm.cells ≤ R.cells) (q6 : slots + rm.slots ≤ R.slots)
  (K : ∀ v T' Lc, Stand p l e R u m args below meth c T' (locs ++ Lc) (cells + rm.cells) (slots + rm.slots) → Q' v T'.heap Lc → OwnGo p e below s QQ kk nn (T'.setTop (mkF m (pc + 3) L (v.toList ++ rest)))) : OwnGo p e below s QQ kk nn (T.setTop (mkF m pc L S)) := by
 obtain ⟨v, _, ⟨T', L', k', n'⟩, -, X', ⟨Lc, hQ, l', y', z'⟩, st⟩ := Jvm.LawKit.callS X hx (y := y) hown (mvT hZ w1) (mvT hZ w2) (mvT hZ wz) (mvT hZ wc) q5.1 (backC (W := W) hM hZ wc wz q5.2.1 q5.2.2.1) (g := mkF m pc L S) rfl hsz (argsL := argsL) (rest := rest) (lenOf pd q2) q3 (by show 2 * 0 + _ ≤ _; rw [q4]; omega) (hb hby d) (fun _ _ => ⟨q1.symm, eT, q5.2.2.2, q6⟩)
 dsimp only [Pt.U, Pt.locs, Pt.cells, Pt.slots] at X' l' y' z' st hQ
 subst l' y' z'
 exact gs st (K _ _ _ X' hQ)
theorem cI (X : Stand p l e R u m args below meth c T locs cells slots) (hx : p.tables.exec = Jvm.exec) (hZ : Z.Warmed39 u.vm) (hown : u.vm.findClass own = some m.cls) (hy1 : y.name = "<init>") (w1 : (Cond.methodLink own index y).before a0 Z = true) (w2 : (Cond.instanceMethod y).before a0 Z = true) (wz : (Cond.initialized y.cls).before a0 Z = true) (wc : (Cond.code y bytes maxL none).before a0 Z = true) (hM : Ctr l Z y bytes maxL none [] rm as' h Q') (hby : c.code = code) (d : decode code pc = .ok (.invokespecial index, 3)) (eT : T.heap = h) {ps : List FieldType} {r : Option FieldType} (pd : parseMethodDescriptor y.desc = some ⟨ps, r⟩) {argsL rest : List Value} (W : Nat) (hsz : L.size = c.maxLocals) {a : Addr} (q1 : as' = (.ref a :: argsL).toArray) (q2 : argsL.length = ps.length) (q3 : S = argsL.reverse ++ .ref a :: rest) (q4 : (rest.map fun v => v.category).sum = W) (q5 : (y.cls ≠ "java/lang/invoke/MethodHandle" ∧ y.cls ≠ "java/lang/invoke/VarHandle") ∧ rm.frames + 1 ≤ R.frames ∧ W + (maxL + 11) + rm.locals ≤ R.locals ∧ cells + rm.cells ≤ R.cells) (q6 : slots + rm.slots ≤ R.slots)
  (K : ∀ v T' Lc, Stand p l e R u m args below meth c T' (locs ++ Lc) (cells + rm.cells) (slots + rm.slots) → Q' v T'.heap Lc → OwnGo p e below s QQ kk nn (T'.setTop (mkF m (pc + 3) L (v.toList ++ rest)))) : OwnGo p e below s QQ kk nn (T.setTop (mkF m pc L S)) := by
 obtain ⟨v, _, ⟨T', L', k', n'⟩, -, X', ⟨Lc, hQ, l', y', z'⟩, st⟩ := X.specialBack hx (y := y) hy1 hown (mvT hZ w1) (mvT hZ w2) (mvT hZ wc) q5.1 (backC (W := W) hM hZ wc wz q5.2.1 q5.2.2.1) (g := mkF m pc L S) rfl hsz (Steps.refl _) (a := a) (argsL := argsL) (rest := rest) (lenOf pd q2) q3 (by show 2 * 0 + _ ≤ _; rw [q4]; omega) (hb hby d) (fun _ _ => ⟨q1.symm, eT, q5.2.2.2, q6⟩)
 dsimp only [Pt.U, Pt.locs, Pt.cells, Pt.slots] at X' l' y' z' st hQ
 subst l' y' z'
 exact gs (fun _ k => st.trans k) (K _ _ _ X' hQ)
theorem cV (X : Stand p l e R u m args below meth c T locs cells slots) (hx : p.tables.exec = Jvm.exec) (hZ : Z.Warmed39 u.vm) (hown : u.vm.findClass own = some m.cls) {y' : MethodName} {C : String} (w1 : (Cond.methodLink own index y').before a0 Z = true) (w2 : (Cond.declares y').before a0 Z = true) (hnf : NotFace u y') (ws : (Cond.selects C y' y).before a0 Z = true) (wi : (Cond.instanceMethod y).before a0 Z = true) (wz : (Cond.initialized y.cls).before a0 Z = true) (wc : (Cond.code y bytes maxL ret).before a0 Z = true) (hM : Ctr l Z y bytes maxL ret [] rm as' h Q') (hby : c.code = code) (d : decode code pc = .ok (.invokevirtual index, 3)) (eT : T.heap = h) {ps : List FieldType} {r : Option FieldType} (pd : parseMethodDescriptor y'.desc = some ⟨ps, r⟩) {argsL rest : List Value} (W : Nat) (hsz : L.size = c.maxLocals) {a : Addr} (E : Exa Z h a C) (q1 : as' = (.ref a :: argsL).toArray) (q2 : argsL.length = ps.length) (q3 : S = argsL.reverse ++ .ref a :: rest) (q4 : (rest.map fun v => v.category).sum = W) (q5 : (y'.cls ≠ "java/lang/invoke/MethodHandle" ∧ y'.cls ≠ "java/lang/invoke/VarHandle") ∧ rm.frames + 1 ≤ R.frames ∧ W + (maxL + 11) + rm.locals ≤ R.locals ∧ cells + rm.cells ≤ R.cells) (q6 : slots + rm.slots ≤ R.slots)
  (K : ∀ v T' Lc, Stand p l e R u m args below meth c T' (locs ++ Lc) (cells + rm.cells) (slots + rm.slots) → Q' v T'.heap Lc → OwnGo p e below s QQ kk nn (T'.setTop (mkF m (pc + 3) L (v.toList ++ rest)))) : OwnGo p e below s QQ kk nn (T.setTop (mkF m pc L S)) := by
 obtain ⟨cq, kq, qa, qb, qc⟩ := isOf hZ eT E
 obtain ⟨v, _, ⟨T', L', k', n'⟩, -, X', ⟨Lc, hQ, l', y', z'⟩, st⟩ := X.virtualBack hx (y := y') (z := y) hown (mvT hZ w1) (mvT hZ w2) hnf (mvT hZ ws) (mvT hZ wi) q5.1 (backC (W := W) hM hZ wc wz q5.2.1 q5.2.2.1) qa qc (g := mkF m pc L S) rfl hsz (Steps.refl _) (argsL := argsL) (rest := rest) (lenOf pd q2) q3 (by show 2 * 0 + _ ≤ _; rw [q4]; omega) (hb hby d) (fun _ _ => ⟨q1.symm, eT, q5.2.2.2, q6⟩)
 dsimp only [Pt.U, Pt.locs, Pt.cells, Pt.slots] at X' l' y' z' st hQ
 subst l' y' z'
 exact gs (fun _ k => st.trans k) (K _ _ _ X' hQ)
theorem gF (X : Stand p l e R u m args below meth c T locs cells slots) (hx : p.tables.exec = Jvm.exec) (hZ : Z.Warmed39 u.vm) (hown : u.vm.findClass own = some m.cls) {R0 O n d' host : String} (w : (Cond.fieldLink own index R0 n d').before a0 Z = true ∨ (Cond.fieldLinkNest own index R0 n d' host).before a0 Z = true) (via : Via Z R0 O n d') (eT : T.heap = h) {a : Addr} {v : Value} (F : Fld Z h a O n d' v) (hby : c.code = code) (d : decode code pc = .ok (.getfield index, 3)) (K : ∀ T', Stand p l e R u m args below meth c T' locs cells slots → T'.heap = h → OwnGo p e below s QQ kk nn (T'.setTop (mkF m (pc + 3) L (v :: S)))) : OwnGo p e below s QQ kk nn (T.setTop (mkF m pc L (.ref a :: S))) := by
 obtain ⟨T', X', e', st⟩ := getF X hx hZ hown w via eT F (g := mkF m pc L (.ref a :: S)) rfl rfl (hb hby d)
 exact gs st (K _ X' e')
theorem gS (X : Stand p l e R u m args below meth c T locs cells slots) (hx : p.tables.exec = Jvm.exec) (hZ : Z.Warmed39 u.vm) (hown : u.vm.findClass own = some m.cls) {R0 O n d' host : String} (w : (Cond.fieldLink own index R0 n d').before a0 Z = true ∨ (Cond.fieldLinkNest own index R0 n d' host).before a0 Z = true) (via : Via Z R0 O n d') (eT : T.heap = h) {v : Value} (F : Sta Z h O n d' v) (hby : c.code = code) (d : decode code pc = .ok (.getstatic index, 3)) (K : ∀ T', Stand p l e R u m args below meth c T' locs cells slots → T'.heap = h → OwnGo p e below s QQ kk nn (T'.setTop (mkF m (pc + 3) L (v :: S)))) : OwnGo p e below s QQ kk nn (T.setTop (mkF m pc L S)) := by
 obtain ⟨T', X', e', st⟩ := getS2 X hx hZ hown w via eT F (g := mkF m pc L S) rfl (hb hby d)
 exact gs st (K _ X' e')
theorem cP (X : Stand p l e R u m args below meth c T locs cells slots) (hx : p.tables.exec = Jvm.exec) (hZ : Z.Warmed39 u.vm) (hown : u.vm.findClass own = some m.cls) (w1 : (Cond.methodLink own index y).before a0 Z = true) (w2 : (Cond.sameMethod y.cls y.cls y.name y.desc).before a0 Z = true) (w3 : (Cond.instanceMethod y).before a0 Z = true) (w4 : (Cond.superclass own y.cls).before a0 Z = true) (wz : (Cond.initialized y.cls).before a0 Z = true) (wc : (Cond.code y bytes maxL ret).before a0 Z = true) (hM : Ctr l Z y bytes maxL ret [] rm as' h Q') (hby : c.code = code) (d : decode code pc = .ok (.invokespecial index, 3)) (eT : T.heap = h) {ps : List FieldType} {r : Option FieldType} (pd : parseMethodDescriptor y.desc = some ⟨ps, r⟩) {argsL rest : List Value} (W : Nat) (hsz : L.size = c.maxLocals) {a : Addr} {C : String} (E : Exa Z h a C) (q1 : as' = (.ref a :: argsL).toArray) (q2 : argsL.length = ps.length) (q3 : S = argsL.reverse ++ .ref a :: rest) (q4 : (rest.map fun v => v.category).sum = W) (q5 : y.name ≠ "<init>" ∧ rm.frames + 1 ≤ R.frames ∧ W + (maxL + 11) + rm.locals ≤ R.locals ∧ cells + rm.cells ≤ R.cells) (q6 : slots + rm.slots ≤ R.slots)
  (K : ∀ v T' Lc, Stand p l e R u m args below meth c T' (locs ++ Lc) (cells + rm.cells) (slots + rm.slots) → Q' v T'.heap Lc → OwnGo p e below s QQ kk nn (T'.setTop (mkF m (pc + 3) L (v.toList ++ rest)))) : OwnGo p e below s QQ kk nn (T.setTop (mkF m pc L S)) := by
 obtain ⟨v, _, ⟨T', L', k', n'⟩, -, X', ⟨Lc, hQ, l', y', z'⟩, st⟩ := superBack X hx hZ (y := y) hown w1 w2 w3 w4 q5.1 (backC (W := W) hM hZ wc wz q5.2.1 q5.2.2.1) eT (Ins.self E) (g := mkF m pc L S) rfl hsz wc (argsL := argsL) (rest := rest) (lenOf pd q2) q3 (by show 2 * 0 + _ ≤ _; rw [q4]; omega) (hb hby d) (fun _ _ => ⟨q1.symm, eT, q5.2.2.2, q6⟩)
 dsimp only [Pt.U, Pt.locs, Pt.cells, Pt.slots] at X' l' y' z' st hQ
 subst l' y' z'
 exact gs (fun _ k => st.trans k) (K _ _ _ X' hQ)
theorem cSW (X : Stand p l e R u m args below meth c T locs cells slots) (hx : p.tables.exec = Jvm.exec) (hZ : Z.Warmed39 u.vm) (hown : u.vm.findClass own = some m.cls) (w1 : (Cond.methodLink own index y).before a0 Z = true) (w2 : (Cond.static y).before a0 Z = true) (wz : (Cond.initialized y.cls).before a0 Z = true) (wc : (Cond.code y bytes maxL ret).before a0 Z = true) (hM : Ctr l Z y bytes maxL ret [] rm as' h Q') (hby : c.code = code) (d : decode code pc = .ok (.invokestatic index, 3)) (eT : T.heap = h) {ps : List FieldType} {r : Option FieldType} (pd : parseMethodDescriptor y.desc = some ⟨ps, r⟩) {argsL rest : List Value} (W : Nat) (hsz : L.size = c.maxLocals) (q1 : as' = argsL.toArray) (q2 : argsL.length = ps.length) (q3 : S = argsL.reverse ++ rest) (q4 : (rest.map fun v => v.category).sum = W) (q5 : (y.cls ≠ "java/lang/invoke/MethodHandle" ∧ y.cls ≠ "java/lang/invoke/VarHandle") ∧ rm.frames + 1 ≤ R.frames ∧ W + (maxL + 11) + rm.locals ≤ R.locals ∧ cells + rm.cells ≤ R.cells) (q6 : slots + rm.slots ≤ R.slots)
  (K : ∀ v T' Lc, Stand p l e R u m args below meth c T' (locs ++ Lc) (cells + rm.cells) (slots + rm.slots) → Q' v T'.heap Lc → OwnGoW p e below s Z EL QQ kk nn (T'.setTop (mkF m (pc + 3) L (v.toList ++ rest)))) : OwnGoW p e below s Z EL QQ kk nn (T.setTop (mkF m pc L S)) := by
 obtain ⟨v, _, ⟨T', L', k', n'⟩, -, X', ⟨Lc, hQ, l', y', z'⟩, st⟩ := Jvm.LawKit.callS X hx (y := y) hown (mvT hZ w1) (mvT hZ w2) (mvT hZ wz) (mvT hZ wc) q5.1 (backC (W := W) hM hZ wc wz q5.2.1 q5.2.2.1) (g := mkF m pc L S) rfl hsz (argsL := argsL) (rest := rest) (lenOf pd q2) q3 (by show 2 * 0 + _ ≤ _; rw [q4]; omega) (hb hby d) (fun _ _ => ⟨q1.symm, eT, q5.2.2.2, q6⟩)
 dsimp only [Pt.U, Pt.locs, Pt.cells, Pt.slots] at X' l' y' z' st hQ
 subst l' y' z'
 exact gsW st (K _ _ _ X' hQ)
theorem cIW (X : Stand p l e R u m args below meth c T locs cells slots) (hx : p.tables.exec = Jvm.exec) (hZ : Z.Warmed39 u.vm) (hown : u.vm.findClass own = some m.cls) (hy1 : y.name = "<init>") (w1 : (Cond.methodLink own index y).before a0 Z = true) (w2 : (Cond.instanceMethod y).before a0 Z = true) (wz : (Cond.initialized y.cls).before a0 Z = true) (wc : (Cond.code y bytes maxL none).before a0 Z = true) (hM : Ctr l Z y bytes maxL none [] rm as' h Q') (hby : c.code = code) (d : decode code pc = .ok (.invokespecial index, 3)) (eT : T.heap = h) {ps : List FieldType} {r : Option FieldType} (pd : parseMethodDescriptor y.desc = some ⟨ps, r⟩) {argsL rest : List Value} (W : Nat) (hsz : L.size = c.maxLocals) {a : Addr} (q1 : as' = (.ref a :: argsL).toArray) (q2 : argsL.length = ps.length) (q3 : S = argsL.reverse ++ .ref a :: rest) (q4 : (rest.map fun v => v.category).sum = W) (q5 : (y.cls ≠ "java/lang/invoke/MethodHandle" ∧ y.cls ≠ "java/lang/invoke/VarHandle") ∧ rm.frames + 1 ≤ R.frames ∧ W + (maxL + 11) + rm.locals ≤ R.locals ∧ cells + rm.cells ≤ R.cells) (q6 : slots + rm.slots ≤ R.slots)
  (K : ∀ v T' Lc, Stand p l e R u m args below meth c T' (locs ++ Lc) (cells + rm.cells) (slots + rm.slots) → Q' v T'.heap Lc → OwnGoW p e below s Z EL QQ kk nn (T'.setTop (mkF m (pc + 3) L (v.toList ++ rest)))) : OwnGoW p e below s Z EL QQ kk nn (T.setTop (mkF m pc L S)) := by
 obtain ⟨v, _, ⟨T', L', k', n'⟩, -, X', ⟨Lc, hQ, l', y', z'⟩, st⟩ := X.specialBack hx (y := y) hy1 hown (mvT hZ w1) (mvT hZ w2) (mvT hZ wc) q5.1 (backC (W := W) hM hZ wc wz q5.2.1 q5.2.2.1) (g := mkF m pc L S) rfl hsz (Steps.refl _) (a := a) (argsL := argsL) (rest := rest) (lenOf pd q2) q3 (by show 2 * 0 + _ ≤ _; rw [q4]; omega) (hb hby d) (fun _ _ => ⟨q1.symm, eT, q5.2.2.2, q6⟩)
 dsimp only [Pt.U, Pt.locs, Pt.cells, Pt.slots] at X' l' y' z' st hQ
 subst l' y' z'
 exact gsW (fun _ k => st.trans k) (K _ _ _ X' hQ)
theorem cVW (X : Stand p l e R u m args below meth c T locs cells slots) (hx : p.tables.exec = Jvm.exec) (hZ : Z.Warmed39 u.vm) (hown : u.vm.findClass own = some m.cls) {y' : MethodName} {C : String} (w1 : (Cond.methodLink own index y').before a0 Z = true) (w2 : (Cond.declares y').before a0 Z = true) (hnf : NotFace u y') (ws : (Cond.selects C y' y).before a0 Z = true) (wi : (Cond.instanceMethod y).before a0 Z = true) (wz : (Cond.initialized y.cls).before a0 Z = true) (wc : (Cond.code y bytes maxL ret).before a0 Z = true) (hM : Ctr l Z y bytes maxL ret [] rm as' h Q') (hby : c.code = code) (d : decode code pc = .ok (.invokevirtual index, 3)) (eT : T.heap = h) {ps : List FieldType} {r : Option FieldType} (pd : parseMethodDescriptor y'.desc = some ⟨ps, r⟩) {argsL rest : List Value} (W : Nat) (hsz : L.size = c.maxLocals) {a : Addr} (E : Exa Z h a C) (q1 : as' = (.ref a :: argsL).toArray) (q2 : argsL.length = ps.length) (q3 : S = argsL.reverse ++ .ref a :: rest) (q4 : (rest.map fun v => v.category).sum = W) (q5 : (y'.cls ≠ "java/lang/invoke/MethodHandle" ∧ y'.cls ≠ "java/lang/invoke/VarHandle") ∧ rm.frames + 1 ≤ R.frames ∧ W + (maxL + 11) + rm.locals ≤ R.locals ∧ cells + rm.cells ≤ R.cells) (q6 : slots + rm.slots ≤ R.slots)
  (K : ∀ v T' Lc, Stand p l e R u m args below meth c T' (locs ++ Lc) (cells + rm.cells) (slots + rm.slots) → Q' v T'.heap Lc → OwnGoW p e below s Z EL QQ kk nn (T'.setTop (mkF m (pc + 3) L (v.toList ++ rest)))) : OwnGoW p e below s Z EL QQ kk nn (T.setTop (mkF m pc L S)) := by
 obtain ⟨cq, kq, qa, qb, qc⟩ := isOf hZ eT E
 obtain ⟨v, _, ⟨T', L', k', n'⟩, -, X', ⟨Lc, hQ, l', y', z'⟩, st⟩ := X.virtualBack hx (y := y') (z := y) hown (mvT hZ w1) (mvT hZ w2) hnf (mvT hZ ws) (mvT hZ wi) q5.1 (backC (W := W) hM hZ wc wz q5.2.1 q5.2.2.1) qa qc (g := mkF m pc L S) rfl hsz (Steps.refl _) (argsL := argsL) (rest := rest) (lenOf pd q2) q3 (by show 2 * 0 + _ ≤ _; rw [q4]; omega) (hb hby d) (fun _ _ => ⟨q1.symm, eT, q5.2.2.2, q6⟩)
 dsimp only [Pt.U, Pt.locs, Pt.cells, Pt.slots] at X' l' y' z' st hQ
 subst l' y' z'
 exact gsW (fun _ k => st.trans k) (K _ _ _ X' hQ)
theorem gFW (X : Stand p l e R u m args below meth c T locs cells slots) (hx : p.tables.exec = Jvm.exec) (hZ : Z.Warmed39 u.vm) (hown : u.vm.findClass own = some m.cls) {R0 O n d' host : String} (w : (Cond.fieldLink own index R0 n d').before a0 Z = true ∨ (Cond.fieldLinkNest own index R0 n d' host).before a0 Z = true) (via : Via Z R0 O n d') (eT : T.heap = h) {a : Addr} {v : Value} (F : Fld Z h a O n d' v) (hby : c.code = code) (d : decode code pc = .ok (.getfield index, 3)) (K : ∀ T', Stand p l e R u m args below meth c T' locs cells slots → T'.heap = h → OwnGoW p e below s Z EL QQ kk nn (T'.setTop (mkF m (pc + 3) L (v :: S)))) : OwnGoW p e below s Z EL QQ kk nn (T.setTop (mkF m pc L (.ref a :: S))) := by
 obtain ⟨T', X', e', st⟩ := getF X hx hZ hown w via eT F (g := mkF m pc L (.ref a :: S)) rfl rfl (hb hby d)
 exact gsW st (K _ X' e')
end Oc
abbrev my0 : MethodName := ⟨"java/util/ArrayList$Itr", "hasNext", "()Z"⟩
abbrev my1 : MethodName := ⟨"java/util/ArrayList$Itr", "next", "()Ljava/lang/Object;"⟩
abbrev my2 : MethodName := ⟨"java/util/Iterator", "hasNext", "()Z"⟩
abbrev my3 : MethodName := ⟨"java/util/ArrayList", "add", "(Ljava/lang/Object;)Z"⟩
abbrev my4 : MethodName := ⟨"java/util/ArrayList", "iterator", "()Ljava/util/Iterator;"⟩
abbrev my5 : MethodName := ⟨"java/util/Iterator", "next", "()Ljava/lang/Object;"⟩
abbrev my6 : MethodName := ⟨"java/util/List", "add", "(Ljava/lang/Object;)Z"⟩
abbrev my7 : MethodName := ⟨"java/util/ArrayList$Itr", "<init>", "(Ljava/util/ArrayList;)V"⟩
abbrev my8 : MethodName := ⟨"java/util/ArrayList$Itr", "checkForComodification", "()V"⟩
abbrev my9 : MethodName := ⟨"com/example/caddisfly/caddisfly/Syntax", "wrap", "(Ljava/lang/String;Ljava/util/List;)Ljava/lang/String;"⟩
abbrev my10 : MethodName := ⟨"java/util/List", "iterator", "()Ljava/util/Iterator;"⟩
abbrev my11 : MethodName := ⟨"java/lang/Math", "max", "(II)I"⟩
abbrev my12 : MethodName := ⟨"java/lang/Math", "min", "(II)I"⟩
abbrev my13 : MethodName := ⟨"java/util/ArrayList", "add", "(Ljava/lang/Object;[Ljava/lang/Object;I)V"⟩
abbrev my14 : MethodName := ⟨"java/lang/String", "<init>", "([CIILjava/lang/Void;)V"⟩
abbrev my15 : MethodName := ⟨"java/lang/String", "<init>", "([C)V"⟩
abbrev my16 : MethodName := ⟨"java/lang/String", "coder", "()B"⟩
abbrev my17 : MethodName := ⟨"java/lang/AbstractStringBuilder", "ensureCapacityInternal", "(I)V"⟩
abbrev HW (Z : State) (a0 : Array Value) : Prop := ∀ d ∈ tables_1, d.before a0 Z = true
abbrev PS0 (Z : State) (q : Value) : Prop := Sta Z Z.heap "java/lang/String" "COMPACT_STRINGS" "Z" q
abbrev PS1 (Z : State) (q : Value) : Prop := Sta Z Z.heap "java/util/ArrayList" "DEFAULTCAPACITY_EMPTY_ELEMENTDATA" "[Ljava/lang/Object;" q
abbrev PS2 (Z : State) (q : Value) : Prop := Sta Z Z.heap "jdk/internal/util/Preconditions" "SIOOBE_FORMATTER" "Ljava/util/function/BiFunction;" q
theorem jL {a b : Nat} (h : a = b) : a ≤ b := Nat.le_of_eq h
abbrev uu : Slot := .unset
theorem nt {a b c : Nat} (h : a ≤ b) (k : b ≤ c) : a ≤ c := Nat.le_trans h k
theorem nu {a b c : Nat} (h : a < b) (k : b ≤ c) : a < c := Nat.lt_of_lt_of_le h k
theorem nw {a b : Nat} (h : a < b) : a ≠ b := Nat.ne_of_lt h
theorem nb {a b : Nat} (h : Nat.ble a b = true) : a ≤ b := Nat.le_of_ble_eq_true h
theorem jA {meth : Method} {t : FieldType} {v : Option Value} (h : meth.sig.returnType = some t) : meth.sig.returnType = none → v = none := fun q => by rw [h] at q; cases q
theorem ow {Z : State} {a0 : Array Value} (hw : HW Z a0) (i : Nat) {d : Jvm.Cond} (q : tables_1[i]? = some d) : d.before a0 Z = true := hw d (List.mem_of_getElem? q)
def jo : List (String × Nat) := [("com/example/caddisfly/caddisfly/Syntax", 212), ("java/lang/String", 7)]
theorem jJ {Z : State} {a0 : Array Value} (hw : HW Z a0) : EW Z a0 jo := (EW.cons (ow hw 54 rfl) (by decide) (EW.cons (ow hw 18 rfl) (by decide) EW.nil))
theorem own_wS {Z : State} {a0 : Array Value} (hw : HW Z a0) : ∀ a ∈ Bundle.stringAtoms, a.before a0 Z = true := fun d hd => hw d ((by decide +kernel : ∀ d ∈ Bundle.stringAtoms, d ∈ tables_1) d hd)
theorem own_narb (x : Int32) : nar .byte (x.toInt8.toInt32) = x.toInt8.toInt32 := by
 show (x.toInt8.toInt32).toInt8.toInt32 = _
 simp
theorem own_ci (x : Int32) : ¬ (x &&& (255 : Int32)).toUInt32.toUInt16.toUInt32.toInt32 < 0 ∧ ¬ (255 : Int32) < (x &&& (255 : Int32)).toUInt32.toUInt16.toUInt32.toInt32 := by
 have h := c_i2c (x &&& (255 : Int32)); have h2 := c_and x 255 (by decide)
 have e : (255 : Int32).toInt = 255 := by decide
 have z : (0 : Int32).toInt = 0 := by decide
 simp only [Int32.lt_iff_toInt_lt]
 omega


/-- a String at a spells cs (each 0 to 255) -/
def Str (Z : State) (h : Heap) (a : Addr) (cs : List Int32) : Prop := ∃ (t : Addr) (kb : ClassId), Exa Z h a "java/lang/String" ∧ Fld Z h a "java/lang/String" "coder" "B" (.int 0) ∧ Fld Z h a "java/lang/String" "value" "[B" (.ref t) ∧ Arv Z h t kb .byte (oI cs.length) ((cs.map (fun c => c.toInt8.toInt32)).map Value.int) (.int 0)
theorem Str.exa {Z : State} {h : Heap} {a : Addr} {cs : List Int32} (F : Str Z h a cs) : Exa Z h a "java/lang/String" := by obtain ⟨t, kb, E, -⟩ := F; exact E
theorem Str.lt {Z : State} {h : Heap} {a : Addr} {cs : List Int32} (F : Str Z h a cs) : a < h.size := F.exa.lt
theorem Str.ext {Z : State} {h h' : Heap} {a : Addr} {cs : List Int32} (F : Str Z h a cs) (E : Ext h h') : Str Z h' a cs := by obtain ⟨t, kb, x, c, v, k⟩ := F; exact ⟨t, kb, x.ext E, c.ext E, v.ext E, k.ext E⟩
theorem Str.keep0 {Z : State} {h h' : Heap} {a : Addr} {cs : List Int32} (F : Str Z h a cs) (K : Keep h h' []) : Str Z h' a cs := by obtain ⟨t, kb, x, c, v, k⟩ := F; exact ⟨t, kb, x.keep K, c.keep K nin0, v.keep K nin0, k.keep K nin0⟩
theorem Str.keepE {Z : State} {h h' : Heap} {a b : Addr} {C : String} {cs : List Int32} (F : Str Z h a cs) (K : Keep h h' [b]) (E : Exa Z h b C) (hC : C ≠ "java/lang/String") {a0 : Array Value} {n : Nat} (w : (Cond.instantiable C n).before a0 Z = true) : Str Z h' a cs := by
 obtain ⟨t, kb, x, c, v, k⟩ := F
 have n1 : a ≠ b := Ne.symm (Exa.ne E x hC)
 have n2 : t ≠ b := Ne.symm (Exa.neArv E k w)
 exact ⟨t, kb, x.keep K, c.keep K (ninS n1 nin0), v.keep K (ninS n1 nin0), k.keep K (ninS n2 nin0)⟩
theorem Str.wrE {Z : State} {h h' : Heap} {a b : Addr} {C : String} {cs : List Int32} {sl : Nat} {v : Value} (F : Str Z h a cs) (W : Wr h h' b sl v) (E : Exa Z h b C) (hC : C ≠ "java/lang/String") {a0 : Array Value} {n : Nat} (w : (Cond.instantiable C n).before a0 Z = true) : Str Z h' a cs := F.keepE (Keep.of_wr W) E hC w
abbrev jE (cs : List Int32) : List Value := (cs.map (fun c => c.toInt8.toInt32)).map Value.int
theorem own_bvl (cs : List Int32) : (jE cs).length = cs.length := by simp [jE]
theorem own_bva (ds cs : List Int32) : jE (ds ++ cs) = jE ds ++ jE cs := by simp [jE]
theorem jae {k : Nat} (h : k < 2 ^ 31) : (oI k).toNatClampNeg = k := Int32.toNatClampNeg_ofNat_of_lt h
theorem jM {k : Nat} (h : k < 2 ^ 31) : ¬ oI k < 0 := fun q => Int32.ofNat_not_neg h q
theorem jY {a0 : Array Value} {Z : State} {y : MethodName} {bytes : ByteArray} {maxL : Nat} {ret : Option FieldType} (h : (Cond.instanceMethod y).before a0 Z = true) (hc : (Cond.code y bytes maxL ret).before a0 Z = true) : (Cond.declares y).before a0 Z = true := by
 obtain ⟨mk, methM, hnamed, hmethM, hst, -⟩ := Cond.instanceMethod_spec h
 obtain ⟨m', cM, hm', -, -, -, -, -, -, hsig⟩ := Cond.code_spec hnamed hc
 cases hmethM.symm.trans hm'
 simp [Cond.before, Cond.holds, Cond.value, hnamed, hmethM, hst, hsig]
theorem own_same {a0 : Array Value} {Z : State} {C : String} {y0 y : MethodName} (hs : (Cond.selects C y0 y0).before a0 Z = true) (hi : (Cond.instanceMethod y).before a0 Z = true) (hy : y.cls ≠ "java/lang/invoke/MethodHandle" ∧ y.cls ≠ "java/lang/invoke/VarHandle") (e : y0.cls = y.cls) : (Cond.sameMethod y.cls y.cls y.name y.desc).before a0 Z = true := by
 obtain ⟨mk, methM, hnamed, -, -, -⟩ := Cond.instanceMethod_spec hi
 obtain ⟨c2, r2, m2, -, -, q3, -, kP, hkP, hkPi⟩ := Cond.selects_spec hs
 have f1 := findClass_of_methodNamed hnamed
 have f2 := findClass_of_methodNamed q3
 rw [e, f1] at f2
 have e2 : mk.cls = m2.cls := Option.some.inj f2
 have hf := State.methodFound?_of_named hnamed hy
 have hn' : Z.methodNamed? ⟨y.cls, y.name, y.desc⟩ = some mk := hnamed
 rw [← e2] at hkP
 simp [Cond.before, Cond.holds, Cond.value, f1, hf, hn', hkP, hkPi]
theorem own_nf {a0 : Array Value} {s : State} {C : String} {y0 y : MethodName} (hs : (Cond.selects C y0 y0).before a0 s = true) (e : y0.cls = y.cls) : NotFace s y := fun r0 h0 => by
 obtain ⟨c2, r2, m2, -, -, q3, -, kP, hkP, hkPi⟩ := Cond.selects_spec hs
 have f1 := findClass_of_methodNamed h0
 have f2 := findClass_of_methodNamed q3
 rw [e, f1] at f2
 have e2 : r0.cls = m2.cls := Option.some.inj f2
 rw [← e2] at hkP
 exact ⟨kP, hkP, hkPi⟩
theorem own_cp {p : Program} {l : Launch} {e : Env} {R : Room} {s : State} {m : MethodId} {args : Array Value} {below : List Frame} {meth : Method} {c : Code} {T : State} {locs : List Loc} {cells slots : Nat} {Z : State} {h : Heap}
  (X : Stand p l e R s m args below meth c T locs cells slots) (hx : p.tables.exec = Jvm.exec) (hZ : Z.Warmed39 s.vm) {a0 : Array Value} {own : String} {index : Nat} (hown : s.vm.findClass own = some m.cls)
  (w1 : (Cond.methodLink own index Jvm.Stand.acN).before a0 Z = true) (w2 : (Cond.native Jvm.Stand.acN).before a0 Z = true) (w3 : (Cond.static Jvm.Stand.acN).before a0 Z = true) (w4 : (Cond.initialized "java/lang/System").before a0 Z = true) (eT : T.heap = h)
  {a b : Addr} {k k' : ClassId} {cs ds : List Int32} {zN zM nn dp : Int32} (A : Arv Z h a k .byte zN (jE cs) (.int 0)) (B : Arv Z h b k' .byte zM (jE ds) (.int 0)) (N M K : Nat) (eN : zN = oI N) (eM : zM = oI M) (en : nn = oI K) (ed : dp = oI ds.length)
  (hN : N < 2 ^ 31) (hM : M < 2 ^ 31) (h1 : cs.length ≤ K) (h2 : K ≤ N) (h3 : ds.length + K ≤ M) {n0 : Nat} (N0 : Fr n0 locs) (ge : n0 ≤ b)
  {g : JFrame} (hg : g.method = m) (hsize : g.locals.size = c.maxLocals) {rest : List Value} (hs : g.stack = .int nn :: .int dp :: .ref b :: .int 0 :: .ref a :: rest) (hd : decode c.code g.pc = .ok (.invokestatic index, 3))
  (hf : 1 ≤ R.frames) {W : Nat} (hW : 2 * g.monitorRoom + (rest.map fun v => v.category).sum ≤ W) (hlo : W + (nativeFrameWords "java/lang/System" "arraycopy" 5 + 11) ≤ R.locals) :
  ∃ T' h' L, Stand p l e R s m args below meth c T' L cells slots ∧ T'.heap = h' ∧ Fr n0 L ∧ Keep h h' [b] ∧ Arv Z h' b k' .byte zM (jE (ds ++ cs)) (.int 0) ∧
   ∀ target, Steps p.tables e below (T'.setTop { g with pc := g.pc + 3, stack := rest }) target → Steps p.tables e below (T.setTop g) target := by
 have kN : zN.toNatClampNeg = N := by rw [eN]; exact jae hN
 have kM : zM.toNatClampNeg = M := by rw [eM]; exact jae hM
 have kn : nn.toNatClampNeg = K := by rw [en]; exact jae (by omega)
 have kd : dp.toNatClampNeg = ds.length := by rw [ed]; exact jae (by omega)
 have k0 : (0 : Int32).toNatClampNeg = 0 := by decide
 have B' := B.pad (vs' := jE ds ++ List.replicate K (.int 0)) (pad_rep _ _ _)
 obtain ⟨T', h', L, X', e', N', K', A', st⟩ := cpA X hx hZ hown w1 w2 w3 w4 eT (us := (List.range nn.toNatClampNeg).map fun i => (jE cs).getD ((0 : Int32).toNatClampNeg + i) (.int 0)) A B' (Or.inl ⟨rfl, rfl⟩) (sp := 0) (dp := dp) (nn := nn) (by decide) (by rw [ed]; exact jM (by omega)) (by rw [en]; exact jM (by omega))
  (by rw [kn, kN, k0]; omega) (by rw [kd, kn, kM]; omega) rfl (by rw [kd, kn]; simp) N0 ge hg hsize hs hd hf hW hlo
 refine ⟨T', h', L, X', e', N', K', A'.pad fun i => ?_, st⟩
 rw [kd, kn, k0, own_bva]
 have t1 : (jE ds ++ List.replicate K (Value.int 0)).take ds.length = jE ds := by rw [← own_bvl ds]; simp
 have t2 : (jE ds ++ List.replicate K (Value.int 0)).drop (ds.length + K) = [] := by apply List.drop_eq_nil_of_le; simp
 rw [t1, t2, List.append_nil]
 simp only [List.getD_eq_getElem?_getD]
 by_cases c1 : i < ds.length
 ·rw [List.getElem?_append_left (by simpa using c1), List.getElem?_append_left (by simpa using c1)]
 ·rw [List.getElem?_append_right (by simpa using c1), List.getElem?_append_right (by simpa using c1), own_bvl]
  by_cases c2 : i - ds.length < K
  ·simp [c2]
  ·rw [List.getElem?_eq_none (by simp; omega), List.getElem?_eq_none (by simp; omega)]
theorem own_shr0 (x : Int32) : (x >>> ((0 : Int32) &&& 31)) = x := by
 have s0 := c_ishr x 0 0 (by decide)
 rw [← Int32.toInt_inj]; omega
theorem own_shl0 (x : Int32) : (x <<< ((0 : Int32) &&& 31)) = x := by
 have l0 := c_ishl x 0 0 (by decide)
 have r0 := rng32 x
 have r1 := rng32 (x <<< ((0 : Int32) &&& 31))
 rw [← Int32.toInt_inj]; omega
theorem jd (a b : Nat) : (oI a + oI b : Int32) = oI (a + b) := by rw [Int32.ofNat_add]
theorem own_pf1 : plainFor my11 = true := by decide +kernel
theorem own_pf2 : plainFor my12 = true := by decide +kernel
theorem own_sub0 (x : Int32) : x - (0 : Int32) = x := by rw [← Int32.toInt_inj]; simp
theorem own_lenapp (cs ds : List Int32) : oI cs.length + oI ds.length = oI (cs ++ ds).length := by rw [List.length_append, Int32.ofNat_add]
def jV (N K : Nat) : Nat := N + max (K - N) (N + 2)
def jw (N K : Nat) : Nat := if K ≤ N then N else jV N K
def jS (N K : Nat) : Nat := if K ≤ N then 0 else jV N K
theorem jH {k : Nat} (h : k ≤ 100000000) : (oI k).toInt = k := Int32.toInt_ofNat_small (by omega)
theorem own_c1 {mi : Int32} {N K : Nat} (e : mi = oI K) (hK : K ≤ 1000000) (hN : N ≤ 1000000) : ((0 : Int32) < (mi - ((oI N) >>> ((0 : Int32) &&& 31)))) ↔ ¬ K ≤ N := by
 rw [own_shr0, e]
 have a := jH (k := K) (by omega)
 have b := jH (k := N) (by omega)
 have s := c_isub (oI K) (oI N)
 have r := rng32 (oI K - oI N)
 have z : (0 : Int32).toInt = 0 := by decide
 simp only [Int32.lt_iff_toInt_lt]
 omega
theorem own_grb {N K : Nat} (hK : K ≤ 1000000) (hN : N ≤ 1000000) : jV N K ≤ 3000002 ∧ N < jV N K ∧ K ≤ jV N K ∧ N ≤ jw N K ∧ K ≤ jw N K ∧ jw N K ≤ 3000002 := by
 unfold jw jV
 split <;> omega
theorem own_nlen {N K : Nat} (hK : K ≤ 1000000) (hN : N ≤ 1000000) {o gr p : Int32} (eo : o = oI N) (eg : gr = oI (K - N)) (ep : p = oI (N + 2)) : (o + (if gr < p then p else gr)) = oI (jV N K) := by
 have a := jH (k := K - N) (by omega)
 have b := jH (k := N + 2) (by omega)
 rw [eo, eg, ep]
 have q : (if oI (K - N) < oI (N + 2) then oI (N + 2) else oI (K - N)) = oI (max (K - N) (N + 2)) := by
  by_cases h : K - N < N + 2
  ·rw [if_pos (by rw [Int32.lt_iff_toInt_lt]; omega), Nat.max_eq_right (by omega)]
  ·rw [if_neg (by rw [Int32.lt_iff_toInt_lt]; omega), Nat.max_eq_left (by omega)]
 rw [q, jd]; rfl
theorem own_grlt {N K : Nat} (hK : K ≤ 1000000) (hN : N ≤ 1000000) : (0 : Int32) < oI (jV N K) ∧ ¬ (2147483639 : Int32) < oI (jV N K) ∧ ¬ oI (jV N K) = (2147483647 : Int32) ∧ ¬ oI (jV N K) = oI N ∧ ¬ oI (jV N K) < oI N := by
 have g := own_grb hK hN
 have a := jH (k := jV N K) (by omega)
 have b := jH (k := N) (by omega)
 have z : (0 : Int32).toInt = 0 := by decide
 have e1 : (2147483639 : Int32).toInt = 2147483639 := by decide
 have e2 : (2147483647 : Int32).toInt = 2147483647 := by decide
 simp only [Int32.lt_iff_toInt_lt, ← Int32.toInt_inj]
 omega
theorem own_eg {mi : Int32} {N K : Nat} (e : mi = oI K) (hK : K ≤ 1000000) (h : ¬ K ≤ N) : ((mi <<< ((0 : Int32) &&& 31)) - (oI N)) = oI (K - N) := by
 rw [own_shl0, e]
 have a := jH (k := K) (by omega)
 have b := jH (k := N) (by omega)
 have d := jH (k := K - N) (by omega)
 have s := c_isub (oI K) (oI N)
 have r := rng32 (oI K - oI N)
 rw [← Int32.toInt_inj]
 omega
theorem own_ep (N : Nat) : (oI N + (2 : Int32)) = oI (N + 2) := jd N 2
theorem jk (N : Nat) : (oI N + (1 : Int32)) = oI (N + 1) := jd N 1
theorem own_cl {p : Program} {l : Launch} {e : Env} {R : Room} {s : State} {m : MethodId} {args : Array Value} {below : List Frame} {meth : Method} {c : Code} {T : State} {locs : List Loc} {cells slots : Nat} {Z : State} {h : Heap}
  (X : Stand p l e R s m args below meth c T locs cells slots) (hx : p.tables.exec = Jvm.exec) (hZ : Z.Warmed39 s.vm) {a0 : Array Value} {own ad : String} {index : Nat} (hown : s.vm.findClass own = some m.cls)
  (w1 : (Cond.methodLink own index ⟨ad, "clone", "()Ljava/lang/Object;"⟩).before a0 Z = true) (w2 : (Cond.sameMethod ad "java/lang/Object" "clone" "()Ljava/lang/Object;").before a0 Z = true) (w3 : (Cond.native ⟨"java/lang/Object", "clone", "()Ljava/lang/Object;"⟩).before a0 Z = true)
  (w4 : (Cond.instanceMethod ⟨"java/lang/Object", "clone", "()Ljava/lang/Object;"⟩).before a0 Z = true) (w5 : (Cond.selects ad ⟨ad, "clone", "()Ljava/lang/Object;"⟩ ⟨"java/lang/Object", "clone", "()Ljava/lang/Object;"⟩).before a0 Z = true) (w6 : (Cond.castable ad "java/lang/Cloneable").before a0 Z = true)
  (eT : T.heap = h) {a : Addr} {k : ClassId} {ty : FieldType} {z : Int32} {vs : List Value} {dv : Value} (F : Arv Z h a k ty z vs dv) (E : Exa Z h a ad) {g : JFrame} (hg : g.method = m) (hsize : g.locals.size = c.maxLocals) {rest : List Value} (hst : g.stack = .ref a :: rest) (hd : decode c.code g.pc = .ok (.invokevirtual index, 3))
  (hf : 1 ≤ R.frames) {W cap : Nat} (hW : 2 * g.monitorRoom + (rest.map fun v => v.category).sum ≤ W) (hl : W + 14 ≤ R.locals) (hcap : z.toNatClampNeg ≤ cap) (hc : cells + 1 ≤ R.cells) (hsl : slots + cap ≤ R.slots) :
  ∃ T' h', Stand p l e R s m args below meth c T' locs (cells + 1) (slots + cap) ∧ T'.heap = h' ∧ Ext h h' ∧ Arv Z h' h.size k ty z vs dv ∧ Exa Z h' h.size ad ∧
   ∀ target, Steps p.tables e below (T'.setTop { g with pc := g.pc + 3, stack := .ref h.size :: rest }) target → Steps p.tables e below (T.setTop g) target := by
 obtain ⟨cl, A, q1, S, q3, H, G⟩ := F
 have FC : FitC Z cl := fitC_of A fun i hi v hv => by rw [H i hi] at hv; cases hv; exact G i hi
 obtain ⟨T', h', X', e', ex, A', E', st⟩ := cloneA X hx hZ hown w1 w2 w3 w4 w5 w6 eT A E FC hg hsize hst hd hf hW hl (by rw [S]; exact hcap) hc hsl
 exact ⟨T', h', X', e', ex, ⟨cloneOf cl, A', q1, S, q3, H, G⟩, E', st⟩
theorem own_pad1 (cs : List Int32) : ∀ i, (jE cs ++ [Value.int 0]).getD i (.int 0) = (jE cs).getD i (.int 0) := pad_rep (jE cs) (.int 0) 1
theorem own_setlast (cs : List Int32) (cc : Int32) : (jE cs ++ [Value.int 0]).set cs.length (.int (cc.toInt8.toInt32)) = jE (cs ++ [cc]) := by
 rw [List.set_append_right _ _ (by rw [own_bvl]; exact Nat.le_refl _), own_bvl, Nat.sub_self, own_bva]; rfl
theorem jX {a b : Nat} (hb : b ≤ 100000000) (h : a < b) : oI a < oI b := by
 have x := jH (k := a) (by omega)
 have y := jH (k := b) hb
 rw [Int32.lt_iff_toInt_lt]; omega
theorem own_nlt32 {a b : Nat} (ha : a ≤ 100000000) (h : b ≤ a) : ¬ oI a < oI b := by
 have x := jH (k := a) (by omega)
 have y := jH (k := b) (by omega)
 rw [Int32.lt_iff_toInt_lt]; omega
theorem jaf {a b : Nat} (ha : a ≤ 100000000) (hb : b ≤ 100000000) (h : ¬ a = b) : ¬ oI a = oI b := by
 have x := jH (k := a) ha
 have y := jH (k := b) hb
 rw [← Int32.toInt_inj]; omega
theorem own_nc {a cap : Nat} (h : a ≤ cap) (ha : a ≤ 100000000) : (oI a).toNatClampNeg ≤ cap := by rw [jae (by omega)]; exact h
theorem own_e16 (n : Nat) : (oI n + (16 : Int32)) = oI (n + 16) := jd n 16
theorem own_len1 (cs : List Int32) (cc : Int32) : oI cs.length + (1 : Int32) = oI (cs ++ [cc]).length := by rw [jk, List.length_append]; rfl
theorem own_inj32 {a b : Nat} (ha : a ≤ 100000000) (hb : b ≤ 100000000) (h : oI a = oI b) : a = b := by
 have x := jH ha
 have y := jH hb
 rw [h] at x; omega
def jc (n : Nat) (c : Int32) : List Int32 := if n = 0 then [] else c :: List.replicate (n - 1) 0
theorem jq (n : Nat) (c : Int32) : (jc n c).length = n := by
 unfold jc; split
 ·simp; omega
 ·simp; omega
theorem jK {n : Nat} {c : Int32} (h : ¬ c < 0 ∧ ¬ (255 : Int32) < c) : ∀ x ∈ jc n c, ¬ x < 0 ∧ ¬ (255 : Int32) < x := by
 unfold jc; split
 ·simp
 ·intro x hx
  rcases List.mem_cons.mp hx with q | q
  ·rw [q]; exact h
  ·rw [(List.mem_replicate.mp q).2]; decide
theorem own_rp (i : Nat) (c : Int32) : List.replicate i c ++ [c] = List.replicate (i + 1) c := by rw [List.replicate_succ']
theorem own_rplen (i : Nat) (c : Int32) : (List.replicate i c).length = i := by simp
theorem own_padc {n : Nat} (c : Int32) (h : ¬ n = 0) : ∀ i, ((jc n c).map Value.int).getD i (.int 0) = ([Value.int c] : List Value).getD i (.int 0) := fun i => by
 unfold jc; rw [if_neg h]
 have e : ((c :: List.replicate (n - 1) (0 : Int32)).map Value.int) = [Value.int c] ++ List.replicate (n - 1) (Value.int 0) := by simp
 rw [e]; exact pad_rep [Value.int c] (.int 0) (n - 1) i
theorem own_div1 {n : Nat} (h0 : 0 < n) (h : n ≤ 1000) : ¬ ((2147483647 : Int32) / (oI n)) < (1 : Int32) := by
 have a := jH (k := n) (by omega)
 have e1 : (2147483647 : Int32).toInt = 2147483647 := by decide
 have e2 : (1 : Int32).toInt = 1 := by decide
 have d : ((2147483647 : Int32) / oI n).toInt = 2147483647 / (n : Int) := by
  rw [Int32.toInt_div_of_ne_left _ _ (by decide), a, e1, Int.tdiv_eq_ediv_of_nonneg (by omega)]
 have q : (1 : Int) ≤ 2147483647 / (n : Int) := (Int.le_ediv_iff_mul_le (by omega)).mpr (by omega)
 rw [Int32.lt_iff_toInt_lt]; omega
theorem jN (N K : Nat) : jS N K + 2 * N ≤ 2 * jw N K := by
 unfold jS jw jV
 split <;> omega
theorem jO {N K B : Nat} (h1 : N ≤ B) (h2 : 2 * K ≤ B) : jw N K ≤ B := by
 unfold jw jV
 split <;> omega
theorem jP (N K : Nat) : K ≤ jw N K := by
 unfold jw jV
 split <;> omega
theorem own_c80 {A B C : Nat} (h : B ≤ A) (hA : A ≤ 10000) (hC : C ≤ 10000) : ((80 : Int32) < (((oI A - oI B) + (1 : Int32)) + oI C)) ↔ 80 < A - B + 1 + C := by
 have a := jH (k := A) (by omega)
 have b := jH (k := B) (by omega)
 have e : oI A - oI B = oI (A - B) := by
  have d := jH (k := A - B) (by omega)
  have s := c_isub (oI A) (oI B)
  have r := rng32 (oI A - oI B)
  rw [← Int32.toInt_inj]; omega
 rw [e, jk, jd]
 have d := jH (k := A - B + 1 + C) (by omega)
 have k : (80 : Int32).toInt = 80 := by decide
 rw [Int32.lt_iff_toInt_lt]; omega
theorem own_c80z {A C : Nat} (hA : A ≤ 10000) (hC : C ≤ 10000) : ((80 : Int32) < (((oI A - (0 : Int32)) + (1 : Int32)) + oI C)) ↔ 80 < A + 1 + C := by
 have q := own_c80 (A := A) (B := 0) (C := C) (by omega) hA hC
 rw [Nat.sub_zero] at q; exact q
def jZ (ls w0 : List Int32) : List Int32 := ls ++ w0
abbrev jaa (ls w0 w1 : List Int32) : Prop := 80 < ls.length + w0.length + 1 + w1.length
def js (ls w0 w1 : List Int32) : List Int32 := if jaa ls w0 w1 then (((ls ++ w0) ++ [10]) ++ List.replicate ls.length 32) ++ w1 else ((ls ++ w0) ++ [32]) ++ w1
def own_col2 (ls w0 w1 : List Int32) : Nat := if jaa ls w0 w1 then ls.length + w1.length else ls.length + w0.length + 1 + w1.length
abbrev own_C3 (ls w0 w1 w2 : List Int32) : Prop := 80 < own_col2 ls w0 w1 + 1 + w2.length
def jr (ls w0 w1 w2 : List Int32) : List Int32 := if own_C3 ls w0 w1 w2 then ((js ls w0 w1 ++ [10]) ++ List.replicate ls.length 32) ++ w2 else (js ls w0 w1 ++ [32]) ++ w2
theorem jC (xs ys : List Int32) (j : Nat) : (xs ++ ys).getD j 0 = if j < xs.length then xs.getD j 0 else ys.getD (j - xs.length) 0 := by
 simp only [List.getD_eq_getElem?_getD]
 by_cases h : j < xs.length
 ·rw [if_pos h, List.getElem?_append_left h]
 ·rw [if_neg h, List.getElem?_append_right (by omega)]
theorem ju (n j : Nat) : (List.replicate n (32 : Int32)).getD j 0 = if j < n then 32 else 0 := by
 simp only [List.getD_eq_getElem?_getD, List.getElem?_replicate]
 by_cases h : j < n
 ·simp [h]
 ·simp [h]
theorem jD (c : Int32) (j : Nat) : ([c] : List Int32).getD j 0 = if j = 0 then c else 0 := by
 cases j with
 | zero => rfl
 | succ j => rw [if_neg (by omega)]; rfl
theorem jv (n : Nat) (c : Int32) (j : Nat) : (jc n c).getD j 0 = if j = 0 ∧ 0 < n then c else 0 := by
 unfold jc
 by_cases h : n = 0
 ·rw [if_pos h, if_neg (by omega)]; rfl
 ·rw [if_neg h]
  cases j with
  | zero => rw [if_pos (by omega)]; rfl
  | succ j =>
   rw [if_neg (by omega)]
   simp only [List.getD_eq_getElem?_getD, List.getElem?_cons_succ, List.getElem?_replicate]
   split <;> rfl
theorem own_and127 (x : Int32) : ∃ n : Nat, (x &&& (127 : Int32)) = oI n ∧ n ≤ 127 := by
 have a := c_and x 127 (by decide)
 have e : (127 : Int32).toInt = 127 := by decide
 refine ⟨(x &&& 127).toNatClampNeg, ?_, ?_⟩
 ·rw [← Int32.toInt_inj, Int32.toInt_ofNat_small (by simp only [Int32.toNatClampNeg]; omega)]
  simp only [Int32.toNatClampNeg]; omega
 ·simp only [Int32.toNatClampNeg]; omega
theorem own_k3 {x : Int32} (h0 : ¬ (x &&& (3 : Int32)) = (0 : Int32)) (h1 : ¬ (x &&& (3 : Int32)) = (1 : Int32)) (h2 : ¬ (x &&& (3 : Int32)) = (2 : Int32)) : (x &&& (3 : Int32)) = (3 : Int32) := by
 have a := c_and x 3 (by decide)
 have e0 : (0 : Int32).toInt = 0 := by decide
 have e1 : (1 : Int32).toInt = 1 := by decide
 have e2 : (2 : Int32).toInt = 2 := by decide
 have e3 : (3 : Int32).toInt = 3 := by decide
 simp only [← Int32.toInt_inj] at *
 omega
theorem own_rem {x : Int32} {t : Nat} (h : 0 < t) (ht : t ≤ 1000) : ∃ j : Nat, ((x &&& (2147483647 : Int32)) % (oI t)) = oI j ∧ j < t := by
 have a := c_and x 2147483647 (by decide)
 have b := jH (k := t) (by omega)
 have q := (c_iremV (x &&& (2147483647 : Int32)) (oI t)).1 a.1 (by omega)
 refine ⟨((x &&& (2147483647 : Int32)) % (oI t)).toNatClampNeg, ?_, ?_⟩
 ·rw [← Int32.toInt_inj, Int32.toInt_ofNat_small (by simp only [Int32.toNatClampNeg]; omega)]
  simp only [Int32.toNatClampNeg]; omega
 ·simp only [Int32.toNatClampNeg]; omega
theorem jg {a b : Nat} (ha : a ≤ 100000) (hb : b ≤ 100000) : (oI a < oI b) ↔ a < b := by
 have x := jH (k := a) (by omega)
 have y := jH (k := b) (by omega)
 rw [Int32.lt_iff_toInt_lt]; omega
theorem jB {a b : Nat} (ha : a ≤ 100000) (hb : b ≤ 100000) : (oI a = oI b) ↔ a = b := by
 have x := jH (k := a) (by omega)
 have y := jH (k := b) (by omega)
 rw [← Int32.toInt_inj]; omega
theorem Str.keepAO {Z : State} {h h' : Heap} {s a ar : Addr} {C : String} {cs : List Int32} {O : String} {k : ClassId} {zz : Int32} {vs : List Value} {dv : Value} (F : Str Z h s cs) (K : Keep h h' [a, ar]) (E : Exa Z h a C) (hC : C ≠ "java/lang/String") {a0 : Array Value} {n n' : Nat} (w : (Cond.instantiable C n).before a0 Z = true) (V : Arv Z h ar k (.object O) zz vs dv) (w' : (Cond.instantiable "java/lang/String" n').before a0 Z = true) : Str Z h' s cs := by
 obtain ⟨t, kb, x, c, v, q⟩ := F
 have n1 : s ≠ a := Ne.symm (Exa.ne E x hC)
 have n2 : t ≠ a := Ne.symm (Exa.neArv E q w)
 have n3 : s ≠ ar := Exa.neArv x V w'
 have n4 : t ≠ ar := fun e => by
  subst e
  obtain ⟨c1, A1, -⟩ := q
  obtain ⟨c2, A2, -⟩ := V
  have e12 := Option.some.inj (A1.1.symm.trans A2.1)
  subst e12
  obtain ⟨-, k1, hk1, comp1, hkind1⟩ := A1.2.1
  obtain ⟨-, k2, hk2, comp2, hkind2⟩ := A2.2.1
  have e3 := Option.some.inj (hk1.symm.trans hk2)
  subst e3
  rw [hkind1] at hkind2
  cases hkind2
 exact ⟨t, kb, x.keep K, c.keep K (ninS n1 (ninS n3 nin0)), v.keep K (ninS n1 (ninS n3 nin0)), q.keep K (ninS n2 (ninS n4 nin0))⟩
theorem jl (n : Nat) : ((1 : Int32) + oI n) = oI (1 + n) := jd 1 n
theorem jU {xs ys : List Int32} (h1 : ∀ c ∈ xs, ¬ c < 0 ∧ ¬ (255 : Int32) < c) (h2 : ∀ c ∈ ys, ¬ c < 0 ∧ ¬ (255 : Int32) < c) : ∀ c ∈ xs ++ ys, ¬ c < 0 ∧ ¬ (255 : Int32) < c := fun c hc => (List.mem_append.mp hc).elim (h1 c) (h2 c)
theorem own_b32 (n : Nat) : ∀ c ∈ List.replicate n (32 : Int32), ¬ c < 0 ∧ ¬ (255 : Int32) < c := fun c hc => by rw [(List.mem_replicate.mp hc).2]; decide
theorem own_w2b {ls w0 w1 : List Int32} (h : ∀ c ∈ ls, ¬ c < 0 ∧ ¬ (255 : Int32) < c) (h0 : ∀ c ∈ w0, ¬ c < 0 ∧ ¬ (255 : Int32) < c) (h1 : ∀ c ∈ w1, ¬ c < 0 ∧ ¬ (255 : Int32) < c) : ∀ c ∈ js ls w0 w1, ¬ c < 0 ∧ ¬ (255 : Int32) < c := by
 unfold js; split
 ·exact jU (jU (jU (jU h h0) (by decide)) (own_b32 _)) h1
 ·exact jU (jU (jU h h0) (by decide)) h1
theorem own_w3b {ls w0 w1 w2 : List Int32} (h : ∀ c ∈ ls, ¬ c < 0 ∧ ¬ (255 : Int32) < c) (h0 : ∀ c ∈ w0, ¬ c < 0 ∧ ¬ (255 : Int32) < c) (h1 : ∀ c ∈ w1, ¬ c < 0 ∧ ¬ (255 : Int32) < c) (h2 : ∀ c ∈ w2, ¬ c < 0 ∧ ¬ (255 : Int32) < c) : ∀ c ∈ jr ls w0 w1 w2, ¬ c < 0 ∧ ¬ (255 : Int32) < c := by
 unfold jr; split
 ·exact jU (jU (jU (own_w2b h h0 h1) (by decide)) (own_b32 _)) h2
 ·exact jU (jU (own_w2b h h0 h1) (by decide)) h2
theorem own_safe_new {Z : State} {EL : List (String × Nat)} {vm : Vm} {h : Heap} {x : Addr} (hal : Z.vm.Alike vm) (E : Exa Z h x "java/lang/String") (F : Fld Z h x "java/lang/String" "value" "[B" .null) : Safe Z EL vm h x := fun B => by
 obtain ⟨p, hp, u, a, hb, q, hqa, S, hy⟩ := B
 obtain ⟨cS, ⟨⟨s1, s2, s3, ⟨cv, kv, iv, s4, s4'⟩, ⟨cc, kc, ic, s5, s5'⟩, s6, s7, s8, s9, s10, s11, s12, s13, s14, s15, s16⟩, hfS, hcS⟩, ⟨kS, k1, k2, k3⟩, hB, hbyt⟩ := S
 rcases hy with hy | hy
 ·obtain ⟨cell, cf, k, i, f, h1, h2, h3, h4, h5, h6, h7⟩ := F
  obtain ⟨kv', z4⟩ := ff_back (U := Wst Z vm h) hal s4
  subst hy
  have s1' : h[q.sa]? = some q.sC := s1
  cases h1.symm.trans s1'
  cases h2.symm.trans z4
  cases h7.symm.trans s8
 ·obtain ⟨cell, k, h1, h2, -⟩ := E
  subst hy
  have s10' : h[q.sd]? = some q.SA := s10
  cases h1.symm.trans s10'
  have hB' : vm.findClass "[B" = some q.SA.cls := hB
  rw [hal.findClass] at hB'
  exact ids_ne h2 hB' (by decide) rfl
theorem ef_0 (m : MethodId) (x0 : Addr) (x1 : Addr) (x2 : Int32) (x3 : Int32) : entryFrame m #[(.ref x0), (.ref x1), (.int x2), (.int x3), .null] 6 = mkF m 0 #[.val (.ref x0), .val (.ref x1), .val (.int x2), .val (.int x3), .val .null, .unset] [] := by first | (simp [entryFrame, mkF, argsToLocals, Value.category]; done) | rfl
abbrev oc0 := jdk_42_method_149_code
theorem d0_0 : decode oc0 0 = .ok (.aload_n 0, 1) := by decide +kernel
theorem d0_1 : decode oc0 1 = .ok (.invokespecial 1, 3) := by decide +kernel
theorem d0_4 : decode oc0 4 = .ok (.iload_n 3, 1) := by decide +kernel
theorem d0_5 : decode oc0 5 = .ok (.ifCond .ne 22, 3) := by decide +kernel
theorem d0_8 : decode oc0 8 = .ok (.aload_n 0, 1) := by decide +kernel
theorem d0_9 : decode oc0 9 = .ok (.ldc 7, 2) := by decide +kernel
theorem d0_11 : decode oc0 11 = .ok (.getfield 9, 3) := by decide +kernel
theorem d0_14 : decode oc0 14 = .ok (.putfield 9, 3) := by decide +kernel
theorem d0_17 : decode oc0 17 = .ok (.aload_n 0, 1) := by decide +kernel
theorem d0_18 : decode oc0 18 = .ok (.ldc 7, 2) := by decide +kernel
theorem d0_20 : decode oc0 20 = .ok (.getfield 15, 3) := by decide +kernel
theorem d0_23 : decode oc0 23 = .ok (.putfield 15, 3) := by decide +kernel
theorem d0_26 : decode oc0 26 = .ok (.return_, 1) := by decide +kernel
theorem pn_15 : plainName "java/lang/String" = true := by first | (simp [plainName, overriddenIn]; done) | decide +kernel
theorem rm_sv0 (l : Launch) (Z : State) (a0 : Array Value) (hw : HW Z a0) (ws : List Jvm.Cond) (a : Addr) (b : Addr) (h0 : Heap) (n0 : Nat) (Z0 : n0 ≤ h0.size) (O0 : Old Z n0 h0) (E_a : Exa Z h0 a "java/lang/String") (F_v : Fld Z h0 a "java/lang/String" "value" "[B" .null) (F_c : Fld Z h0 a "java/lang/String" "coder" "B" (.int (0 : Int32))) (g_a : n0 ≤ a) :
  CtrW l Z jo my14 oc0 6 ((Option.none : Option Jvm.ClassFile.FieldType)) ws (⟨1, 4, 8, 12⟩ : Room) #[(.ref a), (.ref b), (.int (0 : Int32)), (.int (0 : Int32)), .null] h0 (fun v h L => v = none ∧ Fr n0 L ∧ Keep h0 h [a] ∧ Str Z h a []) := by
 refine CtrW.of (MetFree.of_bodySF (plainFor_of_name pn_15) hisR ?_)
 intro p e s m args below meth c s₁ Bd hml0 hP hK
 obtain ⟨rfl, hZ0, hh, hC⟩ := hP
 have hx := Bd.exec
 have hby := Bd.bytes
 have hq := And.intro hx hby
 have hml : c.maxLocals = 6 := hml0
 have hZ : Z.Warmed39 (s.setVm s.vm).vm := hZ0
 have hown : (s.setVm s.vm).vm.findClass "java/lang/String" = some m.cls := findClass_of_methodNamed Bd.named
 have hnm := (name_of_methodNamed Bd.named Bd.method).1
 have X0 : Stand p l e (⟨1, 4, 8, 12⟩ : Room) (s.setVm s.vm) m #[(.ref a), (.ref b), (.int (0 : Int32)), (.int (0 : Int32)), .null] below meth c s₁ [] 0 0 := Stand.of_body Bd
 have e0 : s₁.heap = h0 := by rw [← hh, Bd.state]; rfl
 have N0 := Fr.nil n0
 have K0 : Keep h0 h0 [a] := Keep.refl h0 [a]
 have hS : s.Since s.vm 0 := (State.WarmedH.refl s).since 0
 have hk : 0 ≤ h0.size := Nat.zero_le _
 have R0 : CHr Z jo s.vm h0 s.vm h0 := CHr.refl hC
 show OwnGoW p e below s Z jo (fun v h L => v = none ∧ Fr n0 L ∧ Keep h0 h [a] ∧ Str Z h a []) (⟨1, 4, 8, 12⟩ : Room).cells (⟨1, 4, 8, 12⟩ : Room).slots _
 refine gsW (S' := s₁.setTop (mkF m 0 #[rv a, rv b, iv (0 : Int32), iv (0 : Int32), .val .null, uu] [])) (fun tg kg => castTop (ef_0 m a b (0 : Int32) (0 : Int32)) kg) ?_
 have sfa0 : Safe Z jo s.vm h0 a := own_safe_new hZ0.alike E_a F_v
 refine gsW (fun _ k => jb X0 hq d0_0 rfl rfl k) ?_
 obtain ⟨T1, X1, e1, st1⟩ := initO X0 hx hZ hown (ow hw 15 rfl) (ow hw 16 rfl) (ow hw 17 rfl) e0 (g := (mkF m 1 #[rv a, rv b, iv (0 : Int32), iv (0 : Int32), .val .null, uu] [(.ref a)])) rfl (by rw [hml]; rfl) rfl (hb hby d0_1) (by decide) (W := 0) (jL rfl) (by decide)
 refine gsW (S' := T1.setTop (mkF m 4 #[rv a, rv b, iv (0 : Int32), iv (0 : Int32), .val .null, uu] [])) st1 ?_
 refine gsW (fun _ k => ji X1 hq d0_4 rfl (jG X1 hq d0_5 ((if0 _ _).trans (teq (by decide : (0 : Int32) = (0 : Int32))).2) (jb X1 hq d0_8 rfl rfl k))) ?_
 obtain ⟨a2, T2, h2, k2, t2, kb2, X2, e2, E2, hS, hk2, hZ, hown, g2e, g2c, g2v, g2a, -, -, r2x, -, ne2, st2⟩ := ldcCH X1 hx hZ hown (ow hw 18 rfl) (own_wS hw) e1 hS hk (jJ hw) (List.mem_of_getElem? (i := 1) rfl) R0.1 (vs := ((([] : List Int32).map (fun c => c.toInt8.toInt32)).map Value.int)) (z := (0 : Int32)) ⟨by decide, by rfl⟩ (by decide) rfl (g := (mkF m 9 #[rv a, rv b, iv (0 : Int32), iv (0 : Int32), .val .null, uu] [(.ref a)])) rfl (hb hby d0_9) (n := 0) (by decide) (by decide) (by decide) (by decide)
 have r3 : CHr Z jo s.vm h0 T2.vm h2 := r2x
 have R3 := R0.trans r3
 have Z3 := nt Z0 E2.1
 have O3 := O0.ext E2
 have K3 := K0.ext E2
 have T2q : Str Z h2 a2 ([] : List Int32) := ⟨_, _, g2e, g2c, g2v, g2a⟩
 have f4 := (r3.safe (nu E_a.lt (Nat.le_refl _)) sfa0)
 refine gsW (S' := T2.setTop (mkF m 11 #[rv a, rv b, iv (0 : Int32), iv (0 : Int32), .val .null, uu] [(.ref a2), (.ref a)])) st2 ?_
 refine gFW X2 hx hZ hown (host := "") (Or.inl (ow hw 24 rfl)) Via.refl e2 g2v hby d0_11 fun T5 X5 e5 => ?_
 have f6 := (F_v.ext E2)
 have f7 := (E_a.ext E2)
 obtain ⟨T8, h8, X8, e8, W8, st8⟩ := putF X5 hx hZ hown (host := "") (Or.inl (ow hw 24 rfl)) Via.refl e5 f6 f7 (Or.inr ⟨(ow hw 20 rfl), rfl, hnm⟩) (ow hw 6 rfl) (ty := (.array .byte)) (by decide) rfl rfl (g := (mkF m 14 #[rv a, rv b, iv (0 : Int32), iv (0 : Int32), .val .null, uu] [(.ref t2), (.ref a)])) rfl rfl (hb hby d0_14)
 have N8 := Fr.snoc X8 N0 g_a
 have Fw8 := f6.same W8
 have r9 : CHr Z jo T2.vm h2 T2.vm h8 := CHr.wr W8 f4 R3.1
 have R9 := R3.trans r9
 have Z9 := nt Z3 (Keep.of_wr W8).1
 have O9 := O3.wr W8 g_a
 have K9 := K3.wr W8 (Or.inl (List.mem_of_getElem? (i := 0) rfl))
 refine gsW (S' := T8.setTop (mkF m 17 #[rv a, rv b, iv (0 : Int32), iv (0 : Int32), .val .null, uu] [])) st8 ?_
 refine gsW (fun _ k => jb X8 hq d0_17 rfl rfl k) ?_
 obtain ⟨a10, T10, h10, k10, t10, kb10, X10, e10, E10, hS, hk10, hZ, hown, g10e, g10c, g10v, g10a, -, -, r10x, -, ne10, st10⟩ := ldcCH X8 hx hZ hown (ow hw 18 rfl) (own_wS hw) e8 hS (nt hk2 (Keep.of_wr W8).1) (jJ hw) (List.mem_of_getElem? (i := 1) rfl) R9.1 (vs := ((([] : List Int32).map (fun c => c.toInt8.toInt32)).map Value.int)) (z := (0 : Int32)) ⟨by decide, by rfl⟩ (by decide) rfl (g := (mkF m 18 #[rv a, rv b, iv (0 : Int32), iv (0 : Int32), .val .null, uu] [(.ref a)])) rfl (hb hby d0_18) (n := 0) (by decide) (by decide) (by decide) (by decide)
 have r11 : CHr Z jo T2.vm h8 T10.vm h10 := r10x
 have R11 := R9.trans r11
 have Z11 := nt Z9 E10.1
 have O11 := O9.ext E10
 have K11 := K9.ext E10
 have T10q : Str Z h10 a10 ([] : List Int32) := ⟨_, _, g10e, g10c, g10v, g10a⟩
 have zs12 := nt E2.1 (Keep.of_wr W8).1
 have f13 := (r11.safe (nu E_a.lt zs12) (r9.safe (nu E_a.lt E2.1) f4))
 refine gsW (S' := T10.setTop (mkF m 20 #[rv a, rv b, iv (0 : Int32), iv (0 : Int32), .val .null, uu] [(.ref a10), (.ref a)])) st10 ?_
 refine gFW X10 hx hZ hown (host := "") (Or.inl (ow hw 25 rfl)) Via.refl e10 g10c hby d0_20 fun T14 X14 e14 => ?_
 have f15 := (((F_c.ext E2).other W8 (Or.inr (slot_ne (Or.inr (ow hw 21 rfl)) (Or.inr (ow hw 20 rfl)) (by decide) (t := .byte) (t' := (.array .byte)) (by decide) (by decide)))).ext E10)
 have f16 := ((f7.wr W8).ext E10)
 obtain ⟨T17, h17, X17, e17, W17, st17⟩ := putFN X14 hx hZ hown (ow hw 25 rfl) Via.refl e14 f15 f16 (Or.inr ⟨(ow hw 21 rfl), rfl, hnm⟩) (ow hw 6 rfl) (ty := .byte) (v' := (.int (0 : Int32))) (by decide) rfl rfl (g := (mkF m 23 #[rv a, rv b, iv (0 : Int32), iv (0 : Int32), .val .null, uu] [(.int (0 : Int32)), (.ref a)])) rfl rfl (hb hby d0_23)
 have N17 := Fr.snoc X17 N8 g_a
 have Fw17 := f15.same W17
 have r18 : CHr Z jo T10.vm h10 T10.vm h17 := CHr.wr W17 f13 R11.1
 have R18 := R11.trans r18
 have Z18 := nt Z11 (Keep.of_wr W17).1
 have O18 := O11.wr W17 g_a
 have K18 := K11.wr W17 (Or.inl (List.mem_of_getElem? (i := 0) rfl))
 refine gsW (S' := T17.setTop (mkF m 26 #[rv a, rv b, iv (0 : Int32), iv (0 : Int32), .val .null, uu] [])) st17 ?_
 have f19 := (f16.wr W17)
 have f20 := ((Fw8.ext E10).other W17 (Or.inr (slot_ne (Or.inr (ow hw 20 rfl)) (Or.inr (ow hw 21 rfl)) (by decide) (t := (.array .byte)) (t' := .byte) (by decide) (by decide))))
 have f21 := (((g2a.other W8 (Ne.symm (ne2 _ f4).2)).ext E10).other W17 (Ne.symm (ne2 _ f4).2))
 refine goutW (v := none) X17 hS (nt hk10 (Keep.of_wr W17).1) hZ (jJ hw) hh e17 R18 Bd.notSynchronized (fun _ => rfl) (by decide) (by decide) ?_ (fun fs hr => X17.returnOut hx Bd.returns (hb hby d0_26) hr)
 exact ⟨rfl, N17, K18, _, _, f19, Fw17, f20, f21⟩
theorem ef_16 (m : MethodId) (x0 : Addr) (x1 : Addr) : entryFrame m #[(.ref x0), (.ref x1)] 2 = mkF m 0 #[.val (.ref x0), .val (.ref x1)] [] := by first | (simp [entryFrame, mkF, argsToLocals, Value.category]; done) | rfl
abbrev oc1 := jdk_42_method_3_code
theorem d1_0 : decode oc1 0 = .ok (.aload_n 0, 1) := by decide +kernel
theorem d1_1 : decode oc1 1 = .ok (.aload_n 1, 1) := by decide +kernel
theorem d1_2 : decode oc1 2 = .ok (.iconst 0, 1) := by decide +kernel
theorem d1_3 : decode oc1 3 = .ok (.aload_n 1, 1) := by decide +kernel
theorem d1_4 : decode oc1 4 = .ok (.arraylength, 1) := by decide +kernel
theorem d1_5 : decode oc1 5 = .ok (.aconst_null, 1) := by decide +kernel
theorem d1_6 : decode oc1 6 = .ok (.invokespecial 27, 3) := by decide +kernel
theorem pd_25 : parseMethodDescriptor "([CIILjava/lang/Void;)V" = some ⟨[(.array .char), .int, .int, (.object "java/lang/Void")], none⟩ := by decide +kernel
theorem d1_9 : decode oc1 9 = .ok (.return_, 1) := by decide +kernel
theorem rm_s0 (l : Launch) (Z : State) (a0 : Array Value) (hw : HW Z a0) (ws : List Jvm.Cond) (a : Addr) (b : Addr) (kb : ClassId) (h0 : Heap) (n0 : Nat) (Z0 : n0 ≤ h0.size) (O0 : Old Z n0 h0) (E_a : Exa Z h0 a "java/lang/String") (F_v : Fld Z h0 a "java/lang/String" "value" "[B" .null) (F_c : Fld Z h0 a "java/lang/String" "coder" "B" (.int (0 : Int32))) (g_a : n0 ≤ a) (V_b : Arv Z h0 b kb .char (0 : Int32) [] (.int (0 : Int32))) :
  CtrW l Z jo my15 oc1 2 ((Option.none : Option Jvm.ClassFile.FieldType)) ws (⟨2, 4, 8, 30⟩ : Room) #[(.ref a), (.ref b)] h0 (fun v h L => v = none ∧ Fr n0 L ∧ Keep h0 h [a] ∧ Str Z h a []) := by
 refine CtrW.of (MetFree.of_bodySF (plainFor_of_name pn_15) hisR ?_)
 intro p e s m args below meth c s₁ Bd hml0 hP hK
 obtain ⟨rfl, hZ0, hh, hC⟩ := hP
 have hx := Bd.exec
 have hby := Bd.bytes
 have hq := And.intro hx hby
 have hml : c.maxLocals = 2 := hml0
 have hZ : Z.Warmed39 (s.setVm s.vm).vm := hZ0
 have hown : (s.setVm s.vm).vm.findClass "java/lang/String" = some m.cls := findClass_of_methodNamed Bd.named
 have hnm := (name_of_methodNamed Bd.named Bd.method).1
 have X0 : Stand p l e (⟨2, 4, 8, 30⟩ : Room) (s.setVm s.vm) m #[(.ref a), (.ref b)] below meth c s₁ [] 0 0 := Stand.of_body Bd
 have e0 : s₁.heap = h0 := by rw [← hh, Bd.state]; rfl
 have N0 := Fr.nil n0
 have K0 : Keep h0 h0 [a] := Keep.refl h0 [a]
 have hS : s.Since s.vm 0 := (State.WarmedH.refl s).since 0
 have hk : 0 ≤ h0.size := Nat.zero_le _
 have R0 : CHr Z jo s.vm h0 s.vm h0 := CHr.refl hC
 show OwnGoW p e below s Z jo (fun v h L => v = none ∧ Fr n0 L ∧ Keep h0 h [a] ∧ Str Z h a []) (⟨2, 4, 8, 30⟩ : Room).cells (⟨2, 4, 8, 30⟩ : Room).slots _
 refine gsW (S' := s₁.setTop (mkF m 0 #[rv a, rv b] [])) (fun tg kg => castTop (ef_16 m a b) kg) ?_
 refine gsW (fun _ k => jb X0 hq d1_0 rfl rfl (jb X0 hq d1_1 rfl rfl (jf (v := (0 : Int32)) X0 hq d1_2 (jb X0 hq d1_3 rfl rfl k)))) ?_
 obtain ⟨cl1, A1, a1q, a1S, a1N, a1H, a1G⟩ := id V_b
 refine gsW (S' := s₁.setTop (mkF m 5 #[rv a, rv b] [(.int (0 : Int32)), (.int (0 : Int32)), (.ref b), (.ref a)])) (fun _ k => by refine X0.arraylength hx (by rw [e0]; exact A1.1) (State.isArrayOf_alike hZ.alike A1.2.1) (g := (mkF m 4 #[rv a, rv b] [(.ref b), (.int (0 : Int32)), (.ref b), (.ref a)])) rfl rfl (hb hby d1_4) _ ?_; rw [len_of a1S a1N]; exact k) ?_
 refine gsW (fun _ k => o_aconstNull X0 hq d1_5 k) ?_
 refine cIS (rest := []) X0 hx hS hk hZ hown rfl (ow hw 11 rfl) (ow hw 12 rfl) (ow hw 7 rfl) (ow hw 14 rfl) (rm_sv0 l Z a0 hw [] a b h0 n0 Z0 O0 E_a F_v F_c g_a) (jJ hw) R0.1 hby d1_6 e0 pd_25 0 (by rw [hml]; rfl) rfl rfl rfl rfl (by decide) (by decide) fun _ T2 Lc2 X2 hS hZ hown hQ2 rq2 => ?_
 obtain ⟨rfl, N2q, K2q, T2q⟩ := hQ2
 have N2 := Fr.app N0 N2q
 have r3 : CHr Z jo s.vm h0 T2.vm T2.heap := rq2
 have R3 := R0.trans r3
 have Z3 := nt Z0 K2q.1
 have O3 := O0.keep K2q (allS g_a all0)
 have K3 := K0.trans K2q (allS (Or.inl (List.mem_of_getElem? (i := 0) rfl)) all0)
 refine goutW (v := none) X2 hS (Nat.le_refl T2.heap.size) hZ (jJ hw) hh rfl R3 Bd.notSynchronized (fun _ => rfl) (by decide) (by decide) ?_ (fun fs hr => X2.returnOut hx Bd.returns (hb hby d1_9) hr)
 exact ⟨rfl, N2, K3, T2q⟩
theorem own_bvg (cs : List Int32) : ∀ i, i < cs.length → (jE cs).getD i (.int 0) = .int ((cs.getD i 0).toInt8.toInt32) := by
 induction cs with
 | nil => intro i hi; exact absurd hi (Nat.not_lt_zero _)
 | cons c cs ih =>
  intro i hi
  cases i with
  | zero => rfl
  | succ i => exact ih i (Nat.lt_of_succ_lt_succ hi)
theorem own_gmem (cs : List Int32) {Q : Int32 → Prop} (h : ∀ c ∈ cs, Q c) {i : Nat} (hi : i < cs.length) : Q (cs.getD i 0) := by
 rw [List.getD_eq_getElem?_getD, List.getElem?_eq_getElem hi]; exact h _ (List.getElem_mem hi)
theorem own_chl {x : Int32} (h : ¬ x < 0 ∧ ¬ (255 : Int32) < x) : (x.toInt8.toInt32 &&& (255 : Int32)) = x := by
 have i := c_i2b x
 have m0 := c_mask x.toInt8.toInt32 255 8 (by decide) (by decide)
 have e : (255 : Int32).toInt = 255 := by decide
 have z : (0 : Int32).toInt = 0 := by decide
 simp only [Int32.lt_iff_toInt_lt] at h
 rw [← Int32.toInt_inj]
 omega
theorem own_i2c {x : Int32} (h : ¬ x < 0 ∧ ¬ (65535 : Int32) < x) : x.toUInt32.toUInt16.toUInt32.toInt32 = x := by
 have a := c_i2c x
 have e : (65535 : Int32).toInt = 65535 := by decide
 have z : (0 : Int32).toInt = 0 := by decide
 simp only [Int32.lt_iff_toInt_lt] at h
 rw [← Int32.toInt_inj]
 omega
theorem own_nc16 {x : Int32} (h : ¬ x < 0 ∧ ¬ (65535 : Int32) < x) : nar .char x = x := own_i2c h
theorem own_up1 {c : Int32} (h : ¬ c < 0 ∧ ¬ (255 : Int32) < c) : ¬ c < 0 ∧ ¬ (65535 : Int32) < c := by
 have e1 : (255 : Int32).toInt = 255 := by decide
 have e2 : (65535 : Int32).toInt = 65535 := by decide
 simp only [Int32.lt_iff_toInt_lt] at h ⊢
 omega
theorem ef_27 (m : MethodId) (x0 : Addr) : entryFrame m #[(.ref x0)] 1 = mkF m 0 #[.val (.ref x0)] [] := by first | (simp [entryFrame, mkF, argsToLocals, Value.category]; done) | rfl
abbrev oc2 := jdk_42_method_152_code
theorem d2_0 : decode oc2 0 = .ok (.getstatic 38, 3) := by decide +kernel
theorem d2_3 : decode oc2 3 = .ok (.ifCond .eq 10, 3) := by decide +kernel
theorem d2_6 : decode oc2 6 = .ok (.aload_n 0, 1) := by decide +kernel
theorem d2_7 : decode oc2 7 = .ok (.getfield 15, 3) := by decide +kernel
theorem d2_10 : decode oc2 10 = .ok (.goto 4, 3) := by decide +kernel
theorem d2_14 : decode oc2 14 = .ok (.ireturn, 1) := by decide +kernel
theorem rm_kod (l : Launch) (Z : State) (a0 : Array Value) (hw : HW Z a0) (ws : List Jvm.Cond) (x : Addr) (z : Int32) (h0 : Heap) (n0 : Nat) (Z0 : n0 ≤ h0.size) (O0 : Old Z n0 h0) (F_cx : Fld Z h0 x "java/lang/String" "coder" "B" (.int (0 : Int32))) (S0 : PS0 Z (.int z)) (hz : ¬ z = 0) :
  Ctr l Z my16 oc2 1 ((Option.some Jvm.ClassFile.FieldType.byte)) ws (⟨0, 0, 0, 0⟩ : Room) #[(.ref x)] h0 (fun v h L => v = some (.int (0 : Int32)) ∧ Fr n0 L ∧ h = h0) := by
 refine Ctr.go (plainFor_of_name pn_15) fun p e s m below meth c s₁ Bd hx hby hml hZ hown hnm X0 e0 => ?_
 have hq := And.intro hx hby
 have N0 := Fr.nil n0
 have K0 := Keep.refl h0 []
 refine gs (S' := s₁.setTop (mkF m 0 #[rv x] [])) (fun tg kg => castTop (ef_27 m x) kg) ?_
 refine gS X0 hx hZ hown (host := "") (Or.inl (ow hw 65 rfl)) Via.refl e0 (S0.ext O0.2) hby d2_0 fun T1 X1 e1 => ?_
 refine gs (fun _ k => jG X1 hq d2_3 ((if0 _ _).trans (feq hz).1) (jb X1 hq d2_6 rfl rfl k)) ?_
 refine gF X1 hx hZ hown (host := "") (Or.inl (ow hw 25 rfl)) Via.refl e1 F_cx hby d2_7 fun T2 X2 e2 => ?_
 refine gs (fun _ k => jp (pc' := 14) X2 hq d2_10 k) ?_
 refine gout (v := some (.int (0 : Int32))) X2 Bd.notSynchronized (jA Bd.returns) (by decide) (by decide) ?_ (fun fs hr => retN X2 hx (t := .byte) Bd.returns (by simp) (hb hby d2_14) hr)
 rw [e2]
 exact ⟨rfl, N0, rfl⟩
abbrev oc3 := jdk_42_method_154_code
theorem d3_0 : decode oc3 0 = .ok (.getstatic 38, 3) := by decide +kernel
theorem d3_3 : decode oc3 3 = .ok (.ifCond .eq 14, 3) := by decide +kernel
theorem d3_6 : decode oc3 6 = .ok (.aload_n 0, 1) := by decide +kernel
theorem d3_7 : decode oc3 7 = .ok (.getfield 15, 3) := by decide +kernel
theorem d3_10 : decode oc3 10 = .ok (.ifCond .ne 7, 3) := by decide +kernel
theorem d3_13 : decode oc3 13 = .ok (.iconst 1, 1) := by decide +kernel
theorem d3_14 : decode oc3 14 = .ok (.goto 4, 3) := by decide +kernel
theorem d3_18 : decode oc3 18 = .ok (.ireturn, 1) := by decide +kernel
theorem rm_sil (l : Launch) (Z : State) (a0 : Array Value) (hw : HW Z a0) (ws : List Jvm.Cond) (x : Addr) (z : Int32) (h0 : Heap) (n0 : Nat) (Z0 : n0 ≤ h0.size) (O0 : Old Z n0 h0) (F_cx : Fld Z h0 x "java/lang/String" "coder" "B" (.int (0 : Int32))) (S0 : PS0 Z (.int z)) (hz : ¬ z = 0) :
  Ctr l Z (⟨"java/lang/String", "isLatin1", "()Z"⟩ : MethodName) oc3 1 ((Option.some Jvm.ClassFile.FieldType.boolean)) ws (⟨0, 0, 0, 0⟩ : Room) #[(.ref x)] h0 (fun v h L => v = some (.int (1 : Int32)) ∧ Fr n0 L ∧ h = h0) := by
 refine Ctr.go (plainFor_of_name pn_15) fun p e s m below meth c s₁ Bd hx hby hml hZ hown hnm X0 e0 => ?_
 have hq := And.intro hx hby
 have N0 := Fr.nil n0
 have K0 := Keep.refl h0 []
 refine gs (S' := s₁.setTop (mkF m 0 #[rv x] [])) (fun tg kg => castTop (ef_27 m x) kg) ?_
 refine gS X0 hx hZ hown (host := "") (Or.inl (ow hw 65 rfl)) Via.refl e0 (S0.ext O0.2) hby d3_0 fun T1 X1 e1 => ?_
 refine gs (fun _ k => jG X1 hq d3_3 ((if0 _ _).trans (feq hz).1) (jb X1 hq d3_6 rfl rfl k)) ?_
 refine gF X1 hx hZ hown (host := "") (Or.inl (ow hw 25 rfl)) Via.refl e1 F_cx hby d3_7 fun T2 X2 e2 => ?_
 refine gs (fun _ k => jG X2 hq d3_10 ((if0 _ _).trans (teq (by decide : (0 : Int32) = (0 : Int32))).2) (jf (v := (1 : Int32)) X2 hq d3_13 (jp (pc' := 18) X2 hq d3_14 k))) ?_
 refine gout (v := some (.int (1 : Int32))) X2 Bd.notSynchronized (jA Bd.returns) (by decide) (by decide) ?_ (fun fs hr => retN X2 hx (t := .boolean) Bd.returns (by simp) (hb hby d3_18) hr)
 rw [e2]
 exact ⟨rfl, N0, rfl⟩
abbrev oc4 := jdk_42_method_54_code
theorem d4_0 : decode oc4 0 = .ok (.aload_n 0, 1) := by decide +kernel
theorem d4_1 : decode oc4 1 = .ok (.getfield 9, 3) := by decide +kernel
theorem d4_4 : decode oc4 4 = .ok (.arraylength, 1) := by decide +kernel
theorem d4_5 : decode oc4 5 = .ok (.aload_n 0, 1) := by decide +kernel
theorem d4_6 : decode oc4 6 = .ok (.invokevirtual 335, 3) := by decide +kernel
theorem pd_52 : parseMethodDescriptor "()B" = some ⟨[], some .byte⟩ := by decide +kernel
theorem d4_9 : decode oc4 9 = .ok (.ishr, 1) := by decide +kernel
theorem d4_10 : decode oc4 10 = .ok (.ireturn, 1) := by decide +kernel
theorem rm_lenL (l : Launch) (Z : State) (a0 : Array Value) (hw : HW Z a0) (ws : List Jvm.Cond) (x : Addr) (cs : List Int32) (z : Int32) (h0 : Heap) (n0 : Nat) (Z0 : n0 ≤ h0.size) (O0 : Old Z n0 h0) (T_x : Str Z h0 x cs) (S0 : PS0 Z (.int z)) (hz : ¬ z = 0) :
  Ctr l Z (⟨"java/lang/String", "length", "()I"⟩ : MethodName) oc4 1 ((Option.some Jvm.ClassFile.FieldType.int)) ws (⟨1, 0, 0, 13⟩ : Room) #[(.ref x)] h0 (fun v h L => v = some (.int (oI cs.length)) ∧ Fr n0 L ∧ h = h0) := by
 refine Ctr.go (plainFor_of_name pn_15) fun p e s m below meth c s₁ Bd hx hby hml hZ hown hnm X0 e0 => ?_
 have hq := And.intro hx hby
 have N0 := Fr.nil n0
 have K0 := Keep.refl h0 []
 refine gs (S' := s₁.setTop (mkF m 0 #[rv x] [])) (fun tg kg => castTop (ef_27 m x) kg) ?_
 obtain ⟨u, ku, E_x, F_cx, F_vx, V_u⟩ := id T_x
 refine gs (fun _ k => jb X0 hq d4_0 rfl rfl k) ?_
 refine gF X0 hx hZ hown (host := "") (Or.inl (ow hw 24 rfl)) Via.refl e0 F_vx hby d4_1 fun T1 X1 e1 => ?_
 obtain ⟨cl2, A2, a2q, a2S, a2N, a2H, a2G⟩ := id V_u
 refine gs (S' := T1.setTop (mkF m 5 #[rv x] [(.int (oI cs.length))])) (fun _ k => by refine X1.arraylength hx (by rw [e1]; exact A2.1) (State.isArrayOf_alike hZ.alike A2.2.1) (g := (mkF m 4 #[rv x] [(.ref u)])) rfl rfl (hb hby d4_4) _ ?_; rw [len_of a2S a2N]; exact k) ?_
 refine gs (fun _ k => jb X1 hq d4_5 rfl rfl k) ?_
 refine cV (rest := [(.int (oI cs.length))]) X1 hx hZ hown (ow hw 60 rfl) (ow hw 61 rfl) (nfs hZ (ow hw 63 rfl)) (ow hw 63 rfl) (ow hw 62 rfl) (ow hw 7 rfl) (ow hw 64 rfl) (rm_kod l Z a0 hw [] x z h0 n0 Z0 O0 F_cx S0 hz) hby d4_6 e1 pd_52 1 (by rw [hml]; rfl) E_x rfl rfl rfl rfl (by decide) (by decide) fun _ T3 Lc3 X3 hQ3 => ?_
 obtain ⟨rfl, N3q, e3q⟩ := hQ3
 have N3 := Fr.app N0 N3q
 refine gs (fun _ k => o_ishr X3 hq d4_9 k) ?_
 refine gout (v := some (.int ((oI cs.length) >>> ((0 : Int32) &&& 31)))) X3 Bd.notSynchronized (jA Bd.returns) (by decide) (by decide) ?_ (fun fs hr => retI X3 hx Bd.returns (hb hby d4_10) hr)
 rw [e3q]
 exact ⟨congrArg (fun q => some (Value.int q)) (own_shr0 _), N3, rfl⟩
theorem ef_55 (m : MethodId) (x0 : Int32) (x1 : Int32) (x2 : Value) (hx2 : x2.isRef = true) : entryFrame m #[(.int x0), (.int x1), x2] 3 = mkF m 0 #[.val (.int x0), .val (.int x1), .val x2] [] := by first | (simp [entryFrame, mkF, argsToLocals, Value.category]; done) | rfl | (rcases ref_cases hx2 with rfl | ⟨b, rfl⟩ <;> rfl)
abbrev oc5 := jdk_41_method_11_code
theorem d5_0 : decode oc5 0 = .ok (.iload_n 0, 1) := by decide +kernel
theorem d5_1 : decode oc5 1 = .ok (.ifCond .lt 8, 3) := by decide +kernel
theorem d5_4 : decode oc5 4 = .ok (.iload_n 0, 1) := by decide +kernel
theorem d5_5 : decode oc5 5 = .ok (.iload_n 1, 1) := by decide +kernel
theorem d5_6 : decode oc5 6 = .ok (.if_icmp .lt 10, 3) := by decide +kernel
theorem d5_16 : decode oc5 16 = .ok (.iload_n 0, 1) := by decide +kernel
theorem d5_17 : decode oc5 17 = .ok (.ireturn, 1) := by decide +kernel
theorem pn_64 : plainName "jdk/internal/util/Preconditions" = true := by first | (simp [plainName, overriddenIn]; done) | decide +kernel
theorem rm_ciL (l : Launch) (Z : State) (a0 : Array Value) (hw : HW Z a0) (ws : List Jvm.Cond) (p1 : Int32) (p2 : Int32) (fm : Value) (h0 : Heap) (n0 : Nat) (Z0 : n0 ≤ h0.size) (O0 : Old Z n0 h0) (hlo : ¬ p1 < 0) (hhi : p1 < p2) (hfm : fm.isRef = true) :
  Ctr l Z (⟨"jdk/internal/util/Preconditions", "checkIndex", "(IILjava/util/function/BiFunction;)I"⟩ : MethodName) oc5 3 ((Option.some Jvm.ClassFile.FieldType.int)) ws (⟨0, 0, 0, 0⟩ : Room) #[(.int p1), (.int p2), fm] h0 (fun v h L => v = some (.int p1) ∧ Fr n0 L ∧ h = h0) := by
 refine Ctr.go (plainFor_of_name pn_64) fun p e s m below meth c s₁ Bd hx hby hml hZ hown hnm X0 e0 => ?_
 have hq := And.intro hx hby
 have N0 := Fr.nil n0
 have K0 := Keep.refl h0 []
 refine gs (S' := s₁.setTop (mkF m 0 #[iv p1, iv p2, .val fm] [])) (fun tg kg => castTop (ef_55 m p1 p2 fm hfm) kg) ?_
 refine gs (fun _ k => ji X0 hq d5_0 rfl (jG X0 hq d5_1 ((if0 _ _).trans (flt hlo).1) (ji X0 hq d5_4 rfl (ji X0 hq d5_5 rfl (jh (pc' := 16) X0 hq d5_6 (tlt hhi).1 (ji X0 hq d5_16 rfl k)))))) ?_
 refine gout (v := some (.int p1)) X0 Bd.notSynchronized (jA Bd.returns) (by decide) (by decide) ?_ (fun fs hr => retI X0 hx Bd.returns (hb hby d5_17) hr)
 rw [e0]
 exact ⟨rfl, N0, rfl⟩
theorem ef_65 (m : MethodId) (x0 : Int32) (x1 : Int32) : entryFrame m #[(.int x0), (.int x1)] 2 = mkF m 0 #[.val (.int x0), .val (.int x1)] [] := by first | (simp [entryFrame, mkF, argsToLocals, Value.category]; done) | rfl
abbrev oc6 := jdk_42_method_155_code
theorem d6_0 : decode oc6 0 = .ok (.iload_n 0, 1) := by decide +kernel
theorem d6_1 : decode oc6 1 = .ok (.iload_n 1, 1) := by decide +kernel
theorem d6_2 : decode oc6 2 = .ok (.getstatic 1053, 3) := by decide +kernel
theorem d6_5 : decode oc6 5 = .ok (.invokestatic 1059, 3) := by decide +kernel
theorem pd_71 : parseMethodDescriptor "(IILjava/util/function/BiFunction;)I" = some ⟨[.int, .int, (.object "java/util/function/BiFunction")], some .int⟩ := by decide +kernel
theorem d6_8 : decode oc6 8 = .ok (.pop, 1) := by decide +kernel
theorem d6_9 : decode oc6 9 = .ok (.return_, 1) := by decide +kernel
theorem rm_sciL (l : Launch) (Z : State) (a0 : Array Value) (hw : HW Z a0) (ws : List Jvm.Cond) (p1 : Int32) (p2 : Int32) (fm : Value) (h0 : Heap) (n0 : Nat) (Z0 : n0 ≤ h0.size) (O0 : Old Z n0 h0) (hlo : ¬ p1 < 0) (hhi : p1 < p2) (S4 : PS2 Z fm) (hfm : fm.isRef = true) :
  Ctr l Z (⟨"java/lang/String", "checkIndex", "(II)V"⟩ : MethodName) oc6 2 ((Option.none : Option Jvm.ClassFile.FieldType)) ws (⟨1, 0, 0, 14⟩ : Room) #[(.int p1), (.int p2)] h0 (fun v h L => v = none ∧ Fr n0 L ∧ h = h0) := by
 refine Ctr.go (plainFor_of_name pn_15) fun p e s m below meth c s₁ Bd hx hby hml hZ hown hnm X0 e0 => ?_
 have hq := And.intro hx hby
 have N0 := Fr.nil n0
 have K0 := Keep.refl h0 []
 refine gs (S' := s₁.setTop (mkF m 0 #[iv p1, iv p2] [])) (fun tg kg => castTop (ef_65 m p1 p2) kg) ?_
 refine gs (fun _ k => ji X0 hq d6_0 rfl (ji X0 hq d6_1 rfl k)) ?_
 refine gS X0 hx hZ hown (host := "") (Or.inl (ow hw 247 rfl)) Via.refl e0 (S4.ext O0.2) hby d6_2 fun T1 X1 e1 => ?_
 refine cS (rest := []) X1 hx hZ hown (ow hw 249 rfl) (ow hw 250 rfl) (ow hw 248 rfl) (ow hw 251 rfl) (rm_ciL l Z a0 hw [] p1 p2 fm h0 n0 Z0 O0 hlo hhi hfm) hby d6_5 e1 pd_71 0 (by rw [hml]; rfl) rfl rfl rfl rfl (by decide) (by decide) fun _ T2 Lc2 X2 hQ2 => ?_
 obtain ⟨rfl, N2q, e2q⟩ := hQ2
 have N2 := Fr.app N0 N2q
 refine gs (fun _ k => jW X2 hq d6_8 rfl k) ?_
 refine gout (v := none) X2 Bd.notSynchronized (fun _ => rfl) (by decide) (by decide) ?_ (fun fs hr => X2.returnOut hx Bd.returns (hb hby d6_9) hr)
 rw [e2q]
 exact ⟨rfl, N2, rfl⟩
theorem ef_74 (m : MethodId) (x0 : Addr) (x1 : Int32) : entryFrame m #[(.ref x0), (.int x1)] 2 = mkF m 0 #[.val (.ref x0), .val (.int x1)] [] := by first | (simp [entryFrame, mkF, argsToLocals, Value.category]; done) | rfl
abbrev oc7 := jdk_43_method_2_code
theorem d7_0 : decode oc7 0 = .ok (.iload_n 1, 1) := by decide +kernel
theorem d7_1 : decode oc7 1 = .ok (.aload_n 0, 1) := by decide +kernel
theorem d7_2 : decode oc7 2 = .ok (.arraylength, 1) := by decide +kernel
theorem d7_3 : decode oc7 3 = .ok (.invokestatic 9, 3) := by decide +kernel
theorem pd_80 : parseMethodDescriptor "(II)V" = some ⟨[.int, .int], none⟩ := by decide +kernel
theorem d7_6 : decode oc7 6 = .ok (.aload_n 0, 1) := by decide +kernel
theorem d7_7 : decode oc7 7 = .ok (.iload_n 1, 1) := by decide +kernel
theorem d7_8 : decode oc7 8 = .ok (.baload, 1) := by decide +kernel
theorem d7_9 : decode oc7 9 = .ok (.sipush 255, 3) := by decide +kernel
theorem d7_12 : decode oc7 12 = .ok (.iand, 1) := by decide +kernel
theorem d7_13 : decode oc7 13 = .ok (.i2c, 1) := by decide +kernel
theorem d7_14 : decode oc7 14 = .ok (.ireturn, 1) := by decide +kernel
theorem pn_88 : plainName "java/lang/StringLatin1" = true := by first | (simp [plainName, overriddenIn]; done) | decide +kernel
theorem rm_lchL (l : Launch) (Z : State) (a0 : Array Value) (hw : HW Z a0) (ws : List Jvm.Cond) (u : Addr) (ku : ClassId) (cs : List Int32) (i : Nat) (fm : Value) (h0 : Heap) (n0 : Nat) (Z0 : n0 ≤ h0.size) (O0 : Old Z n0 h0) (V_u : Arv Z h0 u ku .byte (oI cs.length) (jE cs) (.int (0 : Int32))) (hbd : ∀ c ∈ cs, ¬ c < 0 ∧ ¬ (255 : Int32) < c) (hi : i < cs.length) (hl : cs.length ≤ 4000) (S4 : PS2 Z fm) (hfm : fm.isRef = true) :
  Ctr l Z (⟨"java/lang/StringLatin1", "charAt", "([BI)C"⟩ : MethodName) oc7 2 ((Option.some Jvm.ClassFile.FieldType.char)) ws (⟨2, 0, 0, 27⟩ : Room) #[(.ref u), (.int (oI i))] h0 (fun v h L => v = some (.int (cs.getD i 0)) ∧ Fr n0 L ∧ h = h0) := by
 refine Ctr.go (plainFor_of_name pn_88) fun p e s m below meth c s₁ Bd hx hby hml hZ hown hnm X0 e0 => ?_
 have hq := And.intro hx hby
 have N0 := Fr.nil n0
 have K0 := Keep.refl h0 []
 refine gs (S' := s₁.setTop (mkF m 0 #[rv u, iv (oI i)] [])) (fun tg kg => castTop (ef_74 m u (oI i)) kg) ?_
 refine gs (fun _ k => ji X0 hq d7_0 rfl (jb X0 hq d7_1 rfl rfl k)) ?_
 obtain ⟨cl1, A1, a1q, a1S, a1N, a1H, a1G⟩ := id V_u
 refine gs (S' := s₁.setTop (mkF m 3 #[rv u, iv (oI i)] [(.int (oI cs.length)), (.int (oI i))])) (fun _ k => by refine X0.arraylength hx (by rw [e0]; exact A1.1) (State.isArrayOf_alike hZ.alike A1.2.1) (g := (mkF m 2 #[rv u, iv (oI i)] [(.ref u), (.int (oI i))])) rfl rfl (hb hby d7_2) _ ?_; rw [len_of a1S a1N]; exact k) ?_
 refine cS (rest := []) X0 hx hZ hown (ow hw 244 rfl) (ow hw 245 rfl) (ow hw 7 rfl) (ow hw 246 rfl) (rm_sciL l Z a0 hw [] (oI i) (oI cs.length) fm h0 n0 Z0 O0 (jM (by omega)) (jX (by omega) hi) S4 hfm) hby d7_3 e0 pd_80 0 (by rw [hml]; rfl) rfl rfl rfl rfl (by decide) (by decide) fun _ T2 Lc2 X2 hQ2 => ?_
 obtain ⟨rfl, N2q, e2q⟩ := hQ2
 have N2 := Fr.app N0 N2q
 refine gs (fun _ k => jb X2 hq d7_6 rfl rfl (ji X2 hq d7_7 rfl k)) ?_
 obtain ⟨cl3, A3, a3q, a3S, a3N, a3H, a3G⟩ := id V_u
 have hi3 := inb_of a3S (j := (oI i)) ⟨jM (by omega), jX (by omega) hi⟩
 refine gs (fun _ k => X2.baloadBytes hx (j := (oI i)) (v := (.int ((cs.getD i 0).toInt8.toInt32))) (by rw [e2q]; exact A3.1) (State.isArrayOf_alike hZ.alike A3.2.1) A3.2.2 hi3 (Has.at a3H hi3 (by rw [jae (by omega)]; exact own_bvg cs i hi)) (g := (mkF m 8 #[rv u, iv (oI i)] [(.int (oI i)), (.ref u)])) rfl rfl (hb hby d7_8) _ (o_sipush (v := (255 : Int32)) X2 hq d7_9 (jab X2 hq d7_12 k))) ?_
 rw [own_chl (own_gmem cs hbd hi)]
 refine gs (fun _ k => o_i2c X2 hq d7_13 k) ?_
 rw [own_i2c (own_up1 (own_gmem cs hbd hi))]
 refine gout (v := some (.int (nar .char (cs.getD i 0)))) X2 Bd.notSynchronized (jA Bd.returns) (by decide) (by decide) ?_ (fun fs hr => retN X2 hx (t := .char) Bd.returns (by simp) (hb hby d7_14) hr)
 rw [e2q]
 exact ⟨congrArg (fun q => some (Value.int q)) (own_nc16 (own_up1 (own_gmem cs hbd hi))), N2, rfl⟩
abbrev oc8 := jdk_42_method_56_code
theorem d8_0 : decode oc8 0 = .ok (.aload_n 0, 1) := by decide +kernel
theorem d8_1 : decode oc8 1 = .ok (.invokevirtual 492, 3) := by decide +kernel
theorem pd_93 : parseMethodDescriptor "()Z" = some ⟨[], some .boolean⟩ := by decide +kernel
theorem d8_4 : decode oc8 4 = .ok (.ifCond .eq 12, 3) := by decide +kernel
theorem d8_7 : decode oc8 7 = .ok (.aload_n 0, 1) := by decide +kernel
theorem d8_8 : decode oc8 8 = .ok (.getfield 9, 3) := by decide +kernel
theorem d8_11 : decode oc8 11 = .ok (.iload_n 1, 1) := by decide +kernel
theorem d8_12 : decode oc8 12 = .ok (.invokestatic 495, 3) := by decide +kernel
theorem pd_99 : parseMethodDescriptor "([BI)C" = some ⟨[(.array .byte), .int], some .char⟩ := by decide +kernel
theorem d8_15 : decode oc8 15 = .ok (.ireturn, 1) := by decide +kernel
theorem rm_chL (l : Launch) (Z : State) (a0 : Array Value) (hw : HW Z a0) (ws : List Jvm.Cond) (x : Addr) (cs : List Int32) (i : Nat) (jx : Int32) (z : Int32) (fm : Value) (h0 : Heap) (n0 : Nat) (Z0 : n0 ≤ h0.size) (O0 : Old Z n0 h0) (T_x : Str Z h0 x cs) (hbd : ∀ c ∈ cs, ¬ c < 0 ∧ ¬ (255 : Int32) < c) (hi : i < cs.length) (hl : cs.length ≤ 4000) (hj : jx = (oI i)) (S0 : PS0 Z (.int z)) (hz : ¬ z = 0) (S4 : PS2 Z fm) (hfm : fm.isRef = true) :
  Ctr l Z (⟨"java/lang/String", "charAt", "(I)C"⟩ : MethodName) oc8 2 ((Option.some Jvm.ClassFile.FieldType.char)) ws (⟨3, 0, 0, 40⟩ : Room) #[(.ref x), (.int jx)] h0 (fun v h L => v = some (.int (cs.getD i 0)) ∧ Fr n0 L ∧ h = h0) := by
 refine Ctr.go (plainFor_of_name pn_15) fun p e s m below meth c s₁ Bd hx hby hml hZ hown hnm X0 e0 => ?_
 have hq := And.intro hx hby
 have N0 := Fr.nil n0
 have K0 := Keep.refl h0 []
 refine gs (S' := s₁.setTop (mkF m 0 #[rv x, iv jx] [])) (fun tg kg => castTop (ef_74 m x jx) kg) ?_
 obtain ⟨u, ku, E_x, F_cx, F_vx, V_u⟩ := id T_x
 rw [hj]
 refine gs (fun _ k => jb X0 hq d8_0 rfl rfl k) ?_
 refine cV (rest := []) X0 hx hZ hown (ow hw 236 rfl) (ow hw 237 rfl) (nfs hZ (ow hw 239 rfl)) (ow hw 239 rfl) (ow hw 238 rfl) (ow hw 7 rfl) (ow hw 240 rfl) (rm_sil l Z a0 hw [] x z h0 n0 Z0 O0 F_cx S0 hz) hby d8_1 e0 pd_93 0 (by rw [hml]; rfl) E_x rfl rfl rfl rfl (by decide) (by decide) fun _ T1 Lc1 X1 hQ1 => ?_
 obtain ⟨rfl, N1q, e1q⟩ := hQ1
 have N1 := Fr.app N0 N1q
 refine gs (fun _ k => jG X1 hq d8_4 ((if0 _ _).trans (feq (by decide : ¬ ((1 : Int32) = (0 : Int32)))).1) (jb X1 hq d8_7 rfl rfl k)) ?_
 refine gF X1 hx hZ hown (host := "") (Or.inl (ow hw 24 rfl)) Via.refl e1q F_vx hby d8_8 fun T2 X2 e2 => ?_
 refine gs (fun _ k => ji X2 hq d8_11 rfl k) ?_
 refine cS (rest := []) X2 hx hZ hown (ow hw 241 rfl) (ow hw 242 rfl) (ow hw 186 rfl) (ow hw 243 rfl) (rm_lchL l Z a0 hw [] u ku cs i fm h0 n0 Z0 O0 V_u hbd hi hl S4 hfm) hby d8_12 e2 pd_99 0 (by rw [hml]; rfl) rfl rfl rfl rfl (by decide) (by decide) fun _ T3 Lc3 X3 hQ3 => ?_
 obtain ⟨rfl, N3q, e3q⟩ := hQ3
 have N3 := Fr.app N1 N3q
 refine gout (v := some (.int (nar .char (cs.getD i 0)))) X3 Bd.notSynchronized (jA Bd.returns) (by decide) (by decide) ?_ (fun fs hr => retN X3 hx (t := .char) Bd.returns (by simp) (hb hby d8_15) hr)
 rw [e3q]
 exact ⟨congrArg (fun q => some (Value.int q)) (own_nc16 (own_up1 (own_gmem cs hbd hi))), N3, rfl⟩
theorem own_cvg (cs : List Int32) : ∀ i, i < cs.length → (cs.map Value.int).getD i (.int 0) = .int (cs.getD i 0) := by
 induction cs with
 | nil => intro i hi; exact absurd hi (Nat.not_lt_zero _)
 | cons c cs ih =>
  intro i hi
  cases i with
  | zero => rfl
  | succ i => exact ih i (Nat.lt_of_succ_lt_succ hi)
theorem own_tkS (xs : List Int32) {i : Nat} (hi : i < xs.length) : xs.take (i + 1) = xs.take i ++ [xs.getD i 0] := by
 rw [List.take_succ, List.getD_eq_getElem?_getD, List.getElem?_eq_getElem hi]; rfl
theorem own_cfl (x : Int32) : nar .byte (((((x - x).toUInt32 >>> ((31 : Int32) &&& 31).toUInt32).toInt32)).toInt8.toInt32) = 0 := by
 rw [show x - x = 0 from Int32.sub_self x]; decide
theorem ef_101 (m : MethodId) (x0 : Addr) (x1 : Int32) (x2 : Addr) (x3 : Int32) (x4 : Int32) : entryFrame m #[(.ref x0), (.int x1), (.ref x2), (.int x3), (.int x4)] 7 = mkF m 0 #[.val (.ref x0), .val (.int x1), .val (.ref x2), .val (.int x3), .val (.int x4), .unset, .unset] [] := by first | (simp [entryFrame, mkF, argsToLocals, Value.category]; done) | rfl
abbrev oc9 := jdk_52_method_21_code
theorem d9_0 : decode oc9 0 = .ok (.iconst 0, 1) := by decide +kernel
theorem d9_1 : decode oc9 1 = .ok (.istore 5, 2) := by decide +kernel
theorem d9_3 : decode oc9 3 = .ok (.iload 5, 2) := by decide +kernel
theorem d9_5 : decode oc9 5 = .ok (.iload 4, 2) := by decide +kernel
theorem d9_7 : decode oc9 7 = .ok (.if_icmp .ge 37, 3) := by decide +kernel
theorem d9_44 : decode oc9 44 = .ok (.iload 4, 2) := by decide +kernel
theorem d9_46 : decode oc9 46 = .ok (.ireturn, 1) := by decide +kernel
theorem d9_10 : decode oc9 10 = .ok (.aload_n 0, 1) := by decide +kernel
theorem d9_11 : decode oc9 11 = .ok (.iload_n 1, 1) := by decide +kernel
theorem d9_12 : decode oc9 12 = .ok (.caload, 1) := by decide +kernel
theorem d9_13 : decode oc9 13 = .ok (.istore 6, 2) := by decide +kernel
theorem d9_15 : decode oc9 15 = .ok (.iload 6, 2) := by decide +kernel
theorem d9_17 : decode oc9 17 = .ok (.sipush 255, 3) := by decide +kernel
theorem d9_20 : decode oc9 20 = .ok (.if_icmp .le 6, 3) := by decide +kernel
theorem d9_26 : decode oc9 26 = .ok (.aload_n 2, 1) := by decide +kernel
theorem d9_27 : decode oc9 27 = .ok (.iload_n 3, 1) := by decide +kernel
theorem d9_28 : decode oc9 28 = .ok (.iload 6, 2) := by decide +kernel
theorem d9_30 : decode oc9 30 = .ok (.i2b, 1) := by decide +kernel
theorem d9_31 : decode oc9 31 = .ok (.bastore, 1) := by decide +kernel
theorem d9_32 : decode oc9 32 = .ok (.iinc 1 1, 3) := by decide +kernel
theorem d9_35 : decode oc9 35 = .ok (.iinc 3 1, 3) := by decide +kernel
theorem d9_38 : decode oc9 38 = .ok (.iinc 5 1, 3) := by decide +kernel
theorem d9_41 : decode oc9 41 = .ok (.goto (-38), 3) := by decide +kernel
theorem pn_126 : plainName "java/lang/StringUTF16" = true := by first | (simp [plainName, overriddenIn]; done) | decide +kernel
theorem rm_c5L (l : Launch) (Z : State) (a0 : Array Value) (hw : HW Z a0) (ws : List Jvm.Cond) (b : Addr) (kc : ClassId) (cs : List Int32) (n : Nat) (t : Addr) (kb : ClassId) (h0 : Heap) (n0 : Nat) (Z0 : n0 ≤ h0.size) (O0 : Old Z n0 h0) (V_b : Arv Z h0 b kc .char (oI n) (cs.map Value.int) (.int (0 : Int32))) (hbd : ∀ c ∈ cs, ¬ c < 0 ∧ ¬ (255 : Int32) < c) (hcn : cs.length = n) (hn : n ≤ 127) (V_t : Arv Z h0 t kb .byte (oI n) [] (.int (0 : Int32))) (g_t : n0 ≤ t) (hbt : b ≠ t) :
  Ctr l Z (⟨"java/lang/StringUTF16", "compress", "([CI[BII)I"⟩ : MethodName) oc9 7 ((Option.some Jvm.ClassFile.FieldType.int)) ws (⟨0, 0, 0, 0⟩ : Room) #[(.ref b), (.int (0 : Int32)), (.ref t), (.int (0 : Int32)), (.int (oI n))] h0 (fun v h L => v = some (.int (oI n)) ∧ Fr n0 L ∧ Keep h0 h [t] ∧ Arv Z h t kb .byte (oI n) (jE cs) (.int (0 : Int32))) := by
 refine Ctr.go (plainFor_of_name pn_126) fun p e s m below meth c s₁ Bd hx hby hml hZ hown hnm X0 e0 => ?_
 have hq := And.intro hx hby
 have N0 := Fr.nil n0
 have K0 := Keep.refl h0 [t]
 refine gs (S' := s₁.setTop (mkF m 0 #[rv b, iv (0 : Int32), rv t, iv (0 : Int32), iv (oI n), uu, uu] [])) (fun tg kg => castTop (ef_101 m b (0 : Int32) t (0 : Int32) (oI n)) kg) ?_
 refine gs (fun _ k => jf (v := (0 : Int32)) X0 hq d9_0 (je X0 hq d9_1 (jj rfl) k)) ?_
 have lp : ∀ (r i : Nat) (w6 : Slot) (Tj : State) (lj : List Loc) (hj : Heap), (w6 = uu ∨ ∃ c6, w6 = iv c6) → i + r = n → Stand p l e (⟨0, 0, 0, 0⟩ : Room) s m #[(.ref b), (.int (0 : Int32)), (.ref t), (.int (0 : Int32)), (.int (oI n))] below meth c Tj lj 0 0 → Tj.heap = hj → Fr n0 lj → n0 ≤ hj.size → Old Z n0 hj → Keep h0 hj [t] → Arv Z hj t kb .byte (oI n) (jE (cs.take i)) (.int (0 : Int32)) → OwnGo p e below s (fun v h L => v = some (.int (oI n)) ∧ Fr n0 L ∧ Keep h0 h [t] ∧ Arv Z h t kb .byte (oI n) (jE cs) (.int (0 : Int32))) (⟨0, 0, 0, 0⟩ : Room).cells (⟨0, 0, 0, 0⟩ : Room).slots (Tj.setTop (mkF m 3 #[rv b, iv (oI i), rv t, iv (oI i), iv (oI n), iv (oI i), w6] [])) := by
  intro r
  induction r with
  | zero =>
   intro i w6 Tj lj hj h6 hi Xj ej Nj Zj Oj Kj Vj
   have Uj := V_b.keep Kj (ninS hbt nin0)
   have ei : i = cs.length := by omega
   rw [ei, List.take_length] at Vj
   refine gs (fun _ k => ja Xj hq d9_3 rfl (ja Xj hq d9_5 rfl (jh (pc' := 44) Xj hq d9_7 (flt (own_nlt32 (by omega) (by omega))).2.1 (ja Xj hq d9_44 rfl k)))) ?_
   refine gout (v := some (.int (oI n))) Xj Bd.notSynchronized (jA Bd.returns) (by decide) (by decide) ?_ (fun fs hr => retI Xj hx Bd.returns (hb hby d9_46) hr)
   rw [ej]
   exact ⟨rfl, Nj, Kj, Vj⟩
  | succ r ih =>
   intro i w6 Tj lj hj h6 hi Xj ej Nj Zj Oj Kj Vj
   have Uj := V_b.keep Kj (ninS hbt nin0)
   have hlt : i < cs.length := by omega
   rcases h6 with rfl | ⟨c6, rfl⟩
   ·refine gs (fun _ k => ja Xj hq d9_3 rfl (ja Xj hq d9_5 rfl (jm Xj hq d9_7 (tlt (jX (by omega) (by omega))).2.1 (jb Xj hq d9_10 rfl rfl (ji Xj hq d9_11 rfl k))))) ?_
    obtain ⟨cl1, A1, a1q, a1S, a1N, a1H, a1G⟩ := id Uj
    have hi1 := inb_of a1S (j := (oI i)) ⟨jM (by omega), jX (by omega) (by omega)⟩
    refine gs (fun _ k => Xj.caload hx (j := (oI i)) (v := (.int (cs.getD i 0))) (by rw [ej]; exact A1.1) (State.isArrayOf_alike hZ.alike A1.2.1) A1.2.2 hi1 (Has.at a1H hi1 (by rw [jae (by omega)]; exact own_cvg cs i hlt)) (g := (mkF m 12 #[rv b, iv (oI i), rv t, iv (oI i), iv (oI n), iv (oI i), uu] [(.int (oI i)), (.ref b)])) rfl rfl (hb hby d9_12) _ (je Xj hq d9_13 (jj rfl) (ja Xj hq d9_15 rfl (o_sipush (v := (255 : Int32)) Xj hq d9_17 (jh (pc' := 26) Xj hq d9_20 (flt (own_gmem cs hbd hlt).2).2.2.2 (jb Xj hq d9_26 rfl rfl (ji Xj hq d9_27 rfl (ja Xj hq d9_28 rfl (o_i2b Xj hq d9_30 k))))))))) ?_
    obtain ⟨cl2, A2, a2q, a2S, a2N, a2H, a2G⟩ := Vj.pad (vs' := jE (cs.take i) ++ [Value.int 0]) (own_pad1 _)
    obtain ⟨T2, h2, X2, e2, W2, st2⟩ := stB Xj hx hZ ej A2 (j := (oI i)) (inb_of a2S ⟨jM (by omega), jX (by omega) (by omega)⟩) (g := (mkF m 31 #[rv b, iv (oI i), rv t, iv (oI i), iv (oI n), iv (oI i), iv (cs.getD i 0)] [(.int ((cs.getD i 0).toInt8.toInt32)), (.int (oI i)), (.ref t)])) rfl rfl (hb hby d9_31)
    have hlk : (cs.take i).length = i := by rw [List.length_take]; omega
    have q2 := Arv.set A2 a2q a2S a2N a2H a2G (fits_nar_byte _) W2 i (jae (by omega)) (by simp; omega)
    have p2 := own_setlast (cs.take i) (cs.getD i 0)
    rw [hlk, ← own_tkS cs hlt] at p2
    rw [show (cs.getD i 0).toInt8.toInt32.toInt8.toInt32 = (cs.getD i 0).toInt8.toInt32 from own_narb _, p2] at q2
    have N2 := Fr.snoc X2 Nj g_t
    have Z3 := nt Zj (Keep.of_wr W2).1
    have O3 := Oj.wr W2 g_t
    have K3 := Kj.wr W2 (Or.inl (List.mem_of_getElem? (i := 0) rfl))
    refine gs (S' := T2.setTop (mkF m 32 #[rv b, iv (oI i), rv t, iv (oI i), iv (oI n), iv (oI i), iv (cs.getD i 0)] [])) st2 ?_
    refine gs (fun _ k => o_iinc X2 hq d9_32 rfl (o_iinc X2 hq d9_35 rfl (o_iinc X2 hq d9_38 rfl k))) ?_
    show OwnGo p e below s _ _ _ (T2.setTop (mkF m 41 #[rv b, iv (((oI i) + (1 : Int32))), rv t, iv (((oI i) + (1 : Int32))), iv (oI n), iv (((oI i) + (1 : Int32))), iv (cs.getD i 0)] []))
    rw [jk i]
    refine gs (fun _ k => jp (pc' := 3) X2 hq d9_41 k) ?_
    exact ih (i + 1) _ T2 _ h2 (Or.inr ⟨_, rfl⟩) (by omega) X2 e2 N2 Z3 O3 K3 q2
   ·refine gs (fun _ k => ja Xj hq d9_3 rfl (ja Xj hq d9_5 rfl (jm Xj hq d9_7 (tlt (jX (by omega) (by omega))).2.1 (jb Xj hq d9_10 rfl rfl (ji Xj hq d9_11 rfl k))))) ?_
    obtain ⟨cl4, A4, a4q, a4S, a4N, a4H, a4G⟩ := id Uj
    have hi4 := inb_of a4S (j := (oI i)) ⟨jM (by omega), jX (by omega) (by omega)⟩
    refine gs (fun _ k => Xj.caload hx (j := (oI i)) (v := (.int (cs.getD i 0))) (by rw [ej]; exact A4.1) (State.isArrayOf_alike hZ.alike A4.2.1) A4.2.2 hi4 (Has.at a4H hi4 (by rw [jae (by omega)]; exact own_cvg cs i hlt)) (g := (mkF m 12 #[rv b, iv (oI i), rv t, iv (oI i), iv (oI n), iv (oI i), iv c6] [(.int (oI i)), (.ref b)])) rfl rfl (hb hby d9_12) _ (je Xj hq d9_13 (jF rfl rfl) (ja Xj hq d9_15 rfl (o_sipush (v := (255 : Int32)) Xj hq d9_17 (jh (pc' := 26) Xj hq d9_20 (flt (own_gmem cs hbd hlt).2).2.2.2 (jb Xj hq d9_26 rfl rfl (ji Xj hq d9_27 rfl (ja Xj hq d9_28 rfl (o_i2b Xj hq d9_30 k))))))))) ?_
    obtain ⟨cl5, A5, a5q, a5S, a5N, a5H, a5G⟩ := Vj.pad (vs' := jE (cs.take i) ++ [Value.int 0]) (own_pad1 _)
    obtain ⟨T5, h5, X5, e5, W5, st5⟩ := stB Xj hx hZ ej A5 (j := (oI i)) (inb_of a5S ⟨jM (by omega), jX (by omega) (by omega)⟩) (g := (mkF m 31 #[rv b, iv (oI i), rv t, iv (oI i), iv (oI n), iv (oI i), iv (cs.getD i 0)] [(.int ((cs.getD i 0).toInt8.toInt32)), (.int (oI i)), (.ref t)])) rfl rfl (hb hby d9_31)
    have hlk : (cs.take i).length = i := by rw [List.length_take]; omega
    have q5 := Arv.set A5 a5q a5S a5N a5H a5G (fits_nar_byte _) W5 i (jae (by omega)) (by simp; omega)
    have p5 := own_setlast (cs.take i) (cs.getD i 0)
    rw [hlk, ← own_tkS cs hlt] at p5
    rw [show (cs.getD i 0).toInt8.toInt32.toInt8.toInt32 = (cs.getD i 0).toInt8.toInt32 from own_narb _, p5] at q5
    have N5 := Fr.snoc X5 Nj g_t
    have Z6 := nt Zj (Keep.of_wr W5).1
    have O6 := Oj.wr W5 g_t
    have K6 := Kj.wr W5 (Or.inl (List.mem_of_getElem? (i := 0) rfl))
    refine gs (S' := T5.setTop (mkF m 32 #[rv b, iv (oI i), rv t, iv (oI i), iv (oI n), iv (oI i), iv (cs.getD i 0)] [])) st5 ?_
    refine gs (fun _ k => o_iinc X5 hq d9_32 rfl (o_iinc X5 hq d9_35 rfl (o_iinc X5 hq d9_38 rfl k))) ?_
    show OwnGo p e below s _ _ _ (T5.setTop (mkF m 41 #[rv b, iv (((oI i) + (1 : Int32))), rv t, iv (((oI i) + (1 : Int32))), iv (oI n), iv (((oI i) + (1 : Int32))), iv (cs.getD i 0)] []))
    rw [jk i]
    refine gs (fun _ k => jp (pc' := 3) X5 hq d9_41 k) ?_
    exact ih (i + 1) _ T5 _ h5 (Or.inr ⟨_, rfl⟩) (by omega) X5 e5 N5 Z6 O6 K6 q5
 exact lp n 0 _ s₁ _ h0 (Or.inl rfl) (by omega) X0 e0 N0 Z0 O0 K0 V_t
theorem ef_127 (m : MethodId) (x0 : Addr) (x1 : Int32) (x2 : Int32) : entryFrame m #[(.ref x0), (.int x1), (.int x2)] 6 = mkF m 0 #[.val (.ref x0), .val (.int x1), .val (.int x2), .unset, .unset, .unset] [] := by first | (simp [entryFrame, mkF, argsToLocals, Value.category]; done) | rfl
abbrev oc10 := jdk_52_method_16_code
theorem d10_0 : decode oc10 0 = .ok (.iload_n 2, 1) := by decide +kernel
theorem d10_1 : decode oc10 1 = .ok (.newarray .byte, 2) := by decide +kernel
theorem d10_3 : decode oc10 3 = .ok (.astore_n 3, 1) := by decide +kernel
theorem d10_4 : decode oc10 4 = .ok (.aload_n 0, 1) := by decide +kernel
theorem d10_5 : decode oc10 5 = .ok (.iload_n 1, 1) := by decide +kernel
theorem d10_6 : decode oc10 6 = .ok (.aload_n 3, 1) := by decide +kernel
theorem d10_7 : decode oc10 7 = .ok (.iconst 0, 1) := by decide +kernel
theorem d10_8 : decode oc10 8 = .ok (.iload_n 2, 1) := by decide +kernel
theorem d10_9 : decode oc10 9 = .ok (.invokestatic 115, 3) := by decide +kernel
theorem pd_138 : parseMethodDescriptor "([CI[BII)I" = some ⟨[(.array .char), .int, (.array .byte), .int, .int], some .int⟩ := by decide +kernel
theorem d10_12 : decode oc10 12 = .ok (.istore 4, 2) := by decide +kernel
theorem d10_14 : decode oc10 14 = .ok (.iload 4, 2) := by decide +kernel
theorem d10_16 : decode oc10 16 = .ok (.iload_n 2, 1) := by decide +kernel
theorem d10_17 : decode oc10 17 = .ok (.if_icmp .eq 40, 3) := by decide +kernel
theorem d10_57 : decode oc10 57 = .ok (.aload_n 3, 1) := by decide +kernel
theorem d10_58 : decode oc10 58 = .ok (.areturn, 1) := by decide +kernel
theorem rm_c3L (l : Launch) (Z : State) (a0 : Array Value) (hw : HW Z a0) (ws : List Jvm.Cond) (b : Addr) (kc : ClassId) (cs : List Int32) (n : Nat) (h0 : Heap) (n0 : Nat) (Z0 : n0 ≤ h0.size) (O0 : Old Z n0 h0) (V_b : Arv Z h0 b kc .char (oI n) (cs.map Value.int) (.int (0 : Int32))) (hbd : ∀ c ∈ cs, ¬ c < 0 ∧ ¬ (255 : Int32) < c) (hcn : cs.length = n) (hn : n ≤ 127) :
  Ctr l Z (⟨"java/lang/StringUTF16", "compress", "([CII)[B"⟩ : MethodName) oc10 6 ((Option.some (Jvm.ClassFile.FieldType.array Jvm.ClassFile.FieldType.byte))) ws (⟨1, 1, 127, 18⟩ : Room) #[(.ref b), (.int (0 : Int32)), (.int (oI n))] h0 (fun v h L => ∃ (t1 : Addr) (k1 : ClassId), v = some (.ref t1) ∧ Fr n0 L ∧ Keep h0 h [] ∧ h0.size ≤ t1 ∧ Arv Z h t1 k1 .byte (oI n) (jE cs) (.int (0 : Int32))) := by
 refine Ctr.go (plainFor_of_name pn_126) fun p e s m below meth c s₁ Bd hx hby hml hZ hown hnm X0 e0 => ?_
 have hq := And.intro hx hby
 have N0 := Fr.nil n0
 have K0 := Keep.refl h0 []
 refine gs (S' := s₁.setTop (mkF m 0 #[rv b, iv (0 : Int32), iv (oI n), uu, uu, uu] [])) (fun tg kg => castTop (ef_127 m b (0 : Int32) (oI n)) kg) ?_
 refine gs (fun _ k => ji X0 hq d10_0 rfl k) ?_
 obtain ⟨T1, h1, k1, X1, e1, E1, A1, st1⟩ := newP X0 hx hZ (ow hw 19 rfl) e0 (g := (mkF m 1 #[rv b, iv (0 : Int32), iv (oI n), uu, uu, uu] [(.int (oI n))])) rfl (hb hby d10_1) rfl (jM (by omega)) (cap := 127) (own_nc hn (by omega)) (by decide) (by decide) (by decide)
 obtain ⟨b1, q1⟩ : ∃ z, z = h0.size := ⟨_, rfl⟩
 rw [← q1] at A1 st1
 have g_b1 : n0 ≤ b1 := nt Z0 (Nat.le_of_eq q1.symm)
 have sz_b1 : h0.size ≤ b1 := nt K0.1 (Nat.le_of_eq q1.symm)
 have Z2 := nt Z0 E1.1
 have O2 := O0.ext E1
 have K2 := K0.ext E1
 have V1 : Arv Z h1 b1 k1 .byte (oI n) [] (.int (0 : Int32)) := Arv.new A1 (jM (by omega))
 refine gs (S' := T1.setTop (mkF m 3 #[rv b, iv (0 : Int32), iv (oI n), uu, uu, uu] [(.ref b1)])) st1 ?_
 refine gs (fun _ k => jR X1 hq d10_3 rfl (jj rfl) (jb X1 hq d10_4 rfl rfl (ji X1 hq d10_5 rfl (jb X1 hq d10_6 rfl rfl (jf (v := (0 : Int32)) X1 hq d10_7 (ji X1 hq d10_8 rfl k)))))) ?_
 have f3 := (V_b.ext E1)
 refine cS (rest := []) X1 hx hZ hown (ow hw 256 rfl) (ow hw 257 rfl) (ow hw 254 rfl) (ow hw 258 rfl) (rm_c5L l Z a0 hw [] b kc cs n b1 k1 h1 n0 Z2 O2 f3 hbd hcn hn V1 g_b1 (nw (nu (nu V_b.lt (Nat.le_refl _)) (Nat.le_of_eq q1.symm)))) hby d10_9 e1 pd_138 0 (by rw [hml]; rfl) rfl rfl rfl rfl (by decide) (by decide) fun _ T4 Lc4 X4 hQ4 => ?_
 obtain ⟨rfl, N4q, K4q, V4q⟩ := hQ4
 have N4 := Fr.app N0 N4q
 have Z5 := nt Z2 K4q.1
 have O5 := O2.keep K4q (allS g_b1 all0)
 have K5 := K2.trans K4q (allS (Or.inr sz_b1) all0)
 refine gs (fun _ k => je X4 hq d10_12 (jj rfl) (ja X4 hq d10_14 rfl (ji X4 hq d10_16 rfl (jh (pc' := 57) X4 hq d10_17 (teq (rfl : (oI n) = (oI n))).1 (jb X4 hq d10_57 rfl rfl k))))) ?_
 refine gout (v := some (.ref b1)) X4 Bd.notSynchronized (jA Bd.returns) (by decide) (by decide) ?_ (fun fs hr => retOut X4 hx Bd.returns rfl (Or.inr (Or.inr (Or.inr (Or.inr ⟨rfl, rfl, rfl⟩)))) (hb hby d10_58) hr)
 exact ⟨_, _, rfl, N4, K5, sz_b1, V4q⟩
abbrev oc11 := jdk_52_method_15_code
theorem d11_0 : decode oc11 0 = .ok (.iload_n 1, 1) := by decide +kernel
theorem d11_1 : decode oc11 1 = .ok (.aload_n 0, 1) := by decide +kernel
theorem d11_2 : decode oc11 2 = .ok (.arraylength, 1) := by decide +kernel
theorem d11_3 : decode oc11 3 = .ok (.isub, 1) := by decide +kernel
theorem d11_4 : decode oc11 4 = .ok (.bipush 31, 2) := by decide +kernel
theorem d11_6 : decode oc11 6 = .ok (.iushr, 1) := by decide +kernel
theorem d11_7 : decode oc11 7 = .ok (.i2b, 1) := by decide +kernel
theorem d11_8 : decode oc11 8 = .ok (.ireturn, 1) := by decide +kernel
theorem rm_cflL (l : Launch) (Z : State) (a0 : Array Value) (hw : HW Z a0) (ws : List Jvm.Cond) (t : Addr) (kb : ClassId) (vs : List Value) (n : Nat) (h0 : Heap) (n0 : Nat) (Z0 : n0 ≤ h0.size) (O0 : Old Z n0 h0) (V_t : Arv Z h0 t kb .byte (oI n) vs (.int (0 : Int32))) :
  Ctr l Z (⟨"java/lang/StringUTF16", "coderFromArrayLen", "([BI)B"⟩ : MethodName) oc11 2 ((Option.some Jvm.ClassFile.FieldType.byte)) ws (⟨0, 0, 0, 0⟩ : Room) #[(.ref t), (.int (oI n))] h0 (fun v h L => v = some (.int (0 : Int32)) ∧ Fr n0 L ∧ h = h0) := by
 refine Ctr.go (plainFor_of_name pn_126) fun p e s m below meth c s₁ Bd hx hby hml hZ hown hnm X0 e0 => ?_
 have hq := And.intro hx hby
 have N0 := Fr.nil n0
 have K0 := Keep.refl h0 []
 refine gs (S' := s₁.setTop (mkF m 0 #[rv t, iv (oI n)] [])) (fun tg kg => castTop (ef_74 m t (oI n)) kg) ?_
 refine gs (fun _ k => ji X0 hq d11_0 rfl (jb X0 hq d11_1 rfl rfl k)) ?_
 obtain ⟨cl1, A1, a1q, a1S, a1N, a1H, a1G⟩ := id V_t
 refine gs (S' := s₁.setTop (mkF m 3 #[rv t, iv (oI n)] [(.int (oI n)), (.int (oI n))])) (fun _ k => by refine X0.arraylength hx (by rw [e0]; exact A1.1) (State.isArrayOf_alike hZ.alike A1.2.1) (g := (mkF m 2 #[rv t, iv (oI n)] [(.ref t), (.int (oI n))])) rfl rfl (hb hby d11_2) _ ?_; rw [len_of a1S a1N]; exact k) ?_
 refine gs (fun _ k => o_isub X0 hq d11_3 (jz (v := (31 : Int32)) X0 hq d11_4 (o_iushr X0 hq d11_6 (o_i2b X0 hq d11_7 k)))) ?_
 refine gout (v := some (.int (nar .byte (((((oI n) - (oI n)).toUInt32 >>> ((31 : Int32) &&& 31).toUInt32).toInt32).toInt8.toInt32)))) X0 Bd.notSynchronized (jA Bd.returns) (by decide) (by decide) ?_ (fun fs hr => retN X0 hx (t := .byte) Bd.returns (by simp) (hb hby d11_8) hr)
 rw [e0]
 exact ⟨congrArg (fun q => some (Value.int q)) (own_cfl _), N0, rfl⟩
theorem d0_27 : decode oc0 27 = .ok (.getstatic 38, 3) := by decide +kernel
theorem d0_30 : decode oc0 30 = .ok (.ifCond .eq 28, 3) := by decide +kernel
theorem d0_33 : decode oc0 33 = .ok (.aload_n 1, 1) := by decide +kernel
theorem d0_34 : decode oc0 34 = .ok (.iload_n 2, 1) := by decide +kernel
theorem d0_35 : decode oc0 35 = .ok (.iload_n 3, 1) := by decide +kernel
theorem d0_36 : decode oc0 36 = .ok (.invokestatic 177, 3) := by decide +kernel
theorem pd_162 : parseMethodDescriptor "([CII)[B" = some ⟨[(.array .char), .int, .int], some (.array .byte)⟩ := by decide +kernel
theorem d0_39 : decode oc0 39 = .ok (.astore 5, 2) := by decide +kernel
theorem d0_41 : decode oc0 41 = .ok (.aload_n 0, 1) := by decide +kernel
theorem d0_42 : decode oc0 42 = .ok (.aload 5, 2) := by decide +kernel
theorem d0_44 : decode oc0 44 = .ok (.iload_n 3, 1) := by decide +kernel
theorem d0_45 : decode oc0 45 = .ok (.invokestatic 47, 3) := by decide +kernel
theorem pd_168 : parseMethodDescriptor "([BI)B" = some ⟨[(.array .byte), .int], some .byte⟩ := by decide +kernel
theorem d0_48 : decode oc0 48 = .ok (.putfield 15, 3) := by decide +kernel
theorem d0_51 : decode oc0 51 = .ok (.aload_n 0, 1) := by decide +kernel
theorem d0_52 : decode oc0 52 = .ok (.aload 5, 2) := by decide +kernel
theorem d0_54 : decode oc0 54 = .ok (.putfield 9, 3) := by decide +kernel
theorem d0_57 : decode oc0 57 = .ok (.return_, 1) := by decide +kernel
theorem rm_s4L (l : Launch) (Z : State) (a0 : Array Value) (hw : HW Z a0) (ws : List Jvm.Cond) (a : Addr) (b : Addr) (kc : ClassId) (cs : List Int32) (n : Nat) (z : Int32) (h0 : Heap) (n0 : Nat) (Z0 : n0 ≤ h0.size) (O0 : Old Z n0 h0) (E_a : Exa Z h0 a "java/lang/String") (F_va : Fld Z h0 a "java/lang/String" "value" "[B" .null) (F_ca : Fld Z h0 a "java/lang/String" "coder" "B" (.int (0 : Int32))) (g_a : n0 ≤ a) (V_b : Arv Z h0 b kc .char (oI n) (cs.map Value.int) (.int (0 : Int32))) (hbd : ∀ c ∈ cs, ¬ c < 0 ∧ ¬ (255 : Int32) < c) (hcn : cs.length = n) (hn : n ≤ 127) (hn0 : ¬ n = 0) (S0 : PS0 Z (.int z)) (hz : ¬ z = 0) :
  Ctr l Z my14 oc0 6 ((Option.none : Option Jvm.ClassFile.FieldType)) ws (⟨2, 1, 127, 35⟩ : Room) #[(.ref a), (.ref b), (.int (0 : Int32)), (.int (oI n)), .null] h0 (fun v h L => v = none ∧ Fr n0 L ∧ Keep h0 h [a] ∧ Str Z h a cs) := by
 refine Ctr.go (plainFor_of_name pn_15) fun p e s m below meth c s₁ Bd hx hby hml hZ hown hnm X0 e0 => ?_
 have hq := And.intro hx hby
 have N0 := Fr.nil n0
 have K0 := Keep.refl h0 [a]
 refine gs (S' := s₁.setTop (mkF m 0 #[rv a, rv b, iv (0 : Int32), iv (oI n), .val .null, uu] [])) (fun tg kg => castTop (ef_0 m a b (0 : Int32) (oI n)) kg) ?_
 refine gs (fun _ k => jb X0 hq d0_0 rfl rfl k) ?_
 obtain ⟨T1, X1, e1, st1⟩ := initO X0 hx hZ hown (ow hw 15 rfl) (ow hw 16 rfl) (ow hw 17 rfl) e0 (g := (mkF m 1 #[rv a, rv b, iv (0 : Int32), iv (oI n), .val .null, uu] [(.ref a)])) rfl (by rw [hml]; rfl) rfl (hb hby d0_1) (by decide) (W := 0) (jL rfl) (by decide)
 refine gs (S' := T1.setTop (mkF m 4 #[rv a, rv b, iv (0 : Int32), iv (oI n), .val .null, uu] [])) st1 ?_
 refine gs (fun _ k => ji X1 hq d0_4 rfl (jI (pc' := 27) X1 hq d0_5 ((if0 _ _).trans (feq (jaf (b := 0) (by omega) (by omega) hn0)).2) k)) ?_
 refine gS X1 hx hZ hown (host := "") (Or.inl (ow hw 65 rfl)) Via.refl e1 (S0.ext O0.2) hby d0_27 fun T2 X2 e2 => ?_
 refine gs (fun _ k => jG X2 hq d0_30 ((if0 _ _).trans (feq hz).1) (jb X2 hq d0_33 rfl rfl (ji X2 hq d0_34 rfl (ji X2 hq d0_35 rfl k)))) ?_
 refine cS (rest := []) X2 hx hZ hown (ow hw 252 rfl) (ow hw 253 rfl) (ow hw 254 rfl) (ow hw 255 rfl) (rm_c3L l Z a0 hw [] b kc cs n h0 n0 Z0 O0 V_b hbd hcn hn) hby d0_36 e2 pd_162 0 (by rw [hml]; rfl) rfl rfl rfl rfl (by decide) (by decide) fun _ T3 Lc3 X3 hQ3 => ?_
 obtain ⟨t3, kb3, rfl, N3q, K3q, g3t, V3q⟩ := hQ3
 have N3 := Fr.app N0 N3q
 have g_t3 : n0 ≤ t3 := nt Z0 g3t
 have sz_t3 : h0.size ≤ t3 := nt K0.1 g3t
 have Z4 := nt Z0 K3q.1
 have O4 := O0.keep K3q all0
 have K4 := K0.trans K3q all0
 refine gs (fun _ k => jQ X3 hq d0_39 rfl (jj rfl) (jb X3 hq d0_41 rfl rfl (jy X3 hq d0_42 rfl rfl (ji X3 hq d0_44 rfl k)))) ?_
 refine cS (rest := [(.ref a)]) X3 hx hZ hown (ow hw 259 rfl) (ow hw 260 rfl) (ow hw 254 rfl) (ow hw 261 rfl) (rm_cflL l Z a0 hw [] t3 kb3 _ n T3.heap n0 Z4 O4 V3q) hby d0_45 rfl pd_168 1 (by rw [hml]; rfl) rfl rfl rfl rfl (by decide) (by decide) fun _ T5 Lc5 X5 hQ5 => ?_
 obtain ⟨rfl, N5q, e5q⟩ := hQ5
 have N5 := Fr.app N3 N5q
 have f6 := (F_ca.keep K3q nin0)
 have f7 := (E_a.keep K3q)
 obtain ⟨T8, h8, X8, e8, W8, st8⟩ := putFN X5 hx hZ hown (ow hw 25 rfl) Via.refl e5q f6 f7 (Or.inr ⟨(ow hw 21 rfl), rfl, hnm⟩) (ow hw 6 rfl) (ty := .byte) (v' := (.int (0 : Int32))) (by decide) rfl rfl (g := (mkF m 48 #[rv a, rv b, iv (0 : Int32), iv (oI n), .val .null, rv t3] [(.int (0 : Int32)), (.ref a)])) rfl rfl (hb hby d0_48)
 have N8 := Fr.snoc X8 N5 g_a
 have Fw8 := f6.same W8
 have Z9 := nt Z4 (Keep.of_wr W8).1
 have O9 := O4.wr W8 g_a
 have K9 := K4.wr W8 (Or.inl (List.mem_of_getElem? (i := 0) rfl))
 refine gs (S' := T8.setTop (mkF m 51 #[rv a, rv b, iv (0 : Int32), iv (oI n), .val .null, rv t3] [])) st8 ?_
 refine gs (fun _ k => jb X8 hq d0_51 rfl rfl (jy X8 hq d0_52 rfl rfl k)) ?_
 have f10 := ((F_va.keep K3q nin0).other W8 (Or.inr (slot_ne (Or.inr (ow hw 20 rfl)) (Or.inr (ow hw 21 rfl)) (by decide) (t := (.array .byte)) (t' := .byte) (by decide) (by decide))))
 have f11 := (f7.wr W8)
 obtain ⟨T12, h12, X12, e12, W12, st12⟩ := putF X8 hx hZ hown (host := "") (Or.inl (ow hw 24 rfl)) Via.refl e8 f10 f11 (Or.inr ⟨(ow hw 20 rfl), rfl, hnm⟩) (ow hw 6 rfl) (ty := (.array .byte)) (by decide) rfl rfl (g := (mkF m 54 #[rv a, rv b, iv (0 : Int32), iv (oI n), .val .null, rv t3] [(.ref t3), (.ref a)])) rfl rfl (hb hby d0_54)
 have N12 := Fr.snoc X12 N8 g_a
 have Fw12 := f10.same W12
 have Z13 := nt Z9 (Keep.of_wr W12).1
 have O13 := O9.wr W12 g_a
 have K13 := K9.wr W12 (Or.inl (List.mem_of_getElem? (i := 0) rfl))
 refine gs (S' := T12.setTop (mkF m 57 #[rv a, rv b, iv (0 : Int32), iv (oI n), .val .null, rv t3] [])) st12 ?_
 have f14 := (f11.wr W12)
 have f15 := (Fw8.other W12 (Or.inr (slot_ne (Or.inr (ow hw 21 rfl)) (Or.inr (ow hw 20 rfl)) (by decide) (t := .byte) (t' := (.array .byte)) (by decide) (by decide))))
 have f16 := ((V3q.other W8 (Ne.symm (nw (nu (nu E_a.lt (Nat.le_refl _)) g3t)))).other W12 (Ne.symm (nw (nu (nu E_a.lt (Nat.le_refl _)) g3t))))
 refine gout (v := none) X12 Bd.notSynchronized (fun _ => rfl) (by decide) (by decide) ?_ (fun fs hr => X12.returnOut hx Bd.returns (hb hby d0_57) hr)
 rw [e12]
 exact ⟨rfl, N12, K13, _, _, f14, f15, Fw12, by rw [hcn]; exact f16⟩
theorem rm_s1L (l : Launch) (Z : State) (a0 : Array Value) (hw : HW Z a0) (ws : List Jvm.Cond) (a : Addr) (b : Addr) (kc : ClassId) (cs : List Int32) (n : Nat) (z : Int32) (h0 : Heap) (n0 : Nat) (Z0 : n0 ≤ h0.size) (O0 : Old Z n0 h0) (E_a : Exa Z h0 a "java/lang/String") (F_va : Fld Z h0 a "java/lang/String" "value" "[B" .null) (F_ca : Fld Z h0 a "java/lang/String" "coder" "B" (.int (0 : Int32))) (g_a : n0 ≤ a) (V_b : Arv Z h0 b kc .char (oI n) (cs.map Value.int) (.int (0 : Int32))) (hbd : ∀ c ∈ cs, ¬ c < 0 ∧ ¬ (255 : Int32) < c) (hcn : cs.length = n) (hn : n ≤ 127) (hn0 : ¬ n = 0) (S0 : PS0 Z (.int z)) (hz : ¬ z = 0) :
  Ctr l Z my15 oc1 2 ((Option.none : Option Jvm.ClassFile.FieldType)) ws (⟨3, 1, 127, 52⟩ : Room) #[(.ref a), (.ref b)] h0 (fun v h L => v = none ∧ Fr n0 L ∧ Keep h0 h [a] ∧ Str Z h a cs) := by
 refine Ctr.go (plainFor_of_name pn_15) fun p e s m below meth c s₁ Bd hx hby hml hZ hown hnm X0 e0 => ?_
 have hq := And.intro hx hby
 have N0 := Fr.nil n0
 have K0 := Keep.refl h0 [a]
 refine gs (S' := s₁.setTop (mkF m 0 #[rv a, rv b] [])) (fun tg kg => castTop (ef_16 m a b) kg) ?_
 refine gs (fun _ k => jb X0 hq d1_0 rfl rfl (jb X0 hq d1_1 rfl rfl (jf (v := (0 : Int32)) X0 hq d1_2 (jb X0 hq d1_3 rfl rfl k)))) ?_
 obtain ⟨cl1, A1, a1q, a1S, a1N, a1H, a1G⟩ := id V_b
 refine gs (S' := s₁.setTop (mkF m 5 #[rv a, rv b] [(.int (oI n)), (.int (0 : Int32)), (.ref b), (.ref a)])) (fun _ k => by refine X0.arraylength hx (by rw [e0]; exact A1.1) (State.isArrayOf_alike hZ.alike A1.2.1) (g := (mkF m 4 #[rv a, rv b] [(.ref b), (.int (0 : Int32)), (.ref b), (.ref a)])) rfl rfl (hb hby d1_4) _ ?_; rw [len_of a1S a1N]; exact k) ?_
 refine gs (fun _ k => o_aconstNull X0 hq d1_5 k) ?_
 refine cI (rest := []) X0 hx hZ hown rfl (ow hw 11 rfl) (ow hw 12 rfl) (ow hw 7 rfl) (ow hw 14 rfl) (rm_s4L l Z a0 hw [] a b kc cs n z h0 n0 Z0 O0 E_a F_va F_ca g_a V_b hbd hcn hn hn0 S0 hz) hby d1_6 e0 pd_25 0 (by rw [hml]; rfl) rfl rfl rfl rfl (by decide) (by decide) fun _ T2 Lc2 X2 hQ2 => ?_
 obtain ⟨rfl, N2q, K2q, T2q⟩ := hQ2
 have N2 := Fr.app N0 N2q
 have Z3 := nt Z0 K2q.1
 have O3 := O0.keep K2q (allS g_a all0)
 have K3 := K0.trans K2q (allS (Or.inl (List.mem_of_getElem? (i := 0) rfl)) all0)
 refine gout (v := none) X2 Bd.notSynchronized (fun _ => rfl) (by decide) (by decide) ?_ (fun fs hr => X2.returnOut hx Bd.returns (hb hby d1_9) hr)
 exact ⟨rfl, N2, K3, T2q⟩
theorem own_nchar {x : Int32} (h : ¬ x < 0 ∧ ¬ (255 : Int32) < x) : nar .char x = x := by
 have a := c_i2c x
 have e : (255 : Int32).toInt = 255 := by decide
 have z : (0 : Int32).toInt = 0 := by decide
 show x.toUInt32.toUInt16.toUInt32.toInt32 = x
 simp only [Int32.lt_iff_toInt_lt] at h
 rw [← Int32.toInt_inj]
 omega
theorem ef_175 (m : MethodId) (x0 : Addr) (x1 : Int32) : entryFrame m #[(.ref x0), (.int x1)] 4 = mkF m 0 #[.val (.ref x0), .val (.int x1), .unset, .unset] [] := by first | (simp [entryFrame, mkF, argsToLocals, Value.category]; done) | rfl
abbrev oc12 := jdk_65_method_109_code
theorem d12_0 : decode oc12 0 = .ok (.iconst 0, 1) := by decide +kernel
theorem d12_1 : decode oc12 1 = .ok (.istore_n 2, 1) := by decide +kernel
theorem d12_2 : decode oc12 2 = .ok (.aload_n 0, 1) := by decide +kernel
theorem d12_3 : decode oc12 3 = .ok (.arraylength, 1) := by decide +kernel
theorem d12_4 : decode oc12 4 = .ok (.istore_n 3, 1) := by decide +kernel
theorem d12_5 : decode oc12 5 = .ok (.iload_n 2, 1) := by decide +kernel
theorem d12_6 : decode oc12 6 = .ok (.iload_n 3, 1) := by decide +kernel
theorem d12_7 : decode oc12 7 = .ok (.if_icmp .ge 13, 3) := by decide +kernel
theorem d12_20 : decode oc12 20 = .ok (.return_, 1) := by decide +kernel
theorem d12_10 : decode oc12 10 = .ok (.aload_n 0, 1) := by decide +kernel
theorem d12_11 : decode oc12 11 = .ok (.iload_n 2, 1) := by decide +kernel
theorem d12_12 : decode oc12 12 = .ok (.iload_n 1, 1) := by decide +kernel
theorem d12_13 : decode oc12 13 = .ok (.bastore, 1) := by decide +kernel
theorem d12_14 : decode oc12 14 = .ok (.iinc 2 1, 3) := by decide +kernel
theorem d12_17 : decode oc12 17 = .ok (.goto (-12), 3) := by decide +kernel
theorem pn_192 : plainName "java/util/Arrays" = true := by first | (simp [plainName, overriddenIn]; done) | decide +kernel
theorem rm_fill (l : Launch) (Z : State) (a0 : Array Value) (hw : HW Z a0) (ws : List Jvm.Cond) (t : Addr) (kb : ClassId) (n : Nat) (cb : Int32) (h0 : Heap) (n0 : Nat) (Z0 : n0 ≤ h0.size) (O0 : Old Z n0 h0) (V_t : Arv Z h0 t kb .byte (oI n) [] (.int (0 : Int32))) (g_t : n0 ≤ t) (hn : n ≤ 1000) :
  Ctr l Z (⟨"java/util/Arrays", "fill", "([BB)V"⟩ : MethodName) oc12 4 ((Option.none : Option Jvm.ClassFile.FieldType)) ws (⟨0, 0, 0, 0⟩ : Room) #[(.ref t), (.int (cb.toInt8.toInt32))] h0 (fun v h L => v = none ∧ Fr n0 L ∧ Keep h0 h [t] ∧ Arv Z h t kb .byte (oI n) (jE (List.replicate n cb)) (.int (0 : Int32))) := by
 refine Ctr.go (plainFor_of_name pn_192) fun p e s m below meth c s₁ Bd hx hby hml hZ hown hnm X0 e0 => ?_
 have hq := And.intro hx hby
 have N0 := Fr.nil n0
 have K0 := Keep.refl h0 [t]
 refine gs (S' := s₁.setTop (mkF m 0 #[rv t, iv (cb.toInt8.toInt32), uu, uu] [])) (fun tg kg => castTop (ef_175 m t (cb.toInt8.toInt32)) kg) ?_
 refine gs (fun _ k => jf (v := (0 : Int32)) X0 hq d12_0 (jT X0 hq d12_1 (jj rfl) (jb X0 hq d12_2 rfl rfl k))) ?_
 obtain ⟨cl1, A1, a1q, a1S, a1N, a1H, a1G⟩ := id V_t
 refine gs (S' := s₁.setTop (mkF m 4 #[rv t, iv (cb.toInt8.toInt32), iv (0 : Int32), uu] [(.int (oI n))])) (fun _ k => by refine X0.arraylength hx (by rw [e0]; exact A1.1) (State.isArrayOf_alike hZ.alike A1.2.1) (g := (mkF m 3 #[rv t, iv (cb.toInt8.toInt32), iv (0 : Int32), uu] [(.ref t)])) rfl rfl (hb hby d12_3) _ ?_; rw [len_of a1S a1N]; exact k) ?_
 refine gs (fun _ k => jT X0 hq d12_4 (jj rfl) k) ?_
 have lp : ∀ (r i : Nat) (Tj : State) (lj : List Loc) (hj : Heap), i + r = n → Stand p l e (⟨0, 0, 0, 0⟩ : Room) s m #[(.ref t), (.int (cb.toInt8.toInt32))] below meth c Tj lj 0 0 → Tj.heap = hj → Fr n0 lj → n0 ≤ hj.size → Old Z n0 hj → Keep h0 hj [t] → Arv Z hj t kb .byte (oI n) (jE (List.replicate i cb)) (.int (0 : Int32)) → OwnGo p e below s (fun v h L => v = none ∧ Fr n0 L ∧ Keep h0 h [t] ∧ Arv Z h t kb .byte (oI n) (jE (List.replicate n cb)) (.int (0 : Int32))) (⟨0, 0, 0, 0⟩ : Room).cells (⟨0, 0, 0, 0⟩ : Room).slots (Tj.setTop (mkF m 5 #[rv t, iv (cb.toInt8.toInt32), iv (oI i), iv (oI n)] [])) := by
  intro r
  induction r with
  | zero =>
   intro i Tj lj hj hi Xj ej Nj Zj Oj Kj Vj
   have ei : i = n := by omega
   rw [ei] at Vj
   refine gs (fun _ k => ji Xj hq d12_5 rfl (ji Xj hq d12_6 rfl (jh (pc' := 20) Xj hq d12_7 (flt (own_nlt32 (by omega) (by omega))).2.1 k))) ?_
   refine gout (v := none) Xj Bd.notSynchronized (fun _ => rfl) (by decide) (by decide) ?_ (fun fs hr => Xj.returnOut hx Bd.returns (hb hby d12_20) hr)
   rw [ej]
   exact ⟨rfl, Nj, Kj, Vj⟩
  | succ r ih =>
   intro i Tj lj hj hi Xj ej Nj Zj Oj Kj Vj
   refine gs (fun _ k => ji Xj hq d12_5 rfl (ji Xj hq d12_6 rfl (jm Xj hq d12_7 (tlt (jX (by omega) (by omega))).2.1 (jb Xj hq d12_10 rfl rfl (ji Xj hq d12_11 rfl (ji Xj hq d12_12 rfl k)))))) ?_
   obtain ⟨cl2, A2, a2q, a2S, a2N, a2H, a2G⟩ := Vj.pad (vs' := jE (List.replicate i cb) ++ [Value.int 0]) (own_pad1 _)
   obtain ⟨T2, h2, X2, e2, W2, st2⟩ := stB Xj hx hZ ej A2 (j := (oI i)) (inb_of a2S ⟨jM (by omega), jX (by omega) (by omega)⟩) (g := (mkF m 13 #[rv t, iv (cb.toInt8.toInt32), iv (oI i), iv (oI n)] [(.int (cb.toInt8.toInt32)), (.int (oI i)), (.ref t)])) rfl rfl (hb hby d12_13)
   have q2 := Arv.set A2 a2q a2S a2N a2H a2G (fits_nar_byte _) W2 i (jae (by omega)) (by simp)
   have p2 := own_setlast (List.replicate i cb) cb
   rw [own_rplen, own_rp] at p2
   rw [show cb.toInt8.toInt32.toInt8.toInt32 = cb.toInt8.toInt32 from own_narb cb, p2] at q2
   have N2 := Fr.snoc X2 Nj g_t
   have Z3 := nt Zj (Keep.of_wr W2).1
   have O3 := Oj.wr W2 g_t
   have K3 := Kj.wr W2 (Or.inl (List.mem_of_getElem? (i := 0) rfl))
   refine gs (S' := T2.setTop (mkF m 14 #[rv t, iv (cb.toInt8.toInt32), iv (oI i), iv (oI n)] [])) st2 ?_
   refine gs (fun _ k => o_iinc X2 hq d12_14 rfl k) ?_
   show OwnGo p e below s _ _ _ (T2.setTop (mkF m 17 #[rv t, iv (cb.toInt8.toInt32), iv (((oI i) + (1 : Int32))), iv (oI n)] []))
   rw [jk]
   refine gs (fun _ k => jp (pc' := 5) X2 hq d12_17 k) ?_
   exact ih (i + 1) T2 _ h2 (by omega) X2 e2 N2 Z3 O3 K3 q2
 exact lp n 0 s₁ _ h0 (by omega) X0 e0 N0 Z0 O0 K0 V_t
theorem ef_193 (m : MethodId) (x0 : Addr) (x1 : Addr) (x2 : Int32) : entryFrame m #[(.ref x0), (.ref x1), (.int x2)] 3 = mkF m 0 #[.val (.ref x0), .val (.ref x1), .val (.int x2)] [] := by first | (simp [entryFrame, mkF, argsToLocals, Value.category]; done) | rfl
abbrev oc13 := jdk_42_method_151_code
theorem d13_0 : decode oc13 0 = .ok (.aload_n 0, 1) := by decide +kernel
theorem d13_1 : decode oc13 1 = .ok (.invokespecial 1, 3) := by decide +kernel
theorem d13_4 : decode oc13 4 = .ok (.aload_n 0, 1) := by decide +kernel
theorem d13_5 : decode oc13 5 = .ok (.aload_n 1, 1) := by decide +kernel
theorem d13_6 : decode oc13 6 = .ok (.putfield 9, 3) := by decide +kernel
theorem d13_9 : decode oc13 9 = .ok (.aload_n 0, 1) := by decide +kernel
theorem d13_10 : decode oc13 10 = .ok (.iload_n 2, 1) := by decide +kernel
theorem d13_11 : decode oc13 11 = .ok (.putfield 15, 3) := by decide +kernel
theorem d13_14 : decode oc13 14 = .ok (.return_, 1) := by decide +kernel
theorem rm_siB (l : Launch) (Z : State) (a0 : Array Value) (hw : HW Z a0) (ws : List Jvm.Cond) (a : Addr) (t : Addr) (h0 : Heap) (n0 : Nat) (Z0 : n0 ≤ h0.size) (O0 : Old Z n0 h0) (E_a : Exa Z h0 a "java/lang/String") (F_v : Fld Z h0 a "java/lang/String" "value" "[B" .null) (F_c : Fld Z h0 a "java/lang/String" "coder" "B" (.int (0 : Int32))) (g_a : n0 ≤ a) :
  Ctr l Z (⟨"java/lang/String", "<init>", "([BB)V"⟩ : MethodName) oc13 3 ((Option.none : Option Jvm.ClassFile.FieldType)) ws (⟨1, 0, 0, 12⟩ : Room) #[(.ref a), (.ref t), (.int (0 : Int32))] h0 (fun v h L => v = none ∧ Fr n0 L ∧ Keep h0 h [a] ∧ Fld Z h a "java/lang/String" "value" "[B" (.ref t) ∧ Fld Z h a "java/lang/String" "coder" "B" (.int (0 : Int32))) := by
 refine Ctr.go (plainFor_of_name pn_15) fun p e s m below meth c s₁ Bd hx hby hml hZ hown hnm X0 e0 => ?_
 have hq := And.intro hx hby
 have N0 := Fr.nil n0
 have K0 := Keep.refl h0 [a]
 refine gs (S' := s₁.setTop (mkF m 0 #[rv a, rv t, iv (0 : Int32)] [])) (fun tg kg => castTop (ef_193 m a t (0 : Int32)) kg) ?_
 refine gs (fun _ k => jb X0 hq d13_0 rfl rfl k) ?_
 obtain ⟨T1, X1, e1, st1⟩ := initO X0 hx hZ hown (ow hw 15 rfl) (ow hw 16 rfl) (ow hw 17 rfl) e0 (g := (mkF m 1 #[rv a, rv t, iv (0 : Int32)] [(.ref a)])) rfl (by rw [hml]; rfl) rfl (hb hby d13_1) (by decide) (W := 0) (jL rfl) (by decide)
 refine gs (S' := T1.setTop (mkF m 4 #[rv a, rv t, iv (0 : Int32)] [])) st1 ?_
 refine gs (fun _ k => jb X1 hq d13_4 rfl rfl (jb X1 hq d13_5 rfl rfl k)) ?_
 obtain ⟨T2, h2, X2, e2, W2, st2⟩ := putF X1 hx hZ hown (host := "") (Or.inl (ow hw 24 rfl)) Via.refl e1 F_v E_a (Or.inr ⟨(ow hw 20 rfl), rfl, hnm⟩) (ow hw 6 rfl) (ty := (.array .byte)) (by decide) rfl rfl (g := (mkF m 6 #[rv a, rv t, iv (0 : Int32)] [(.ref t), (.ref a)])) rfl rfl (hb hby d13_6)
 have N2 := Fr.snoc X2 N0 g_a
 have Fw2 := F_v.same W2
 have Z3 := nt Z0 (Keep.of_wr W2).1
 have O3 := O0.wr W2 g_a
 have K3 := K0.wr W2 (Or.inl (List.mem_of_getElem? (i := 0) rfl))
 refine gs (S' := T2.setTop (mkF m 9 #[rv a, rv t, iv (0 : Int32)] [])) st2 ?_
 refine gs (fun _ k => jb X2 hq d13_9 rfl rfl (ji X2 hq d13_10 rfl k)) ?_
 have f4 := (F_c.other W2 (Or.inr (slot_ne (Or.inr (ow hw 21 rfl)) (Or.inr (ow hw 20 rfl)) (by decide) (t := .byte) (t' := (.array .byte)) (by decide) (by decide))))
 have f5 := (E_a.wr W2)
 obtain ⟨T6, h6, X6, e6, W6, st6⟩ := putFN X2 hx hZ hown (ow hw 25 rfl) Via.refl e2 f4 f5 (Or.inr ⟨(ow hw 21 rfl), rfl, hnm⟩) (ow hw 6 rfl) (ty := .byte) (v' := (.int (0 : Int32))) (by decide) rfl rfl (g := (mkF m 11 #[rv a, rv t, iv (0 : Int32)] [(.int (0 : Int32)), (.ref a)])) rfl rfl (hb hby d13_11)
 have N6 := Fr.snoc X6 N2 g_a
 have Fw6 := f4.same W6
 have Z7 := nt Z3 (Keep.of_wr W6).1
 have O7 := O3.wr W6 g_a
 have K7 := K3.wr W6 (Or.inl (List.mem_of_getElem? (i := 0) rfl))
 refine gs (S' := T6.setTop (mkF m 14 #[rv a, rv t, iv (0 : Int32)] [])) st6 ?_
 have f8 := (Fw2.other W6 (Or.inr (slot_ne (Or.inr (ow hw 20 rfl)) (Or.inr (ow hw 21 rfl)) (by decide) (t := (.array .byte)) (t' := .byte) (by decide) (by decide))))
 refine gout (v := none) X6 Bd.notSynchronized (fun _ => rfl) (by decide) (by decide) ?_ (fun fs hr => X6.returnOut hx Bd.returns (hb hby d13_14) hr)
 rw [e6]
 exact ⟨rfl, N6, K7, f8, Fw6⟩
theorem ef_204 (m : MethodId) (x0 : Addr) (x1 : Int32) : entryFrame m #[(.ref x0), (.int x1)] 5 = mkF m 0 #[.val (.ref x0), .val (.int x1), .unset, .unset, .unset] [] := by first | (simp [entryFrame, mkF, argsToLocals, Value.category]; done) | rfl
abbrev oc14 := jdk_42_method_145_code
theorem d14_0 : decode oc14 0 = .ok (.iload_n 1, 1) := by decide +kernel
theorem d14_1 : decode oc14 1 = .ok (.ifCond .ge 31, 3) := by decide +kernel
theorem d14_32 : decode oc14 32 = .ok (.iload_n 1, 1) := by decide +kernel
theorem d14_33 : decode oc14 33 = .ok (.iconst 1, 1) := by decide +kernel
theorem d14_34 : decode oc14 34 = .ok (.if_icmp .ne 5, 3) := by decide +kernel
theorem d14_37 : decode oc14 37 = .ok (.aload_n 0, 1) := by decide +kernel
theorem d14_38 : decode oc14 38 = .ok (.areturn, 1) := by decide +kernel
theorem d14_39 : decode oc14 39 = .ok (.aload_n 0, 1) := by decide +kernel
theorem d14_40 : decode oc14 40 = .ok (.getfield 9, 3) := by decide +kernel
theorem d14_43 : decode oc14 43 = .ok (.arraylength, 1) := by decide +kernel
theorem d14_44 : decode oc14 44 = .ok (.istore_n 2, 1) := by decide +kernel
theorem d14_45 : decode oc14 45 = .ok (.iload_n 2, 1) := by decide +kernel
theorem d14_46 : decode oc14 46 = .ok (.ifCond .eq 7, 3) := by decide +kernel
theorem d14_49 : decode oc14 49 = .ok (.iload_n 1, 1) := by decide +kernel
theorem d14_50 : decode oc14 50 = .ok (.ifCond .ne 6, 3) := by decide +kernel
theorem d14_53 : decode oc14 53 = .ok (.ldc 7, 2) := by decide +kernel
theorem d14_55 : decode oc14 55 = .ok (.areturn, 1) := by decide +kernel
theorem d14_56 : decode oc14 56 = .ok (.ldc_w 943, 3) := by decide +kernel
theorem d14_59 : decode oc14 59 = .ok (.iload_n 1, 1) := by decide +kernel
theorem d14_60 : decode oc14 60 = .ok (.idiv, 1) := by decide +kernel
theorem d14_61 : decode oc14 61 = .ok (.iload_n 2, 1) := by decide +kernel
theorem d14_62 : decode oc14 62 = .ok (.if_icmp .ge 14, 3) := by decide +kernel
theorem d14_76 : decode oc14 76 = .ok (.iload_n 2, 1) := by decide +kernel
theorem d14_77 : decode oc14 77 = .ok (.iconst 1, 1) := by decide +kernel
theorem d14_78 : decode oc14 78 = .ok (.if_icmp .ne 30, 3) := by decide +kernel
theorem d14_81 : decode oc14 81 = .ok (.iload_n 1, 1) := by decide +kernel
theorem d14_82 : decode oc14 82 = .ok (.newarray .byte, 2) := by decide +kernel
theorem d14_84 : decode oc14 84 = .ok (.astore_n 3, 1) := by decide +kernel
theorem d14_85 : decode oc14 85 = .ok (.aload_n 3, 1) := by decide +kernel
theorem d14_86 : decode oc14 86 = .ok (.aload_n 0, 1) := by decide +kernel
theorem d14_87 : decode oc14 87 = .ok (.getfield 9, 3) := by decide +kernel
theorem d14_90 : decode oc14 90 = .ok (.iconst 0, 1) := by decide +kernel
theorem d14_91 : decode oc14 91 = .ok (.baload, 1) := by decide +kernel
theorem d14_92 : decode oc14 92 = .ok (.invokestatic 1041, 3) := by decide +kernel
theorem pd_240 : parseMethodDescriptor "([BB)V" = some ⟨[(.array .byte), .byte], none⟩ := by decide +kernel
theorem d14_95 : decode oc14 95 = .ok (.new 10, 3) := by decide +kernel
theorem d14_98 : decode oc14 98 = .ok (.dup, 1) := by decide +kernel
theorem d14_99 : decode oc14 99 = .ok (.aload_n 3, 1) := by decide +kernel
theorem d14_100 : decode oc14 100 = .ok (.aload_n 0, 1) := by decide +kernel
theorem d14_101 : decode oc14 101 = .ok (.getfield 15, 3) := by decide +kernel
theorem d14_104 : decode oc14 104 = .ok (.invokespecial 209, 3) := by decide +kernel
theorem d14_107 : decode oc14 107 = .ok (.areturn, 1) := by decide +kernel
theorem rm_rep (l : Launch) (Z : State) (a0 : Array Value) (hw : HW Z a0) (ws : List Jvm.Cond) (x : Addr) (n : Nat) (h0 : Heap) (n0 : Nat) (Z0 : n0 ≤ h0.size) (O0 : Old Z n0 h0) (T_x : Str Z h0 x [32]) (hn : n ≤ 127) :
  CtrW l Z jo (⟨"java/lang/String", "repeat", "(I)Ljava/lang/String;"⟩ : MethodName) oc14 5 ((Option.some (Jvm.ClassFile.FieldType.object "java/lang/String"))) ws (⟨2, 2, 131, 27⟩ : Room) #[(.ref x), (.int (oI n))] h0 (fun v h L => ∃ a : Addr, v = some (.ref a) ∧ Fr n0 L ∧ Keep h0 h [] ∧ Str Z h a (List.replicate n 32)) := by
 refine CtrW.of (MetFree.of_bodySF (plainFor_of_name pn_15) hisR ?_)
 intro p e s m args below meth c s₁ Bd hml0 hP hK
 obtain ⟨rfl, hZ0, hh, hC⟩ := hP
 have hx := Bd.exec
 have hby := Bd.bytes
 have hq := And.intro hx hby
 have hml : c.maxLocals = 5 := hml0
 have hZ : Z.Warmed39 (s.setVm s.vm).vm := hZ0
 have hown : (s.setVm s.vm).vm.findClass "java/lang/String" = some m.cls := findClass_of_methodNamed Bd.named
 have hnm := (name_of_methodNamed Bd.named Bd.method).1
 have X0 : Stand p l e (⟨2, 2, 131, 27⟩ : Room) (s.setVm s.vm) m #[(.ref x), (.int (oI n))] below meth c s₁ [] 0 0 := Stand.of_body Bd
 have e0 : s₁.heap = h0 := by rw [← hh, Bd.state]; rfl
 have N0 := Fr.nil n0
 have K0 : Keep h0 h0 [] := Keep.refl h0 []
 have hS : s.Since s.vm 0 := (State.WarmedH.refl s).since 0
 have hk : 0 ≤ h0.size := Nat.zero_le _
 have R0 : CHr Z jo s.vm h0 s.vm h0 := CHr.refl hC
 show OwnGoW p e below s Z jo (fun v h L => ∃ a : Addr, v = some (.ref a) ∧ Fr n0 L ∧ Keep h0 h [] ∧ Str Z h a (List.replicate n 32)) (⟨2, 2, 131, 27⟩ : Room).cells (⟨2, 2, 131, 27⟩ : Room).slots _
 refine gsW (S' := s₁.setTop (mkF m 0 #[rv x, iv (oI n), uu, uu, uu] [])) (fun tg kg => castTop (ef_204 m x (oI n)) kg) ?_
 obtain ⟨u, ku, E_x, F_cx, F_vx, V_u⟩ := id T_x
 refine gsW (fun _ k => ji X0 hq d14_0 rfl (jI (pc' := 32) X0 hq d14_1 ((if0 _ _).trans (flt (jM (by omega))).2.1) (ji X0 hq d14_32 rfl (jf (v := (1 : Int32)) X0 hq d14_33 k)))) ?_
 by_cases hc1 : (oI n) = (1 : Int32)
 ·refine gsW (fun _ k => jm X0 hq d14_34 (teq hc1).2 (jb X0 hq d14_37 rfl rfl k)) ?_
  have n1 : n = 1 := own_inj32 (by omega) (by omega) hc1
  refine goutW (v := some (.ref x)) X0 hS hk hZ (jJ hw) hh e0 R0 Bd.notSynchronized (jA Bd.returns) (by decide) (by decide) ?_ (fun fs hr => retOut X0 hx Bd.returns rfl (Or.inr (Or.inr (Or.inr (Or.inr ⟨rfl, rfl, rfl⟩)))) (hb hby d14_38) hr)
  exact ⟨_, rfl, N0, K0, by rw [n1]; exact T_x⟩
 ·refine gsW (fun _ k => jh (pc' := 39) X0 hq d14_34 (feq hc1).2 (jb X0 hq d14_39 rfl rfl k)) ?_
  refine gFW X0 hx hZ hown (host := "") (Or.inl (ow hw 24 rfl)) Via.refl e0 F_vx hby d14_40 fun T2 X2 e2 => ?_
  obtain ⟨cl3, A3, a3q, a3S, a3N, a3H, a3G⟩ := id V_u
  refine gsW (S' := T2.setTop (mkF m 44 #[rv x, iv (oI n), uu, uu, uu] [(.int (1 : Int32))])) (fun _ k => by refine X2.arraylength hx (by rw [e2]; exact A3.1) (State.isArrayOf_alike hZ.alike A3.2.1) (g := (mkF m 43 #[rv x, iv (oI n), uu, uu, uu] [(.ref u)])) rfl rfl (hb hby d14_43) _ ?_; rw [len_of a3S a3N]; exact k) ?_
  refine gsW (fun _ k => jT X2 hq d14_44 (jj rfl) (ji X2 hq d14_45 rfl (jG X2 hq d14_46 ((if0 _ _).trans (feq (by decide : ¬ ((1 : Int32) = (0 : Int32)))).1) (ji X2 hq d14_49 rfl k)))) ?_
  by_cases hc4 : (oI n) = (0 : Int32)
  ·refine gsW (fun _ k => jG X2 hq d14_50 ((if0 _ _).trans (teq hc4).2) k) ?_
   obtain ⟨a5, T5, h5, k5, t5, kb5, X5, e5, E5, hS, hk5, hZ, hown, g5e, g5c, g5v, g5a, -, -, r5x, -, ne5, st5⟩ := ldcCH X2 hx hZ hown (ow hw 18 rfl) (own_wS hw) e2 hS hk (jJ hw) (List.mem_of_getElem? (i := 1) rfl) R0.1 (vs := ((([] : List Int32).map (fun c => c.toInt8.toInt32)).map Value.int)) (z := (0 : Int32)) ⟨by decide, by rfl⟩ (by decide) rfl (g := (mkF m 53 #[rv x, iv (oI n), iv (1 : Int32), uu, uu] [])) rfl (hb hby d14_53) (n := 0) (by decide) (by decide) (by decide) (by decide)
   have r6 : CHr Z jo s.vm h0 T5.vm h5 := r5x
   have R6 := R0.trans r6
   have Z6 := nt Z0 E5.1
   have O6 := O0.ext E5
   have K6 := K0.ext E5
   have T5q : Str Z h5 a5 ([] : List Int32) := ⟨_, _, g5e, g5c, g5v, g5a⟩
   refine gsW (S' := T5.setTop (mkF m 55 #[rv x, iv (oI n), iv (1 : Int32), uu, uu] [(.ref a5)])) st5 ?_
   have n0_ : n = 0 := own_inj32 (by omega) (by omega) hc4
   refine goutW (v := some (.ref a5)) X5 hS hk5 hZ (jJ hw) hh e5 R6 Bd.notSynchronized (jA Bd.returns) (by decide) (by decide) ?_ (fun fs hr => retOut X5 hx Bd.returns rfl (Or.inr (Or.inr (Or.inr (Or.inr ⟨rfl, rfl, rfl⟩)))) (hb hby d14_55) hr)
   exact ⟨_, rfl, N0, K6, by rw [n0_]; exact T5q⟩
  ·refine gsW (fun _ k => jI (pc' := 56) X2 hq d14_50 ((if0 _ _).trans (feq hc4).2) (X2.ldcwInt hx hown (mvT hZ (ow hw 262 rfl)) (g := (mkF m 56 #[rv x, iv (oI n), iv (1 : Int32), uu, uu] [])) rfl (hb hby d14_56) _ (ji X2 hq d14_59 rfl (o_idiv X2 hq d14_60 hc4 (ji X2 hq d14_61 rfl (jh (pc' := 76) X2 hq d14_62 (flt (own_div1 (Nat.pos_of_ne_zero (fun q => hc4 (by rw [q]; rfl))) (by omega))).2.1 (ji X2 hq d14_76 rfl (jf (v := (1 : Int32)) X2 hq d14_77 (jm X2 hq d14_78 (teq (by decide : (1 : Int32) = (1 : Int32))).2 (ji X2 hq d14_81 rfl k)))))))))) ?_
   obtain ⟨T7, h7, k7, X7, e7, E7, A7, st7⟩ := newP X2 hx hZ (ow hw 19 rfl) e2 (g := (mkF m 82 #[rv x, iv (oI n), iv (1 : Int32), uu, uu] [(.int (oI n))])) rfl (hb hby d14_82) rfl (jM (by omega)) (cap := 127) (own_nc hn (by omega)) (by decide) (by decide) (by decide)
   obtain ⟨b7, q7⟩ : ∃ z, z = h0.size := ⟨_, rfl⟩
   rw [← q7] at A7 st7
   have g_b7 : n0 ≤ b7 := nt Z0 (Nat.le_of_eq q7.symm)
   have sz_b7 : h0.size ≤ b7 := nt K0.1 (Nat.le_of_eq q7.symm)
   have sfa7 : Safe Z jo s.vm h0 b7 := Safe.new (Nat.le_of_eq q7.symm)
   have r8 : CHr Z jo s.vm h0 s.vm h7 := CHr.ext E7 R0.1
   have R8 := R0.trans r8
   have Z8 := nt Z0 E7.1
   have O8 := O0.ext E7
   have K8 := K0.ext E7
   have sfb7 := Safe.ext E7 R0.1 sfa7
   have V7 : Arv Z h7 b7 k7 .byte (oI n) [] (.int (0 : Int32)) := Arv.new A7 (jM (by omega))
   refine gsW (S' := T7.setTop (mkF m 84 #[rv x, iv (oI n), iv (1 : Int32), uu, uu] [(.ref b7)])) st7 ?_
   refine gsW (fun _ k => jR X7 hq d14_84 rfl (jj rfl) (jb X7 hq d14_85 rfl rfl (jb X7 hq d14_86 rfl rfl k))) ?_
   have f9 := (F_vx.ext E7)
   refine gFW X7 hx hZ hown (host := "") (Or.inl (ow hw 24 rfl)) Via.refl e7 f9 hby d14_87 fun T10 X10 e10 => ?_
   refine gsW (fun _ k => jf (v := (0 : Int32)) X10 hq d14_90 k) ?_
   have f11 := (V_u.ext E7)
   obtain ⟨cl12, A12, a12q, a12S, a12N, a12H, a12G⟩ := id f11
   have hi12 := inb_of a12S (j := (0 : Int32)) ⟨by decide, by decide⟩
   refine gsW (fun _ k => X10.baloadBytes hx (j := (0 : Int32)) (v := (.int ((32 : Int32).toInt8.toInt32))) (by rw [e10]; exact A12.1) (State.isArrayOf_alike hZ.alike A12.2.1) A12.2.2 hi12 (Has.at a12H hi12 rfl) (g := (mkF m 91 #[rv x, iv (oI n), iv (1 : Int32), rv b7, uu] [(.int (0 : Int32)), (.ref u), (.ref b7)])) rfl rfl (hb hby d14_91) _ k) ?_
   refine cSW (rest := []) X10 hx hZ hown (ow hw 263 rfl) (ow hw 264 rfl) (ow hw 216 rfl) (ow hw 265 rfl) (rm_fill l Z a0 hw [] b7 k7 n (32 : Int32) h7 n0 Z8 O8 V7 g_b7 (by omega)) hby d14_92 e10 pd_240 0 (by rw [hml]; rfl) rfl rfl rfl rfl (by decide) (by decide) fun _ T13 Lc13 X13 hQ13 => ?_
   obtain ⟨rfl, N13q, K13q, V13q⟩ := hQ13
   have N13 := Fr.app N0 N13q
   have r14 : CHr Z jo s.vm h7 s.vm T13.heap := CHr.keep K13q (sfS sfb7 sf0) R8.1
   have R14 := R8.trans r14
   have Z14 := nt Z8 K13q.1
   have O14 := O8.keep K13q (allS g_b7 all0)
   have K14 := K8.trans K13q (allS (Or.inr sz_b7) all0)
   obtain ⟨T15, h15, X15, e15, E15, A15, D15, -, st15⟩ := newO X13 hx hZ hown (ow hw 266 rfl) (ow hw 6 rfl) (ow hw 7 rfl) rfl (g := (mkF m 95 #[rv x, iv (oI n), iv (1 : Int32), rv b7, uu] [])) rfl (hb hby d14_95) (by decide) (by decide)
   obtain ⟨b15, q15⟩ : ∃ z, z = T13.heap.size := ⟨_, rfl⟩
   rw [← q15] at A15 D15 st15
   have g_b15 : n0 ≤ b15 := nt Z14 (Nat.le_of_eq q15.symm)
   have sz_b15 : h0.size ≤ b15 := nt K14.1 (Nat.le_of_eq q15.symm)
   have sfa15 : Safe Z jo s.vm T13.heap b15 := Safe.new (Nat.le_of_eq q15.symm)
   have r16 : CHr Z jo s.vm T13.heap s.vm h15 := CHr.ext E15 R14.1
   have R16 := R14.trans r16
   have Z16 := nt Z14 E15.1
   have O16 := O14.ext E15
   have K16 := K14.ext E15
   have sfb15 := Safe.ext E15 R14.1 sfa15
   have F_value_b15 : Fld Z h15 b15 "java/lang/String" "value" "[B" .null := D15 (Or.inr (ow hw 20 rfl)) (ty := (.array .byte)) (by decide)
   have F_coder_b15 : Fld Z h15 b15 "java/lang/String" "coder" "B" (.int (0 : Int32)) := D15 (Or.inr (ow hw 21 rfl)) (ty := .byte) (by decide)
   refine gsW (S' := T15.setTop (mkF m 98 #[rv x, iv (oI n), iv (1 : Int32), rv b7, uu] [(.ref b15)])) st15 ?_
   refine gsW (fun _ k => jad X15 hq d14_98 rfl (jb X15 hq d14_99 rfl rfl (jb X15 hq d14_100 rfl rfl k))) ?_
   have f17 := (((F_cx.ext E7).keep K13q (ninS (nw (nu (nu T_x.lt (Nat.le_refl _)) (Nat.le_of_eq q7.symm))) nin0)).ext E15)
   refine gFW X15 hx hZ hown (host := "") (Or.inl (ow hw 25 rfl)) Via.refl e15 f17 hby d14_101 fun T18 X18 e18 => ?_
   refine cIW (rest := [(.ref b15)]) X18 hx hZ hown rfl (ow hw 267 rfl) (ow hw 268 rfl) (ow hw 7 rfl) (ow hw 269 rfl) (rm_siB l Z a0 hw [] b15 b7 h15 n0 Z16 O16 A15 F_value_b15 F_coder_b15 g_b15) hby d14_104 e18 pd_240 1 (by rw [hml]; rfl) rfl rfl rfl rfl (by decide) (by decide) fun _ T19 Lc19 X19 hQ19 => ?_
   obtain ⟨rfl, N19q, K19q, F19v, F19c⟩ := hQ19
   have N19 := Fr.app N13 N19q
   have r20 : CHr Z jo s.vm h15 s.vm T19.heap := CHr.keep K19q (sfS sfb15 sf0) R16.1
   have R20 := R16.trans r20
   have Z20 := nt Z16 K19q.1
   have O20 := O16.keep K19q (allS g_b15 all0)
   have K20 := K16.trans K19q (allS (Or.inr sz_b15) all0)
   have f21 := ((V13q.ext E15).keep K19q (ninS (nw (nu (nu V7.lt K13q.1) (Nat.le_of_eq q15.symm))) nin0))
   have f22 := (A15.keep K19q)
   have zs23 := nt E7.1 K13q.1
   have zs24 := nt zs23 E15.1
   have zs25 := nt zs24 K19q.1
   refine goutW (v := some (.ref b15)) X19 hS (nt hk zs25) hZ (jJ hw) hh rfl R20 Bd.notSynchronized (jA Bd.returns) (by decide) (by decide) ?_ (fun fs hr => retOut X19 hx Bd.returns rfl (Or.inr (Or.inr (Or.inr (Or.inr ⟨rfl, rfl, rfl⟩)))) (hb hby d14_107) hr)
   exact ⟨_, rfl, N19, K20, _, _, f22, F19c, F19v, cast (congrArg (fun q_ => Arv Z T19.heap b7 k7 .byte (oI q_) (jE (List.replicate n 32)) (.int 0)) (own_rplen n 32).symm) f21⟩
theorem ef_248 (m : MethodId) (x0 : Int32) (x1 : Int32) : entryFrame m #[(.int x0), (.int x1)] 3 = mkF m 0 #[.val (.int x0), .val (.int x1), .unset] [] := by first | (simp [entryFrame, mkF, argsToLocals, Value.category]; done) | rfl
abbrev oc15 := method_2_code
theorem d15_0 : decode oc15 0 = .ok (.iload_n 0, 1) := by decide +kernel
theorem d15_1 : decode oc15 1 = .ok (.newarray .char, 2) := by decide +kernel
theorem d15_3 : decode oc15 3 = .ok (.astore_n 2, 1) := by decide +kernel
theorem d15_4 : decode oc15 4 = .ok (.iload_n 0, 1) := by decide +kernel
theorem d15_5 : decode oc15 5 = .ok (.ifCond .le 7, 3) := by decide +kernel
theorem d15_8 : decode oc15 8 = .ok (.aload_n 2, 1) := by decide +kernel
theorem d15_9 : decode oc15 9 = .ok (.iconst 0, 1) := by decide +kernel
theorem d15_10 : decode oc15 10 = .ok (.iload_n 1, 1) := by decide +kernel
theorem d15_11 : decode oc15 11 = .ok (.castore, 1) := by decide +kernel
theorem d15_12 : decode oc15 12 = .ok (.new 7, 3) := by decide +kernel
theorem d15_15 : decode oc15 15 = .ok (.dup, 1) := by decide +kernel
theorem d15_16 : decode oc15 16 = .ok (.aload_n 2, 1) := by decide +kernel
theorem d15_17 : decode oc15 17 = .ok (.invokespecial 9, 3) := by decide +kernel
theorem pd_263 : parseMethodDescriptor "([C)V" = some ⟨[(.array .char)], none⟩ := by decide +kernel
theorem d15_20 : decode oc15 20 = .ok (.areturn, 1) := by decide +kernel
theorem pn_265 : plainName "com/example/caddisfly/caddisfly/SyntaxWrapPinLaw" = true := by first | (simp [plainName, overriddenIn]; done) | decide +kernel
theorem rm_dw (l : Launch) (Z : State) (a0 : Array Value) (hw : HW Z a0) (ws : List Jvm.Cond) (n : Nat) (mk : Int32) (z : Int32) (h0 : Heap) (n0 : Nat) (Z0 : n0 ≤ h0.size) (O0 : Old Z n0 h0) (S0 : PS0 Z (.int z)) (hz : ¬ z = 0) (hn : n ≤ 127) (hm : ¬ mk < 0 ∧ ¬ (255 : Int32) < mk) :
  CtrW l Z jo (⟨"com/example/caddisfly/caddisfly/SyntaxWrapPinLaw", "draw", "(IC)Ljava/lang/String;"⟩ : MethodName) oc15 3 ((Option.some (Jvm.ClassFile.FieldType.object "java/lang/String"))) ws (⟨4, 6, 258, 66⟩ : Room) #[(.int (oI n)), (.int mk)] h0 (fun v h L => ∃ a : Addr, v = some (.ref a) ∧ Fr n0 L ∧ Keep h0 h [] ∧ Str Z h a (jc n mk)) := by
 refine CtrW.of (MetFree.of_bodySF (plainFor_of_name pn_265) hisR ?_)
 intro p e s m args below meth c s₁ Bd hml0 hP hK
 obtain ⟨rfl, hZ0, hh, hC⟩ := hP
 have hx := Bd.exec
 have hby := Bd.bytes
 have hq := And.intro hx hby
 have hml : c.maxLocals = 3 := hml0
 have hZ : Z.Warmed39 (s.setVm s.vm).vm := hZ0
 have hown : (s.setVm s.vm).vm.findClass "com/example/caddisfly/caddisfly/SyntaxWrapPinLaw" = some m.cls := findClass_of_methodNamed Bd.named
 have hnm := (name_of_methodNamed Bd.named Bd.method).1
 have X0 : Stand p l e (⟨4, 6, 258, 66⟩ : Room) (s.setVm s.vm) m #[(.int (oI n)), (.int mk)] below meth c s₁ [] 0 0 := Stand.of_body Bd
 have e0 : s₁.heap = h0 := by rw [← hh, Bd.state]; rfl
 have N0 := Fr.nil n0
 have K0 : Keep h0 h0 [] := Keep.refl h0 []
 have hS : s.Since s.vm 0 := (State.WarmedH.refl s).since 0
 have hk : 0 ≤ h0.size := Nat.zero_le _
 have R0 : CHr Z jo s.vm h0 s.vm h0 := CHr.refl hC
 show OwnGoW p e below s Z jo (fun v h L => ∃ a : Addr, v = some (.ref a) ∧ Fr n0 L ∧ Keep h0 h [] ∧ Str Z h a (jc n mk)) (⟨4, 6, 258, 66⟩ : Room).cells (⟨4, 6, 258, 66⟩ : Room).slots _
 refine gsW (S' := s₁.setTop (mkF m 0 #[iv (oI n), iv mk, uu] [])) (fun tg kg => castTop (ef_248 m (oI n) mk) kg) ?_
 refine gsW (fun _ k => ji X0 hq d15_0 rfl k) ?_
 obtain ⟨T1, h1, k1, X1, e1, E1, A1, st1⟩ := newP X0 hx hZ (ow hw 4 rfl) e0 (g := (mkF m 1 #[iv (oI n), iv mk, uu] [(.int (oI n))])) rfl (hb hby d15_1) rfl (jM (by omega)) (cap := 127) (own_nc hn (by omega)) (by first | decide | exact nb rfl) (by first | decide | exact nb rfl) (by dsimp only [Pt.cells, Pt.slots]; omega)
 obtain ⟨b1, q1⟩ : ∃ z, z = h0.size := ⟨_, rfl⟩
 rw [← q1] at A1 st1
 have g_b1 : n0 ≤ b1 := nt Z0 (Nat.le_of_eq q1.symm)
 have sz_b1 : h0.size ≤ b1 := nt K0.1 (Nat.le_of_eq q1.symm)
 have r2 : CHr Z jo s.vm h0 s.vm h1 := CHr.ext E1 R0.1
 have R2 := R0.trans r2
 have Z2 := nt Z0 E1.1
 have O2 := O0.ext E1
 have K2 := K0.ext E1
 have V1 : Arv Z h1 b1 k1 .char (oI n) [] (.int (0 : Int32)) := Arv.new A1 (jM (by omega))
 refine gsW (S' := T1.setTop (mkF m 3 #[iv (oI n), iv mk, uu] [(.ref b1)])) st1 ?_
 refine gsW (fun _ k => jR X1 hq d15_3 rfl (jj rfl) (ji X1 hq d15_4 rfl k)) ?_
 by_cases hc3 : (0 : Int32) < (oI n)
 ·refine gsW (fun _ k => jG X1 hq d15_5 ((if0 _ _).trans (tlt hc3).2.2.2) (jb X1 hq d15_8 rfl rfl (jf (v := (0 : Int32)) X1 hq d15_9 (ji X1 hq d15_10 rfl k)))) ?_
  have np : ¬ n = 0 := fun q => by rw [q] at hc3; exact absurd hc3 (by first | decide | exact nb rfl)
  obtain ⟨cl4, A4, a4q, a4S, a4N, a4H, a4G⟩ := V1.pad (vs' := [Value.int 0]) (pad_rep [] (.int 0) 1)
  obtain ⟨T4, h4, X4, e4, W4, st4⟩ := stC X1 hx hZ e1 A4 (j := (0 : Int32)) (inb_of a4S ⟨by decide, hc3⟩) (g := (mkF m 11 #[iv (oI n), iv mk, rv b1] [(.int mk), (.int (0 : Int32)), (.ref b1)])) rfl rfl (hb hby d15_11)
  have q4 := Arv.set A4 a4q a4S a4N a4H a4G (fits_nar_char _) W4 0 rfl (by first | decide | exact nb rfl)
  rw [own_nchar hm] at q4
  have V4 := Arv.pad q4 (own_padc mk np)
  have N4 := Fr.snoc X4 N0 g_b1
  have r5 : CHr Z jo s.vm h1 s.vm h4 := CHr.wr W4 (Safe.arv hZ.alike V1 (by first | decide | exact nb rfl)) R2.1
  have R5 := R2.trans r5
  have Z5 := nt Z2 (Keep.of_wr W4).1
  have O5 := O2.wr W4 g_b1
  have K5 := K2.wr W4 (Or.inr sz_b1)
  refine gsW (S' := T4.setTop (mkF m 12 #[iv (oI n), iv mk, rv b1] [])) st4 ?_
  obtain ⟨T6, h6, X6, e6, E6, A6, D6, -, st6⟩ := newO X4 hx hZ hown (ow hw 5 rfl) (ow hw 6 rfl) (ow hw 7 rfl) e4 (g := (mkF m 12 #[iv (oI n), iv mk, rv b1] [])) rfl (hb hby d15_12) (by first | decide | exact nb rfl) (by dsimp only [Pt.cells, Pt.slots]; omega)
  obtain ⟨b6, q6⟩ : ∃ z, z = h4.size := ⟨_, rfl⟩
  rw [← q6] at A6 D6 st6
  have g_b6 : n0 ≤ b6 := nt Z5 (Nat.le_of_eq q6.symm)
  have sz_b6 : h0.size ≤ b6 := nt K5.1 (Nat.le_of_eq q6.symm)
  have sfa6 : Safe Z jo s.vm h4 b6 := Safe.new (Nat.le_of_eq q6.symm)
  have r7 : CHr Z jo s.vm h4 s.vm h6 := CHr.ext E6 R5.1
  have R7 := R5.trans r7
  have Z7 := nt Z5 E6.1
  have O7 := O5.ext E6
  have K7 := K5.ext E6
  have sfb6 := Safe.ext E6 R5.1 sfa6
  have F_value_b6 : Fld Z h6 b6 "java/lang/String" "value" "[B" .null := D6 (Or.inr (ow hw 20 rfl)) (ty := (.array .byte)) (by first | decide | exact nb rfl)
  have F_coder_b6 : Fld Z h6 b6 "java/lang/String" "coder" "B" (.int (0 : Int32)) := D6 (Or.inr (ow hw 21 rfl)) (ty := .byte) (by first | decide | exact nb rfl)
  refine gsW (S' := T6.setTop (mkF m 15 #[iv (oI n), iv mk, rv b1] [(.ref b6)])) st6 ?_
  refine gsW (fun _ k => jad X6 hq d15_15 rfl (jb X6 hq d15_16 rfl rfl k)) ?_
  have f8 := (V4.ext E6)
  refine cIW (rest := [(.ref b6)]) X6 hx hZ hown rfl (ow hw 8 rfl) (ow hw 9 rfl) (ow hw 7 rfl) (ow hw 10 rfl) (rm_s1L l Z a0 hw [] b6 b1 k1 (jc n mk) n z h6 n0 Z7 O7 A6 F_value_b6 F_coder_b6 g_b6 f8 (jK hm) (jq n mk) hn np S0 hz) hby d15_17 e6 pd_263 1 (by rw [hml]; rfl) rfl rfl rfl rfl ⟨by decide, nb rfl, nb rfl, nb rfl⟩ (by dsimp only; omega) fun _ T9 Lc9 X9 hQ9 => ?_
  obtain ⟨rfl, N9q, K9q, T9q⟩ := hQ9
  have N9 := Fr.app N4 N9q
  have r10 : CHr Z jo s.vm h6 s.vm T9.heap := CHr.keep K9q (sfS sfb6 sf0) R7.1
  have R10 := R7.trans r10
  have Z10 := nt Z7 K9q.1
  have O10 := O7.keep K9q (allS g_b6 all0)
  have K10 := K7.trans K9q (allS (Or.inr sz_b6) all0)
  have zs11 := nt E1.1 (Keep.of_wr W4).1
  have zs12 := nt zs11 E6.1
  have zs13 := nt zs12 K9q.1
  refine goutW (v := some (.ref b6)) X9 hS (nt hk zs13) hZ (jJ hw) hh rfl R10 Bd.notSynchronized (jA Bd.returns) (by first | decide | exact nb rfl) (by dsimp only [Pt.cells, Pt.slots]; omega) ?_ (fun fs hr => retOut X9 hx Bd.returns rfl (Or.inr (Or.inr (Or.inr (Or.inr ⟨rfl, rfl, rfl⟩)))) (hb hby d15_20) hr)
  exact ⟨_, rfl, N9, K10, T9q⟩
 ·refine gsW (fun _ k => jI (pc' := 12) X1 hq d15_5 ((if0 _ _).trans (flt hc3).2.2.2) k) ?_
  obtain ⟨T14, h14, X14, e14, E14, A14, D14, -, st14⟩ := newO X1 hx hZ hown (ow hw 5 rfl) (ow hw 6 rfl) (ow hw 7 rfl) e1 (g := (mkF m 12 #[iv (oI n), iv mk, rv b1] [])) rfl (hb hby d15_12) (by first | decide | exact nb rfl) (by dsimp only [Pt.cells, Pt.slots]; omega)
  obtain ⟨b14, q14⟩ : ∃ z, z = h1.size := ⟨_, rfl⟩
  rw [← q14] at A14 D14 st14
  have g_b14 : n0 ≤ b14 := nt Z2 (Nat.le_of_eq q14.symm)
  have sz_b14 : h0.size ≤ b14 := nt K2.1 (Nat.le_of_eq q14.symm)
  have sfa14 : Safe Z jo s.vm h1 b14 := Safe.new (Nat.le_of_eq q14.symm)
  have r15 : CHr Z jo s.vm h1 s.vm h14 := CHr.ext E14 R2.1
  have R15 := R2.trans r15
  have Z15 := nt Z2 E14.1
  have O15 := O2.ext E14
  have K15 := K2.ext E14
  have sfb14 := Safe.ext E14 R2.1 sfa14
  have F_value_b14 : Fld Z h14 b14 "java/lang/String" "value" "[B" .null := D14 (Or.inr (ow hw 20 rfl)) (ty := (.array .byte)) (by first | decide | exact nb rfl)
  have F_coder_b14 : Fld Z h14 b14 "java/lang/String" "coder" "B" (.int (0 : Int32)) := D14 (Or.inr (ow hw 21 rfl)) (ty := .byte) (by first | decide | exact nb rfl)
  refine gsW (S' := T14.setTop (mkF m 15 #[iv (oI n), iv mk, rv b1] [(.ref b14)])) st14 ?_
  refine gsW (fun _ k => jad X14 hq d15_15 rfl (jb X14 hq d15_16 rfl rfl k)) ?_
  have f16 := (V1.ext E14)
  have nz : n = 0 := by have q := jH (k := n) (by omega); have z0 : (0 : Int32).toInt = 0 := (by first | decide | exact nb rfl); have q2 := hc3; rw [Int32.lt_iff_toInt_lt] at q2; omega
  have V0 := f16
  rw [nz] at V0
  have zs18 := nt E1.1 E14.1
  refine cIS (rest := [(.ref b14)]) X14 hx hS (nt hk zs18) hZ hown rfl (ow hw 8 rfl) (ow hw 9 rfl) (ow hw 7 rfl) (ow hw 10 rfl) (rm_s0 l Z a0 hw [] b14 b1 k1 h14 n0 Z15 O15 A14 F_value_b14 F_coder_b14 g_b14 V0) (jJ hw) R15.1 hby d15_17 e14 pd_263 1 (by rw [hml]; rfl) rfl rfl rfl rfl ⟨by decide, nb rfl, nb rfl, nb rfl⟩ (by dsimp only; omega) fun _ T17 Lc17 X17 hS hZ hown hQ17 rq17 => ?_
  obtain ⟨rfl, N17q, K17q, T17q⟩ := hQ17
  have N17 := Fr.app N0 N17q
  have r19 : CHr Z jo s.vm h14 T17.vm T17.heap := rq17
  have R19 := R15.trans r19
  have Z19 := nt Z15 K17q.1
  have O19 := O15.keep K17q (allS g_b14 all0)
  have K19 := K15.trans K17q (allS (Or.inr sz_b14) all0)
  refine goutW (v := some (.ref b14)) X17 hS (Nat.le_refl T17.heap.size) hZ (jJ hw) hh rfl R19 Bd.notSynchronized (jA Bd.returns) (by first | decide | exact nb rfl) (by dsimp only [Pt.cells, Pt.slots]; omega) ?_ (fun fs hr => retOut X17 hx Bd.returns rfl (Or.inr (Or.inr (Or.inr (Or.inr ⟨rfl, rfl, rfl⟩)))) (hb hby d15_20) hr)
  exact ⟨_, rfl, N17, K19, by rw [nz]; exact T17q⟩
abbrev oc16 := jdk_22_method_1_code
theorem d16_0 : decode oc16 0 = .ok (.aload_n 0, 1) := by decide +kernel
theorem d16_1 : decode oc16 1 = .ok (.invokespecial 1, 3) := by decide +kernel
theorem d16_4 : decode oc16 4 = .ok (.return_, 1) := by decide +kernel
theorem pn_271 : plainName "java/util/AbstractCollection" = true := by first | (simp [plainName, overriddenIn]; done) | decide +kernel
theorem rm_abc (l : Launch) (Z : State) (a0 : Array Value) (hw : HW Z a0) (ws : List Jvm.Cond) (a : Addr) (h0 : Heap) (n0 : Nat) (Z0 : n0 ≤ h0.size) (O0 : Old Z n0 h0) (E_a : Exa Z h0 a "java/util/ArrayList") :
  Ctr l Z (⟨"java/util/AbstractCollection", "<init>", "()V"⟩ : MethodName) oc16 1 ((Option.none : Option Jvm.ClassFile.FieldType)) ws (⟨1, 0, 0, 12⟩ : Room) #[(.ref a)] h0 (fun v h L => v = none ∧ Fr n0 L ∧ h = h0) := by
 refine Ctr.go (plainFor_of_name pn_271) fun p e s m below meth c s₁ Bd hx hby hml hZ hown hnm X0 e0 => ?_
 have hq := And.intro hx hby
 have N0 := Fr.nil n0
 have K0 := Keep.refl h0 []
 refine gs (S' := s₁.setTop (mkF m 0 #[rv a] [])) (fun tg kg => castTop (ef_27 m a) kg) ?_
 refine gs (fun _ k => jb X0 hq d16_0 rfl rfl k) ?_
 obtain ⟨T1, X1, e1, st1⟩ := initO X0 hx hZ hown (ow hw 44 rfl) (ow hw 16 rfl) (ow hw 17 rfl) e0 (g := (mkF m 1 #[rv a] [(.ref a)])) rfl (by rw [hml]; rfl) rfl (hb hby d16_1) (by decide) (W := 0) (jL rfl) (by decide)
 refine gs (S' := T1.setTop (mkF m 4 #[rv a] [])) st1 ?_
 refine gout (v := none) X1 Bd.notSynchronized (fun _ => rfl) (by decide) (by decide) ?_ (fun fs hr => X1.returnOut hx Bd.returns (hb hby d16_4) hr)
 rw [e1]
 exact ⟨rfl, N0, rfl⟩
abbrev oc17 := jdk_39_method_1_code
theorem d17_0 : decode oc17 0 = .ok (.aload_n 0, 1) := by decide +kernel
theorem d17_1 : decode oc17 1 = .ok (.invokespecial 1, 3) := by decide +kernel
theorem pd_276 : parseMethodDescriptor "()V" = some ⟨[], none⟩ := by decide +kernel
theorem d17_4 : decode oc17 4 = .ok (.aload_n 0, 1) := by decide +kernel
theorem d17_5 : decode oc17 5 = .ok (.iconst 0, 1) := by decide +kernel
theorem d17_6 : decode oc17 6 = .ok (.putfield 7, 3) := by decide +kernel
theorem d17_9 : decode oc17 9 = .ok (.return_, 1) := by decide +kernel
theorem pn_281 : plainName "java/util/AbstractList" = true := by first | (simp [plainName, overriddenIn]; done) | decide +kernel
theorem rm_abl (l : Launch) (Z : State) (a0 : Array Value) (hw : HW Z a0) (ws : List Jvm.Cond) (a : Addr) (h0 : Heap) (n0 : Nat) (Z0 : n0 ≤ h0.size) (O0 : Old Z n0 h0) (E_a : Exa Z h0 a "java/util/ArrayList") (F_m : Fld Z h0 a "java/util/AbstractList" "modCount" "I" (.int (0 : Int32))) (F_s : Fld Z h0 a "java/util/ArrayList" "size" "I" (.int (0 : Int32))) (F_e : Fld Z h0 a "java/util/ArrayList" "elementData" "[Ljava/lang/Object;" .null) (g_a : n0 ≤ a) :
  Ctr l Z (⟨"java/util/AbstractList", "<init>", "()V"⟩ : MethodName) oc17 1 ((Option.none : Option Jvm.ClassFile.FieldType)) ws (⟨2, 0, 0, 24⟩ : Room) #[(.ref a)] h0 (fun v h L => v = none ∧ Fr n0 L ∧ Keep h0 h [a] ∧ Fld Z h a "java/util/AbstractList" "modCount" "I" (.int (0 : Int32)) ∧ Fld Z h a "java/util/ArrayList" "size" "I" (.int (0 : Int32)) ∧ Fld Z h a "java/util/ArrayList" "elementData" "[Ljava/lang/Object;" .null) := by
 refine Ctr.go (plainFor_of_name pn_281) fun p e s m below meth c s₁ Bd hx hby hml hZ hown hnm X0 e0 => ?_
 have hq := And.intro hx hby
 have N0 := Fr.nil n0
 have K0 := Keep.refl h0 [a]
 refine gs (S' := s₁.setTop (mkF m 0 #[rv a] [])) (fun tg kg => castTop (ef_27 m a) kg) ?_
 refine gs (fun _ k => jb X0 hq d17_0 rfl rfl k) ?_
 refine cI (rest := []) X0 hx hZ hown rfl (ow hw 38 rfl) (ow hw 39 rfl) (ow hw 42 rfl) (ow hw 43 rfl) (rm_abc l Z a0 hw [] a h0 n0 Z0 O0 E_a) hby d17_1 e0 pd_276 0 (by rw [hml]; rfl) rfl rfl rfl rfl (by decide) (by decide) fun _ T1 Lc1 X1 hQ1 => ?_
 obtain ⟨rfl, N1q, e1q⟩ := hQ1
 have N1 := Fr.app N0 N1q
 refine gs (fun _ k => jb X1 hq d17_4 rfl rfl (jf (v := (0 : Int32)) X1 hq d17_5 k)) ?_
 obtain ⟨T2, h2, X2, e2, W2, st2⟩ := putF X1 hx hZ hown (host := "") (Or.inl (ow hw 45 rfl)) Via.refl e1q F_m E_a (Or.inl (ow hw 46 rfl)) (ow hw 27 rfl) (ty := .int) (by decide) rfl rfl (g := (mkF m 6 #[rv a] [(.int (0 : Int32)), (.ref a)])) rfl rfl (hb hby d17_6)
 have N2 := Fr.snoc X2 N1 g_a
 have Fw2 := F_m.same W2
 have Z3 := nt Z0 (Keep.of_wr W2).1
 have O3 := O0.wr W2 g_a
 have K3 := K0.wr W2 (Or.inl (List.mem_of_getElem? (i := 0) rfl))
 refine gs (S' := T2.setTop (mkF m 9 #[rv a] [])) st2 ?_
 have f4 := (F_s.other W2 (Or.inr (slot_ne (Or.inl (ow hw 169 rfl)) (Or.inl (ow hw 46 rfl)) (by decide) (t := .int) (t' := .int) (by decide) (by decide))))
 have f5 := (F_e.other W2 (Or.inr (slot_ne (Or.inl (ow hw 49 rfl)) (Or.inl (ow hw 46 rfl)) (by decide) (t := (.array (.object "java/lang/Object"))) (t' := .int) (by decide) (by decide))))
 refine gout (v := none) X2 Bd.notSynchronized (fun _ => rfl) (by decide) (by decide) ?_ (fun fs hr => X2.returnOut hx Bd.returns (hb hby d17_9) hr)
 rw [e2]
 exact ⟨rfl, N2, K3, Fw2, f4, f5⟩
abbrev oc18 := jdk_38_method_2_code
theorem d18_0 : decode oc18 0 = .ok (.aload_n 0, 1) := by decide +kernel
theorem d18_1 : decode oc18 1 = .ok (.invokespecial 1, 3) := by decide +kernel
theorem d18_4 : decode oc18 4 = .ok (.aload_n 0, 1) := by decide +kernel
theorem d18_5 : decode oc18 5 = .ok (.getstatic 39, 3) := by decide +kernel
theorem d18_8 : decode oc18 8 = .ok (.putfield 9, 3) := by decide +kernel
theorem d18_11 : decode oc18 11 = .ok (.return_, 1) := by decide +kernel
theorem pn_290 : plainName "java/util/ArrayList" = true := by first | (simp [plainName, overriddenIn]; done) | decide +kernel
theorem rm_ali (l : Launch) (Z : State) (a0 : Array Value) (hw : HW Z a0) (ws : List Jvm.Cond) (a : Addr) (de : Addr) (h0 : Heap) (n0 : Nat) (Z0 : n0 ≤ h0.size) (O0 : Old Z n0 h0) (E_a : Exa Z h0 a "java/util/ArrayList") (F_m : Fld Z h0 a "java/util/AbstractList" "modCount" "I" (.int (0 : Int32))) (F_s : Fld Z h0 a "java/util/ArrayList" "size" "I" (.int (0 : Int32))) (F_e : Fld Z h0 a "java/util/ArrayList" "elementData" "[Ljava/lang/Object;" .null) (g_a : n0 ≤ a) (S_de : PS1 Z (.ref de)) :
  Ctr l Z (⟨"java/util/ArrayList", "<init>", "()V"⟩ : MethodName) oc18 1 ((Option.none : Option Jvm.ClassFile.FieldType)) ws (⟨3, 0, 0, 36⟩ : Room) #[(.ref a)] h0 (fun v h L => v = none ∧ Fr n0 L ∧ Keep h0 h [a] ∧ Fld Z h a "java/util/AbstractList" "modCount" "I" (.int (0 : Int32)) ∧ Fld Z h a "java/util/ArrayList" "size" "I" (.int (0 : Int32)) ∧ Fld Z h a "java/util/ArrayList" "elementData" "[Ljava/lang/Object;" (.ref de)) := by
 refine Ctr.go (plainFor_of_name pn_290) fun p e s m below meth c s₁ Bd hx hby hml hZ hown hnm X0 e0 => ?_
 have hq := And.intro hx hby
 have N0 := Fr.nil n0
 have K0 := Keep.refl h0 [a]
 refine gs (S' := s₁.setTop (mkF m 0 #[rv a] [])) (fun tg kg => castTop (ef_27 m a) kg) ?_
 refine gs (fun _ k => jb X0 hq d18_0 rfl rfl k) ?_
 refine cI (rest := []) X0 hx hZ hown rfl (ow hw 32 rfl) (ow hw 33 rfl) (ow hw 36 rfl) (ow hw 37 rfl) (rm_abl l Z a0 hw [] a h0 n0 Z0 O0 E_a F_m F_s F_e g_a) hby d18_1 e0 pd_276 0 (by rw [hml]; rfl) rfl rfl rfl rfl (by decide) (by decide) fun _ T1 Lc1 X1 hQ1 => ?_
 obtain ⟨rfl, N1q, K1q, F1m, F1s, F1e⟩ := hQ1
 have N1 := Fr.app N0 N1q
 have Z2 := nt Z0 K1q.1
 have O2 := O0.keep K1q (allS g_a all0)
 have K2 := K0.trans K1q (allS (Or.inl (List.mem_of_getElem? (i := 0) rfl)) all0)
 refine gs (fun _ k => jb X1 hq d18_4 rfl rfl k) ?_
 refine gS X1 hx hZ hown (host := "") (Or.inl (ow hw 47 rfl)) Via.refl rfl (S_de.ext O2.2) hby d18_5 fun T3 X3 e3 => ?_
 have f4 := (E_a.keep K1q)
 obtain ⟨T5, h5, X5, e5, W5, st5⟩ := putF X3 hx hZ hown (host := "") (Or.inl (ow hw 48 rfl)) Via.refl e3 F1e f4 (Or.inl (ow hw 49 rfl)) (ow hw 27 rfl) (ty := (.array (.object "java/lang/Object"))) (by decide) rfl rfl (g := (mkF m 8 #[rv a] [(.ref de), (.ref a)])) rfl rfl (hb hby d18_8)
 have N5 := Fr.snoc X5 N1 g_a
 have Fw5 := F1e.same W5
 have Z6 := nt Z2 (Keep.of_wr W5).1
 have O6 := O2.wr W5 g_a
 have K6 := K2.wr W5 (Or.inl (List.mem_of_getElem? (i := 0) rfl))
 refine gs (S' := T5.setTop (mkF m 11 #[rv a] [])) st5 ?_
 have f7 := (F1m.other W5 (Or.inr (slot_ne (Or.inl (ow hw 46 rfl)) (Or.inl (ow hw 49 rfl)) (by decide) (t := .int) (t' := (.array (.object "java/lang/Object"))) (by decide) (by decide))))
 have f8 := (F1s.other W5 (Or.inr (slot_ne (Or.inl (ow hw 169 rfl)) (Or.inl (ow hw 49 rfl)) (by decide) (t := .int) (t' := (.array (.object "java/lang/Object"))) (by decide) (by decide))))
 refine gout (v := none) X5 Bd.notSynchronized (fun _ => rfl) (by decide) (by decide) ?_ (fun fs hr => X5.returnOut hx Bd.returns (hb hby d18_11) hr)
 rw [e5]
 exact ⟨rfl, N5, K6, f7, f8, Fw5⟩
abbrev oc19 := jdk_29_method_65_code
theorem d19_0 : decode oc19 0 = .ok (.iload_n 0, 1) := by decide +kernel
theorem d19_1 : decode oc19 1 = .ok (.iload_n 1, 1) := by decide +kernel
theorem d19_2 : decode oc19 2 = .ok (.if_icmp .lt 7, 3) := by decide +kernel
theorem d19_5 : decode oc19 5 = .ok (.iload_n 0, 1) := by decide +kernel
theorem d19_6 : decode oc19 6 = .ok (.goto 4, 3) := by decide +kernel
theorem d19_10 : decode oc19 10 = .ok (.ireturn, 1) := by decide +kernel
theorem rm_mx10 (l : Launch) (Z : State) (a0 : Array Value) (hw : HW Z a0) (ws : List Jvm.Cond)  (h0 : Heap) (n0 : Nat) (Z0 : n0 ≤ h0.size) (O0 : Old Z n0 h0)  :
  Ctr l Z my11 oc19 2 ((Option.some Jvm.ClassFile.FieldType.int)) ws (⟨0, 0, 0, 0⟩ : Room) #[(.int (10 : Int32)), (.int (1 : Int32))] h0 (fun v h L => v = some (.int (10 : Int32)) ∧ Fr n0 L ∧ h = h0) := by
 refine Ctr.go own_pf1 fun p e s m below meth c s₁ Bd hx hby hml hZ hown hnm X0 e0 => ?_
 have hq := And.intro hx hby
 have N0 := Fr.nil n0
 have K0 := Keep.refl h0 []
 refine gs (S' := s₁.setTop (mkF m 0 #[iv (10 : Int32), iv (1 : Int32)] [])) (fun tg kg => castTop (ef_65 m (10 : Int32) (1 : Int32)) kg) ?_
 refine gs (fun _ k => ji X0 hq d19_0 rfl (ji X0 hq d19_1 rfl (jm X0 hq d19_2 (flt (by decide : ¬ ((10 : Int32) < (1 : Int32)))).1 (ji X0 hq d19_5 rfl (jp (pc' := 10) X0 hq d19_6 k))))) ?_
 refine gout (v := some (.int (10 : Int32))) X0 Bd.notSynchronized (jA Bd.returns) (by decide) (by decide) ?_ (fun fs hr => retI X0 hx Bd.returns (hb hby d19_10) hr)
 rw [e0]
 exact ⟨rfl, N0, rfl⟩
abbrev oc20 := jdk_38_method_6_code
theorem d20_0 : decode oc20 0 = .ok (.aload_n 0, 1) := by decide +kernel
theorem d20_1 : decode oc20 1 = .ok (.getfield 9, 3) := by decide +kernel
theorem d20_4 : decode oc20 4 = .ok (.arraylength, 1) := by decide +kernel
theorem d20_5 : decode oc20 5 = .ok (.istore_n 2, 1) := by decide +kernel
theorem d20_6 : decode oc20 6 = .ok (.iload_n 2, 1) := by decide +kernel
theorem d20_7 : decode oc20 7 = .ok (.ifCond .gt 13, 3) := by decide +kernel
theorem d20_10 : decode oc20 10 = .ok (.aload_n 0, 1) := by decide +kernel
theorem d20_11 : decode oc20 11 = .ok (.getfield 9, 3) := by decide +kernel
theorem d20_14 : decode oc20 14 = .ok (.getstatic 39, 3) := by decide +kernel
theorem d20_17 : decode oc20 17 = .ok (.if_acmp .eq 28, 3) := by decide +kernel
theorem d20_45 : decode oc20 45 = .ok (.aload_n 0, 1) := by decide +kernel
theorem d20_46 : decode oc20 46 = .ok (.bipush 10, 2) := by decide +kernel
theorem d20_48 : decode oc20 48 = .ok (.iload_n 1, 1) := by decide +kernel
theorem d20_49 : decode oc20 49 = .ok (.invokestatic 79, 3) := by decide +kernel
theorem pd_315 : parseMethodDescriptor "(II)I" = some ⟨[.int, .int], some .int⟩ := by decide +kernel
theorem d20_52 : decode oc20 52 = .ok (.anewarray 7, 3) := by decide +kernel
theorem d20_55 : decode oc20 55 = .ok (.dup_x1, 1) := by decide +kernel
theorem d20_56 : decode oc20 56 = .ok (.putfield 9, 3) := by decide +kernel
theorem d20_59 : decode oc20 59 = .ok (.areturn, 1) := by decide +kernel
theorem rm_growI (l : Launch) (Z : State) (a0 : Array Value) (hw : HW Z a0) (ws : List Jvm.Cond) (a : Addr) (de : Addr) (kd : ClassId) (h0 : Heap) (n0 : Nat) (Z0 : n0 ≤ h0.size) (O0 : Old Z n0 h0) (E_a : Exa Z h0 a "java/util/ArrayList") (F_m : Fld Z h0 a "java/util/AbstractList" "modCount" "I" (.int (1 : Int32))) (F_s : Fld Z h0 a "java/util/ArrayList" "size" "I" (.int (0 : Int32))) (F_e : Fld Z h0 a "java/util/ArrayList" "elementData" "[Ljava/lang/Object;" (.ref de)) (g_a : n0 ≤ a) (S_de : PS1 Z (.ref de)) (V_de : Arv Z h0 de kd (.object "java/lang/Object") (0 : Int32) [] .null) :
  Ctr l Z (⟨"java/util/ArrayList", "grow", "(I)[Ljava/lang/Object;"⟩ : MethodName) oc20 4 ((Option.some (Jvm.ClassFile.FieldType.array (Jvm.ClassFile.FieldType.object "java/lang/Object")))) ws (⟨1, 1, 10, 14⟩ : Room) #[(.ref a), (.int (1 : Int32))] h0 (fun v h L => ∃ (ar : Addr) (ka : ClassId), v = some (.ref ar) ∧ Fr n0 L ∧ Keep h0 h [a] ∧ h0.size ≤ ar ∧ Ovr Z ka "java/lang/Object" ∧ Arv Z h ar ka (.object "java/lang/Object") (10 : Int32) [] .null ∧ Fld Z h a "java/util/AbstractList" "modCount" "I" (.int (1 : Int32)) ∧ Fld Z h a "java/util/ArrayList" "size" "I" (.int (0 : Int32)) ∧ Fld Z h a "java/util/ArrayList" "elementData" "[Ljava/lang/Object;" (.ref ar)) := by
 refine Ctr.go (plainFor_of_name pn_290) fun p e s m below meth c s₁ Bd hx hby hml hZ hown hnm X0 e0 => ?_
 have hq := And.intro hx hby
 have N0 := Fr.nil n0
 have K0 := Keep.refl h0 [a]
 refine gs (S' := s₁.setTop (mkF m 0 #[rv a, iv (1 : Int32), uu, uu] [])) (fun tg kg => castTop (ef_175 m a (1 : Int32)) kg) ?_
 refine gs (fun _ k => jb X0 hq d20_0 rfl rfl k) ?_
 refine gF X0 hx hZ hown (host := "") (Or.inl (ow hw 48 rfl)) Via.refl e0 F_e hby d20_1 fun T1 X1 e1 => ?_
 obtain ⟨cl2, A2, a2q, a2S, a2N, a2H, a2G⟩ := id V_de
 refine gs (S' := T1.setTop (mkF m 5 #[rv a, iv (1 : Int32), uu, uu] [(.int (0 : Int32))])) (fun _ k => by refine X1.arraylength hx (by rw [e1]; exact A2.1) (State.isArrayOf_alike hZ.alike A2.2.1) (g := (mkF m 4 #[rv a, iv (1 : Int32), uu, uu] [(.ref de)])) rfl rfl (hb hby d20_4) _ ?_; rw [len_of a2S a2N]; exact k) ?_
 refine gs (fun _ k => jT X1 hq d20_5 (jj rfl) (ji X1 hq d20_6 rfl (jG X1 hq d20_7 ((if0 _ _).trans (flt (by decide : ¬ ((0 : Int32) < (0 : Int32)))).2.2.1) (jb X1 hq d20_10 rfl rfl k)))) ?_
 refine gF X1 hx hZ hown (host := "") (Or.inl (ow hw 48 rfl)) Via.refl e1 F_e hby d20_11 fun T3 X3 e3 => ?_
 refine gS X3 hx hZ hown (host := "") (Or.inl (ow hw 47 rfl)) Via.refl e3 (S_de.ext O0.2) hby d20_14 fun T4 X4 e4 => ?_
 refine gs (fun _ k => Jvm.RoadKit.acmp (g := (mkF m 17 #[rv a, iv (1 : Int32), iv (0 : Int32), uu] [(.ref de), (.ref de)])) X4 hx rfl rfl rfl (pc0 := 17) (pc' := 45) (same := true) rfl (hb hby d20_17) rfl (decide_eq_true rfl) (by decide) (by decide) (jb X4 hq d20_45 rfl rfl (jz (v := (10 : Int32)) X4 hq d20_46 (ji X4 hq d20_48 rfl k)))) ?_
 refine cS (rest := [(.ref a)]) X4 hx hZ hown (ow hw 295 rfl) (ow hw 296 rfl) (ow hw 226 rfl) (ow hw 297 rfl) (rm_mx10 l Z a0 hw []  h0 n0 Z0 O0 ) hby d20_49 e4 pd_315 1 (by rw [hml]; rfl) rfl rfl rfl rfl (by decide) (by decide) fun _ T5 Lc5 X5 hQ5 => ?_
 obtain ⟨rfl, N5q, e5q⟩ := hQ5
 have N5 := Fr.app N0 N5q
 obtain ⟨T6, h6, k6, X6, e6, E6, A6, Ov6, st6⟩ := newR X5 hx hZ hown (ow hw 298 rfl) (ow hw 299 rfl) e5q (g := (mkF m 52 #[rv a, iv (1 : Int32), iv (0 : Int32), uu] [(.int (10 : Int32)), (.ref a)])) rfl (hb hby d20_52) rfl (by decide) (cap := 10) (by decide) (by decide) (by decide) (by decide)
 obtain ⟨b6, q6⟩ : ∃ z, z = h0.size := ⟨_, rfl⟩
 rw [← q6] at A6 st6
 have g_b6 : n0 ≤ b6 := nt Z0 (Nat.le_of_eq q6.symm)
 have sz_b6 : h0.size ≤ b6 := nt K0.1 (Nat.le_of_eq q6.symm)
 have Z7 := nt Z0 E6.1
 have O7 := O0.ext E6
 have K7 := K0.ext E6
 have V6 : Arv Z h6 b6 k6 (.object "java/lang/Object") (10 : Int32) [] .null := Arv.new A6 (by decide)
 refine gs (S' := T6.setTop (mkF m 55 #[rv a, iv (1 : Int32), iv (0 : Int32), uu] [(.ref b6), (.ref a)])) st6 ?_
 refine gs (fun _ k => o_dupX1 X6 hq d20_55 rfl rfl k) ?_
 have f8 := (F_e.ext E6)
 have f9 := (E_a.ext E6)
 obtain ⟨T10, h10, X10, e10, W10, st10⟩ := putF X6 hx hZ hown (host := "") (Or.inl (ow hw 48 rfl)) Via.refl e6 f8 f9 (Or.inl (ow hw 49 rfl)) (ow hw 27 rfl) (ty := (.array (.object "java/lang/Object"))) (by decide) rfl rfl (g := (mkF m 56 #[rv a, iv (1 : Int32), iv (0 : Int32), uu] [(.ref b6), (.ref a), (.ref b6)])) rfl rfl (hb hby d20_56)
 have N10 := Fr.snoc X10 N5 g_a
 have Fw10 := f8.same W10
 have Z11 := nt Z7 (Keep.of_wr W10).1
 have O11 := O7.wr W10 g_a
 have K11 := K7.wr W10 (Or.inl (List.mem_of_getElem? (i := 0) rfl))
 refine gs (S' := T10.setTop (mkF m 59 #[rv a, iv (1 : Int32), iv (0 : Int32), uu] [(.ref b6)])) st10 ?_
 have f12 := (V6.other W10 (Ne.symm (nw (nu (nu E_a.lt (Nat.le_refl _)) (Nat.le_of_eq q6.symm)))))
 have f13 := ((F_m.ext E6).other W10 (Or.inr (slot_ne (Or.inl (ow hw 46 rfl)) (Or.inl (ow hw 49 rfl)) (by decide) (t := .int) (t' := (.array (.object "java/lang/Object"))) (by decide) (by decide))))
 have f14 := ((F_s.ext E6).other W10 (Or.inr (slot_ne (Or.inl (ow hw 169 rfl)) (Or.inl (ow hw 49 rfl)) (by decide) (t := .int) (t' := (.array (.object "java/lang/Object"))) (by decide) (by decide))))
 refine gout (v := some (.ref b6)) X10 Bd.notSynchronized (jA Bd.returns) (by decide) (by decide) ?_ (fun fs hr => retOut X10 hx Bd.returns rfl (Or.inr (Or.inr (Or.inr (Or.inr ⟨rfl, rfl, rfl⟩)))) (hb hby d20_59) hr)
 rw [e10]
 exact ⟨_, _, rfl, N10, K11, sz_b6, Ov6, f12, f13, f14, Fw10⟩
abbrev oc21 := jdk_38_method_7_code
theorem d21_0 : decode oc21 0 = .ok (.aload_n 0, 1) := by decide +kernel
theorem d21_1 : decode oc21 1 = .ok (.aload_n 0, 1) := by decide +kernel
theorem d21_2 : decode oc21 2 = .ok (.getfield 48, 3) := by decide +kernel
theorem d21_5 : decode oc21 5 = .ok (.iconst 1, 1) := by decide +kernel
theorem d21_6 : decode oc21 6 = .ok (.iadd, 1) := by decide +kernel
theorem d21_7 : decode oc21 7 = .ok (.invokevirtual 69, 3) := by decide +kernel
theorem pd_328 : parseMethodDescriptor "(I)[Ljava/lang/Object;" = some ⟨[.int], some (.array (.object "java/lang/Object"))⟩ := by decide +kernel
theorem d21_10 : decode oc21 10 = .ok (.areturn, 1) := by decide +kernel
theorem rm_grow (l : Launch) (Z : State) (a0 : Array Value) (hw : HW Z a0) (ws : List Jvm.Cond) (a : Addr) (de : Addr) (kd : ClassId) (h0 : Heap) (n0 : Nat) (Z0 : n0 ≤ h0.size) (O0 : Old Z n0 h0) (E_a : Exa Z h0 a "java/util/ArrayList") (F_m : Fld Z h0 a "java/util/AbstractList" "modCount" "I" (.int (1 : Int32))) (F_s : Fld Z h0 a "java/util/ArrayList" "size" "I" (.int (0 : Int32))) (F_e : Fld Z h0 a "java/util/ArrayList" "elementData" "[Ljava/lang/Object;" (.ref de)) (g_a : n0 ≤ a) (S_de : PS1 Z (.ref de)) (V_de : Arv Z h0 de kd (.object "java/lang/Object") (0 : Int32) [] .null) :
  Ctr l Z (⟨"java/util/ArrayList", "grow", "()[Ljava/lang/Object;"⟩ : MethodName) oc21 1 ((Option.some (Jvm.ClassFile.FieldType.array (Jvm.ClassFile.FieldType.object "java/lang/Object")))) ws (⟨2, 1, 10, 29⟩ : Room) #[(.ref a)] h0 (fun v h L => ∃ (ar : Addr) (ka : ClassId), v = some (.ref ar) ∧ Fr n0 L ∧ Keep h0 h [a] ∧ h0.size ≤ ar ∧ Ovr Z ka "java/lang/Object" ∧ Arv Z h ar ka (.object "java/lang/Object") (10 : Int32) [] .null ∧ Fld Z h a "java/util/AbstractList" "modCount" "I" (.int (1 : Int32)) ∧ Fld Z h a "java/util/ArrayList" "size" "I" (.int (0 : Int32)) ∧ Fld Z h a "java/util/ArrayList" "elementData" "[Ljava/lang/Object;" (.ref ar)) := by
 refine Ctr.go (plainFor_of_name pn_290) fun p e s m below meth c s₁ Bd hx hby hml hZ hown hnm X0 e0 => ?_
 have hq := And.intro hx hby
 have N0 := Fr.nil n0
 have K0 := Keep.refl h0 [a]
 refine gs (S' := s₁.setTop (mkF m 0 #[rv a] [])) (fun tg kg => castTop (ef_27 m a) kg) ?_
 refine gs (fun _ k => jb X0 hq d21_0 rfl rfl (jb X0 hq d21_1 rfl rfl k)) ?_
 refine gF X0 hx hZ hown (host := "") (Or.inl (ow hw 279 rfl)) Via.refl e0 F_s hby d21_2 fun T1 X1 e1 => ?_
 refine gs (fun _ k => jf (v := (1 : Int32)) X1 hq d21_5 (jt X1 hq d21_6 k)) ?_
 refine cV (rest := []) X1 hx hZ hown (ow hw 290 rfl) (jY (ow hw 291 rfl) (ow hw 294 rfl)) (nfs hZ (ow hw 293 rfl)) (ow hw 293 rfl) (ow hw 291 rfl) (ow hw 28 rfl) (ow hw 294 rfl) (rm_growI l Z a0 hw [] a de kd h0 n0 Z0 O0 E_a F_m F_s F_e g_a S_de V_de) hby d21_7 e1 pd_328 0 (by rw [hml]; rfl) E_a rfl rfl rfl rfl (by decide) (by decide) fun _ T2 Lc2 X2 hQ2 => ?_
 obtain ⟨t2, kb2, rfl, N2q, K2q, g2t, Ov2q, V2q, F2m, F2s, F2e⟩ := hQ2
 have N2 := Fr.app N0 N2q
 have g_t2 : n0 ≤ t2 := nt Z0 g2t
 have sz_t2 : h0.size ≤ t2 := nt K0.1 g2t
 have Z3 := nt Z0 K2q.1
 have O3 := O0.keep K2q (allS g_a all0)
 have K3 := K0.trans K2q (allS (Or.inl (List.mem_of_getElem? (i := 0) rfl)) all0)
 refine gout (v := some (.ref t2)) X2 Bd.notSynchronized (jA Bd.returns) (by decide) (by decide) ?_ (fun fs hr => retOut X2 hx Bd.returns rfl (Or.inr (Or.inr (Or.inr (Or.inr ⟨rfl, rfl, rfl⟩)))) (hb hby d21_10) hr)
 exact ⟨_, _, rfl, N2, K3, sz_t2, Ov2q, V2q, F2m, F2s, F2e⟩
theorem ef_330 (m : MethodId) (x0 : Addr) (x1 : Addr) (x2 : Addr) (x3 : Int32) : entryFrame m #[(.ref x0), (.ref x1), (.ref x2), (.int x3)] 4 = mkF m 0 #[.val (.ref x0), .val (.ref x1), .val (.ref x2), .val (.int x3)] [] := by first | (simp [entryFrame, mkF, argsToLocals, Value.category]; done) | rfl
abbrev oc22 := jdk_38_method_24_code
theorem d22_0 : decode oc22 0 = .ok (.iload_n 3, 1) := by decide +kernel
theorem d22_1 : decode oc22 1 = .ok (.aload_n 2, 1) := by decide +kernel
theorem d22_2 : decode oc22 2 = .ok (.arraylength, 1) := by decide +kernel
theorem d22_3 : decode oc22 3 = .ok (.if_icmp .ne 8, 3) := by decide +kernel
theorem d22_6 : decode oc22 6 = .ok (.aload_n 0, 1) := by decide +kernel
theorem d22_7 : decode oc22 7 = .ok (.invokevirtual 129, 3) := by decide +kernel
theorem pd_338 : parseMethodDescriptor "()[Ljava/lang/Object;" = some ⟨[], some (.array (.object "java/lang/Object"))⟩ := by decide +kernel
theorem d22_10 : decode oc22 10 = .ok (.astore_n 2, 1) := by decide +kernel
theorem d22_11 : decode oc22 11 = .ok (.aload_n 2, 1) := by decide +kernel
theorem d22_12 : decode oc22 12 = .ok (.iload_n 3, 1) := by decide +kernel
theorem d22_13 : decode oc22 13 = .ok (.aload_n 1, 1) := by decide +kernel
theorem d22_14 : decode oc22 14 = .ok (.aastore, 1) := by decide +kernel
theorem d22_15 : decode oc22 15 = .ok (.aload_n 0, 1) := by decide +kernel
theorem d22_16 : decode oc22 16 = .ok (.iload_n 3, 1) := by decide +kernel
theorem d22_17 : decode oc22 17 = .ok (.iconst 1, 1) := by decide +kernel
theorem d22_18 : decode oc22 18 = .ok (.iadd, 1) := by decide +kernel
theorem d22_19 : decode oc22 19 = .ok (.putfield 48, 3) := by decide +kernel
theorem d22_22 : decode oc22 22 = .ok (.return_, 1) := by decide +kernel
theorem rm_adda0 (l : Launch) (Z : State) (a0 : Array Value) (hw : HW Z a0) (ws : List Jvm.Cond) (a : Addr) (de : Addr) (kd : ClassId) (x0 : Addr) (h0 : Heap) (n0 : Nat) (Z0 : n0 ≤ h0.size) (O0 : Old Z n0 h0) (E_a : Exa Z h0 a "java/util/ArrayList") (F_m : Fld Z h0 a "java/util/AbstractList" "modCount" "I" (.int (1 : Int32))) (F_s : Fld Z h0 a "java/util/ArrayList" "size" "I" (.int (0 : Int32))) (F_e : Fld Z h0 a "java/util/ArrayList" "elementData" "[Ljava/lang/Object;" (.ref de)) (g_a : n0 ≤ a) (E_x : Exa Z h0 x0 "java/lang/String") (S_de : PS1 Z (.ref de)) (V_de : Arv Z h0 de kd (.object "java/lang/Object") (0 : Int32) [] .null) :
  Ctr l Z my13 oc22 4 ((Option.none : Option Jvm.ClassFile.FieldType)) ws (⟨3, 1, 10, 41⟩ : Room) #[(.ref a), (.ref x0), (.ref de), (.int (0 : Int32))] h0 (fun v h L => ∃ (ar : Addr) (ka : ClassId), v = none ∧ Fr n0 L ∧ Keep h0 h [a] ∧ h0.size ≤ ar ∧ Ovr Z ka "java/lang/Object" ∧ Arv Z h ar ka (.object "java/lang/Object") (10 : Int32) [(.ref x0)] .null ∧ Fld Z h a "java/util/AbstractList" "modCount" "I" (.int (1 : Int32)) ∧ Fld Z h a "java/util/ArrayList" "size" "I" (.int (1 : Int32)) ∧ Fld Z h a "java/util/ArrayList" "elementData" "[Ljava/lang/Object;" (.ref ar)) := by
 refine Ctr.go (plainFor_of_name pn_290) fun p e s m below meth c s₁ Bd hx hby hml hZ hown hnm X0 e0 => ?_
 have hq := And.intro hx hby
 have N0 := Fr.nil n0
 have K0 := Keep.refl h0 [a]
 refine gs (S' := s₁.setTop (mkF m 0 #[rv a, rv x0, rv de, iv (0 : Int32)] [])) (fun tg kg => castTop (ef_330 m a x0 de (0 : Int32)) kg) ?_
 refine gs (fun _ k => ji X0 hq d22_0 rfl (jb X0 hq d22_1 rfl rfl k)) ?_
 obtain ⟨cl1, A1, a1q, a1S, a1N, a1H, a1G⟩ := id V_de
 refine gs (S' := s₁.setTop (mkF m 3 #[rv a, rv x0, rv de, iv (0 : Int32)] [(.int (0 : Int32)), (.int (0 : Int32))])) (fun _ k => by refine X0.arraylength hx (by rw [e0]; exact A1.1) (State.isArrayOf_alike hZ.alike A1.2.1) (g := (mkF m 2 #[rv a, rv x0, rv de, iv (0 : Int32)] [(.ref de), (.int (0 : Int32))])) rfl rfl (hb hby d22_2) _ ?_; rw [len_of a1S a1N]; exact k) ?_
 refine gs (fun _ k => jm X0 hq d22_3 (teq (by decide : (0 : Int32) = (0 : Int32))).2 (jb X0 hq d22_6 rfl rfl k)) ?_
 refine cV (rest := []) X0 hx hZ hown (ow hw 285 rfl) (jY (ow hw 286 rfl) (ow hw 289 rfl)) (nfs hZ (ow hw 288 rfl)) (ow hw 288 rfl) (ow hw 286 rfl) (ow hw 28 rfl) (ow hw 289 rfl) (rm_grow l Z a0 hw [] a de kd h0 n0 Z0 O0 E_a F_m F_s F_e g_a S_de V_de) hby d22_7 e0 pd_338 0 (by rw [hml]; rfl) E_a rfl rfl rfl rfl (by decide) (by decide) fun _ T2 Lc2 X2 hQ2 => ?_
 obtain ⟨t2, kb2, rfl, N2q, K2q, g2t, Ov2q, V2q, F2m, F2s, F2e⟩ := hQ2
 have N2 := Fr.app N0 N2q
 have g_t2 : n0 ≤ t2 := nt Z0 g2t
 have sz_t2 : h0.size ≤ t2 := nt K0.1 g2t
 have Z3 := nt Z0 K2q.1
 have O3 := O0.keep K2q (allS g_a all0)
 have K3 := K0.trans K2q (allS (Or.inl (List.mem_of_getElem? (i := 0) rfl)) all0)
 refine gs (fun _ k => jR X2 hq d22_10 rfl (jF rfl rfl) (jb X2 hq d22_11 rfl rfl (ji X2 hq d22_12 rfl (jb X2 hq d22_13 rfl rfl k)))) ?_
 have f4 := (E_x.keep K2q)
 obtain ⟨cl5, A5, a5q, a5S, a5N, a5H, a5G⟩ := (V2q.pad (vs' := [.null]) (pad_rep [] .null 1))
 obtain ⟨T5, h5, X5, e5, W5, st5⟩ := stR X2 hx hZ rfl A5 (j := (0 : Int32)) (inb_of a5S ⟨by decide, by decide⟩) rfl (Sto.ofV A5 a5q Ov2q (Ins.of_exa f4 (ow hw 300 rfl))) (g := (mkF m 14 #[rv a, rv x0, rv t2, iv (0 : Int32)] [(.ref x0), (.int (0 : Int32)), (.ref t2)])) rfl rfl (hb hby d22_14)
 have V5 : Arv Z h5 t2 kb2 (.object "java/lang/Object") (10 : Int32) [(.ref x0)] .null := Arv.set A5 a5q a5S a5N a5H a5G rfl W5 0 rfl (nb rfl)
 have N5 := Fr.snoc X5 N2 g_t2
 have Z6 := nt Z3 (Keep.of_wr W5).1
 have O6 := O3.wr W5 g_t2
 have K6 := K3.wr W5 (Or.inr sz_t2)
 refine gs (S' := T5.setTop (mkF m 15 #[rv a, rv x0, rv t2, iv (0 : Int32)] [])) st5 ?_
 refine gs (fun _ k => jb X5 hq d22_15 rfl rfl (ji X5 hq d22_16 rfl (jf (v := (1 : Int32)) X5 hq d22_17 (jt X5 hq d22_18 k)))) ?_
 have f7 := (F2s.other W5 (Or.inl (nw (nu (nu E_a.lt (Nat.le_refl _)) g2t))))
 have f8 := ((E_a.keep K2q).wr W5)
 obtain ⟨T9, h9, X9, e9, W9, st9⟩ := putF X5 hx hZ hown (host := "") (Or.inl (ow hw 279 rfl)) Via.refl e5 f7 f8 (Or.inl (ow hw 169 rfl)) (ow hw 27 rfl) (ty := .int) (by decide) rfl rfl (g := (mkF m 19 #[rv a, rv x0, rv t2, iv (0 : Int32)] [(.int (1 : Int32)), (.ref a)])) rfl rfl (hb hby d22_19)
 have N9 := Fr.snoc X9 N5 g_a
 have Fw9 := f7.same W9
 have Z10 := nt Z6 (Keep.of_wr W9).1
 have O10 := O6.wr W9 g_a
 have K10 := K6.wr W9 (Or.inl (List.mem_of_getElem? (i := 0) rfl))
 refine gs (S' := T9.setTop (mkF m 22 #[rv a, rv x0, rv t2, iv (0 : Int32)] [])) st9 ?_
 have f11 := (V5.other W9 (Ne.symm (nw (nu (nu E_a.lt (Nat.le_refl _)) g2t))))
 have f12 := ((F2m.other W5 (Or.inl (nw (nu (nu E_a.lt (Nat.le_refl _)) g2t)))).other W9 (Or.inr (slot_ne (Or.inl (ow hw 46 rfl)) (Or.inl (ow hw 169 rfl)) (by decide) (t := .int) (t' := .int) (by decide) (by decide))))
 have f13 := ((F2e.other W5 (Or.inl (nw (nu (nu E_a.lt (Nat.le_refl _)) g2t)))).other W9 (Or.inr (slot_ne (Or.inl (ow hw 49 rfl)) (Or.inl (ow hw 169 rfl)) (by decide) (t := (.array (.object "java/lang/Object"))) (t' := .int) (by decide) (by decide))))
 refine gout (v := none) X9 Bd.notSynchronized (fun _ => rfl) (by decide) (by decide) ?_ (fun fs hr => X9.returnOut hx Bd.returns (hb hby d22_22) hr)
 rw [e9]
 exact ⟨_, _, rfl, N9, K10, sz_t2, Ov2q, f11, f12, Fw9, f13⟩
abbrev oc23 := jdk_38_method_25_code
theorem d23_0 : decode oc23 0 = .ok (.aload_n 0, 1) := by decide +kernel
theorem d23_1 : decode oc23 1 = .ok (.dup, 1) := by decide +kernel
theorem d23_2 : decode oc23 2 = .ok (.getfield 63, 3) := by decide +kernel
theorem d23_5 : decode oc23 5 = .ok (.iconst 1, 1) := by decide +kernel
theorem d23_6 : decode oc23 6 = .ok (.iadd, 1) := by decide +kernel
theorem d23_7 : decode oc23 7 = .ok (.putfield 63, 3) := by decide +kernel
theorem d23_10 : decode oc23 10 = .ok (.aload_n 0, 1) := by decide +kernel
theorem d23_11 : decode oc23 11 = .ok (.aload_n 1, 1) := by decide +kernel
theorem d23_12 : decode oc23 12 = .ok (.aload_n 0, 1) := by decide +kernel
theorem d23_13 : decode oc23 13 = .ok (.getfield 9, 3) := by decide +kernel
theorem d23_16 : decode oc23 16 = .ok (.aload_n 0, 1) := by decide +kernel
theorem d23_17 : decode oc23 17 = .ok (.getfield 48, 3) := by decide +kernel
theorem d23_20 : decode oc23 20 = .ok (.invokevirtual 131, 3) := by decide +kernel
theorem pd_365 : parseMethodDescriptor "(Ljava/lang/Object;[Ljava/lang/Object;I)V" = some ⟨[(.object "java/lang/Object"), (.array (.object "java/lang/Object")), .int], none⟩ := by decide +kernel
theorem d23_23 : decode oc23 23 = .ok (.iconst 1, 1) := by decide +kernel
theorem d23_24 : decode oc23 24 = .ok (.ireturn, 1) := by decide +kernel
theorem rm_add0 (l : Launch) (Z : State) (a0 : Array Value) (hw : HW Z a0) (ws : List Jvm.Cond) (a : Addr) (de : Addr) (kd : ClassId) (x0 : Addr) (h0 : Heap) (n0 : Nat) (Z0 : n0 ≤ h0.size) (O0 : Old Z n0 h0) (E_a : Exa Z h0 a "java/util/ArrayList") (F_m : Fld Z h0 a "java/util/AbstractList" "modCount" "I" (.int (0 : Int32))) (F_s : Fld Z h0 a "java/util/ArrayList" "size" "I" (.int (0 : Int32))) (F_e : Fld Z h0 a "java/util/ArrayList" "elementData" "[Ljava/lang/Object;" (.ref de)) (g_a : n0 ≤ a) (E_x : Exa Z h0 x0 "java/lang/String") (S_de : PS1 Z (.ref de)) (V_de : Arv Z h0 de kd (.object "java/lang/Object") (0 : Int32) [] .null) :
  Ctr l Z my3 oc23 2 ((Option.some Jvm.ClassFile.FieldType.boolean)) ws (⟨4, 1, 10, 56⟩ : Room) #[(.ref a), (.ref x0)] h0 (fun v h L => ∃ (ar : Addr) (ka : ClassId), v = some (.int (1 : Int32)) ∧ Fr n0 L ∧ Keep h0 h [a] ∧ h0.size ≤ ar ∧ Ovr Z ka "java/lang/Object" ∧ Arv Z h ar ka (.object "java/lang/Object") (10 : Int32) [(.ref x0)] .null ∧ Fld Z h a "java/util/AbstractList" "modCount" "I" (.int (1 : Int32)) ∧ Fld Z h a "java/util/ArrayList" "size" "I" (.int (1 : Int32)) ∧ Fld Z h a "java/util/ArrayList" "elementData" "[Ljava/lang/Object;" (.ref ar)) := by
 refine Ctr.go (plainFor_of_name pn_290) fun p e s m below meth c s₁ Bd hx hby hml hZ hown hnm X0 e0 => ?_
 have hq := And.intro hx hby
 have N0 := Fr.nil n0
 have K0 := Keep.refl h0 [a]
 refine gs (S' := s₁.setTop (mkF m 0 #[rv a, rv x0] [])) (fun tg kg => castTop (ef_16 m a x0) kg) ?_
 refine gs (fun _ k => jb X0 hq d23_0 rfl rfl (jad X0 hq d23_1 rfl k)) ?_
 refine gF X0 hx hZ hown (host := "") (Or.inl (ow hw 278 rfl)) (Via.of (ow hw 154 rfl)) e0 F_m hby d23_2 fun T1 X1 e1 => ?_
 refine gs (fun _ k => jf (v := (1 : Int32)) X1 hq d23_5 (jt X1 hq d23_6 k)) ?_
 obtain ⟨T2, h2, X2, e2, W2, st2⟩ := putF X1 hx hZ hown (host := "") (Or.inl (ow hw 278 rfl)) (Via.of (ow hw 154 rfl)) e1 F_m E_a (Or.inl (ow hw 46 rfl)) (ow hw 27 rfl) (ty := .int) (by decide) rfl rfl (g := (mkF m 7 #[rv a, rv x0] [(.int (1 : Int32)), (.ref a)])) rfl rfl (hb hby d23_7)
 have N2 := Fr.snoc X2 N0 g_a
 have Fw2 := F_m.same W2
 have Z3 := nt Z0 (Keep.of_wr W2).1
 have O3 := O0.wr W2 g_a
 have K3 := K0.wr W2 (Or.inl (List.mem_of_getElem? (i := 0) rfl))
 refine gs (S' := T2.setTop (mkF m 10 #[rv a, rv x0] [])) st2 ?_
 refine gs (fun _ k => jb X2 hq d23_10 rfl rfl (jb X2 hq d23_11 rfl rfl (jb X2 hq d23_12 rfl rfl k))) ?_
 have f4 := (F_e.other W2 (Or.inr (slot_ne (Or.inl (ow hw 49 rfl)) (Or.inl (ow hw 46 rfl)) (by decide) (t := (.array (.object "java/lang/Object"))) (t' := .int) (by decide) (by decide))))
 refine gF X2 hx hZ hown (host := "") (Or.inl (ow hw 48 rfl)) Via.refl e2 f4 hby d23_13 fun T5 X5 e5 => ?_
 refine gs (fun _ k => jb X5 hq d23_16 rfl rfl k) ?_
 have f6 := (F_s.other W2 (Or.inr (slot_ne (Or.inl (ow hw 169 rfl)) (Or.inl (ow hw 46 rfl)) (by decide) (t := .int) (t' := .int) (by decide) (by decide))))
 refine gF X5 hx hZ hown (host := "") (Or.inl (ow hw 279 rfl)) Via.refl e5 f6 hby d23_17 fun T7 X7 e7 => ?_
 have f8 := (E_a.wr W2)
 have f9 := (E_x.wr W2)
 have f10 := (V_de.other W2 (Ne.symm (Exa.neArv E_a V_de (ow hw 27 rfl))))
 refine cV (rest := []) X7 hx hZ hown (ow hw 280 rfl) (jY (ow hw 281 rfl) (ow hw 284 rfl)) (nfs hZ (ow hw 283 rfl)) (ow hw 283 rfl) (ow hw 281 rfl) (ow hw 28 rfl) (ow hw 284 rfl) (rm_adda0 l Z a0 hw [] a de kd x0 h2 n0 Z3 O3 f8 Fw2 f6 f4 g_a f9 S_de f10) hby d23_20 e7 pd_365 0 (by rw [hml]; rfl) f8 rfl rfl rfl rfl (by decide) (by decide) fun _ T11 Lc11 X11 hQ11 => ?_
 obtain ⟨t11, kb11, rfl, N11q, K11q, g11t, Ov11q, V11q, F11m, F11s, F11e⟩ := hQ11
 have N11 := Fr.app N2 N11q
 have g_t11 : n0 ≤ t11 := nt Z3 g11t
 have sz_t11 : h0.size ≤ t11 := nt K3.1 g11t
 have Z12 := nt Z3 K11q.1
 have O12 := O3.keep K11q (allS g_a all0)
 have K12 := K3.trans K11q (allS (Or.inl (List.mem_of_getElem? (i := 0) rfl)) all0)
 refine gs (fun _ k => jf (v := (1 : Int32)) X11 hq d23_23 k) ?_
 refine gout (v := some (.int (1 : Int32))) X11 Bd.notSynchronized (jA Bd.returns) (by decide) (by decide) ?_ (fun fs hr => retN X11 hx (t := .boolean) Bd.returns (by simp) (hb hby d23_24) hr)
 exact ⟨_, _, rfl, N11, K12, sz_t11, Ov11q, V11q, F11m, F11s, F11e⟩
theorem rm_adda1 (l : Launch) (Z : State) (a0 : Array Value) (hw : HW Z a0) (ws : List Jvm.Cond) (a : Addr) (ar : Addr) (ka : ClassId) (x0 : Addr) (x1 : Addr) (h0 : Heap) (n0 : Nat) (Z0 : n0 ≤ h0.size) (O0 : Old Z n0 h0) (E_a : Exa Z h0 a "java/util/ArrayList") (F_m : Fld Z h0 a "java/util/AbstractList" "modCount" "I" (.int (2 : Int32))) (F_s : Fld Z h0 a "java/util/ArrayList" "size" "I" (.int (1 : Int32))) (F_e : Fld Z h0 a "java/util/ArrayList" "elementData" "[Ljava/lang/Object;" (.ref ar)) (g_a : n0 ≤ a) (E_x : Exa Z h0 x1 "java/lang/String") (V_ar : Arv Z h0 ar ka (.object "java/lang/Object") (10 : Int32) [(.ref x0)] .null) (Ov : Ovr Z ka "java/lang/Object") (g_ar : n0 ≤ ar) :
  Ctr l Z my13 oc22 4 ((Option.none : Option Jvm.ClassFile.FieldType)) ws (⟨0, 0, 0, 0⟩ : Room) #[(.ref a), (.ref x1), (.ref ar), (.int (1 : Int32))] h0 (fun v h L => v = none ∧ Fr n0 L ∧ Keep h0 h [a, ar] ∧ Arv Z h ar ka (.object "java/lang/Object") (10 : Int32) [(.ref x0), (.ref x1)] .null ∧ Fld Z h a "java/util/AbstractList" "modCount" "I" (.int (2 : Int32)) ∧ Fld Z h a "java/util/ArrayList" "size" "I" (.int (2 : Int32)) ∧ Fld Z h a "java/util/ArrayList" "elementData" "[Ljava/lang/Object;" (.ref ar)) := by
 refine Ctr.go (plainFor_of_name pn_290) fun p e s m below meth c s₁ Bd hx hby hml hZ hown hnm X0 e0 => ?_
 have hq := And.intro hx hby
 have N0 := Fr.nil n0
 have K0 := Keep.refl h0 [a, ar]
 refine gs (S' := s₁.setTop (mkF m 0 #[rv a, rv x1, rv ar, iv (1 : Int32)] [])) (fun tg kg => castTop (ef_330 m a x1 ar (1 : Int32)) kg) ?_
 refine gs (fun _ k => ji X0 hq d22_0 rfl (jb X0 hq d22_1 rfl rfl k)) ?_
 obtain ⟨cl1, A1, a1q, a1S, a1N, a1H, a1G⟩ := id V_ar
 refine gs (S' := s₁.setTop (mkF m 3 #[rv a, rv x1, rv ar, iv (1 : Int32)] [(.int (10 : Int32)), (.int (1 : Int32))])) (fun _ k => by refine X0.arraylength hx (by rw [e0]; exact A1.1) (State.isArrayOf_alike hZ.alike A1.2.1) (g := (mkF m 2 #[rv a, rv x1, rv ar, iv (1 : Int32)] [(.ref ar), (.int (1 : Int32))])) rfl rfl (hb hby d22_2) _ ?_; rw [len_of a1S a1N]; exact k) ?_
 refine gs (fun _ k => jh (pc' := 11) X0 hq d22_3 (feq (by decide : ¬ ((1 : Int32) = (10 : Int32)))).2 (jb X0 hq d22_11 rfl rfl (ji X0 hq d22_12 rfl (jb X0 hq d22_13 rfl rfl k)))) ?_
 obtain ⟨cl2, A2, a2q, a2S, a2N, a2H, a2G⟩ := (V_ar.pad (vs' := [(.ref x0), .null]) (pad_rep [(.ref x0)] .null 1))
 obtain ⟨T2, h2, X2, e2, W2, st2⟩ := stR X0 hx hZ e0 A2 (j := (1 : Int32)) (inb_of a2S ⟨by decide, by decide⟩) rfl (Sto.ofV A2 a2q Ov (Ins.of_exa E_x (ow hw 300 rfl))) (g := (mkF m 14 #[rv a, rv x1, rv ar, iv (1 : Int32)] [(.ref x1), (.int (1 : Int32)), (.ref ar)])) rfl rfl (hb hby d22_14)
 have V2 : Arv Z h2 ar ka (.object "java/lang/Object") (10 : Int32) [(.ref x0), (.ref x1)] .null := Arv.set A2 a2q a2S a2N a2H a2G rfl W2 1 rfl (nb rfl)
 have N2 := Fr.snoc X2 N0 g_ar
 have Z3 := nt Z0 (Keep.of_wr W2).1
 have O3 := O0.wr W2 g_ar
 have K3 := K0.wr W2 (Or.inl (List.mem_of_getElem? (i := 1) rfl))
 refine gs (S' := T2.setTop (mkF m 15 #[rv a, rv x1, rv ar, iv (1 : Int32)] [])) st2 ?_
 refine gs (fun _ k => jb X2 hq d22_15 rfl rfl (ji X2 hq d22_16 rfl (jf (v := (1 : Int32)) X2 hq d22_17 (jt X2 hq d22_18 k)))) ?_
 have f4 := (F_s.other W2 (Or.inl (Exa.neArv (E_a.wr W2) V2 (ow hw 27 rfl))))
 have f5 := (E_a.wr W2)
 obtain ⟨T6, h6, X6, e6, W6, st6⟩ := putF X2 hx hZ hown (host := "") (Or.inl (ow hw 279 rfl)) Via.refl e2 f4 f5 (Or.inl (ow hw 169 rfl)) (ow hw 27 rfl) (ty := .int) (by decide) rfl rfl (g := (mkF m 19 #[rv a, rv x1, rv ar, iv (1 : Int32)] [(.int (2 : Int32)), (.ref a)])) rfl rfl (hb hby d22_19)
 have N6 := Fr.snoc X6 N2 g_a
 have Fw6 := f4.same W6
 have Z7 := nt Z3 (Keep.of_wr W6).1
 have O7 := O3.wr W6 g_a
 have K7 := K3.wr W6 (Or.inl (List.mem_of_getElem? (i := 0) rfl))
 refine gs (S' := T6.setTop (mkF m 22 #[rv a, rv x1, rv ar, iv (1 : Int32)] [])) st6 ?_
 have f8 := (V2.other W6 (Ne.symm (Exa.neArv (E_a.wr W2) V2 (ow hw 27 rfl))))
 have f9 := ((F_m.other W2 (Or.inl (Exa.neArv ((E_a.wr W2).wr W6) f8 (ow hw 27 rfl)))).other W6 (Or.inr (slot_ne (Or.inl (ow hw 46 rfl)) (Or.inl (ow hw 169 rfl)) (by decide) (t := .int) (t' := .int) (by decide) (by decide))))
 have f10 := ((F_e.other W2 (Or.inl (Exa.neArv ((E_a.wr W2).wr W6) f8 (ow hw 27 rfl)))).other W6 (Or.inr (slot_ne (Or.inl (ow hw 49 rfl)) (Or.inl (ow hw 169 rfl)) (by decide) (t := (.array (.object "java/lang/Object"))) (t' := .int) (by decide) (by decide))))
 refine gout (v := none) X6 Bd.notSynchronized (fun _ => rfl) (by decide) (by decide) ?_ (fun fs hr => X6.returnOut hx Bd.returns (hb hby d22_22) hr)
 rw [e6]
 exact ⟨rfl, N6, K7, f8, f9, Fw6, f10⟩
theorem rm_add1 (l : Launch) (Z : State) (a0 : Array Value) (hw : HW Z a0) (ws : List Jvm.Cond) (a : Addr) (ar : Addr) (ka : ClassId) (x0 : Addr) (x1 : Addr) (h0 : Heap) (n0 : Nat) (Z0 : n0 ≤ h0.size) (O0 : Old Z n0 h0) (E_a : Exa Z h0 a "java/util/ArrayList") (F_m : Fld Z h0 a "java/util/AbstractList" "modCount" "I" (.int (1 : Int32))) (F_s : Fld Z h0 a "java/util/ArrayList" "size" "I" (.int (1 : Int32))) (F_e : Fld Z h0 a "java/util/ArrayList" "elementData" "[Ljava/lang/Object;" (.ref ar)) (g_a : n0 ≤ a) (E_x : Exa Z h0 x1 "java/lang/String") (V_ar : Arv Z h0 ar ka (.object "java/lang/Object") (10 : Int32) [(.ref x0)] .null) (Ov : Ovr Z ka "java/lang/Object") (g_ar : n0 ≤ ar) :
  Ctr l Z my3 oc23 2 ((Option.some Jvm.ClassFile.FieldType.boolean)) ws (⟨1, 0, 0, 15⟩ : Room) #[(.ref a), (.ref x1)] h0 (fun v h L => v = some (.int (1 : Int32)) ∧ Fr n0 L ∧ Keep h0 h [a, ar] ∧ Arv Z h ar ka (.object "java/lang/Object") (10 : Int32) [(.ref x0), (.ref x1)] .null ∧ Fld Z h a "java/util/AbstractList" "modCount" "I" (.int (2 : Int32)) ∧ Fld Z h a "java/util/ArrayList" "size" "I" (.int (2 : Int32)) ∧ Fld Z h a "java/util/ArrayList" "elementData" "[Ljava/lang/Object;" (.ref ar)) := by
 refine Ctr.go (plainFor_of_name pn_290) fun p e s m below meth c s₁ Bd hx hby hml hZ hown hnm X0 e0 => ?_
 have hq := And.intro hx hby
 have N0 := Fr.nil n0
 have K0 := Keep.refl h0 [a, ar]
 refine gs (S' := s₁.setTop (mkF m 0 #[rv a, rv x1] [])) (fun tg kg => castTop (ef_16 m a x1) kg) ?_
 refine gs (fun _ k => jb X0 hq d23_0 rfl rfl (jad X0 hq d23_1 rfl k)) ?_
 refine gF X0 hx hZ hown (host := "") (Or.inl (ow hw 278 rfl)) (Via.of (ow hw 154 rfl)) e0 F_m hby d23_2 fun T1 X1 e1 => ?_
 refine gs (fun _ k => jf (v := (1 : Int32)) X1 hq d23_5 (jt X1 hq d23_6 k)) ?_
 obtain ⟨T2, h2, X2, e2, W2, st2⟩ := putF X1 hx hZ hown (host := "") (Or.inl (ow hw 278 rfl)) (Via.of (ow hw 154 rfl)) e1 F_m E_a (Or.inl (ow hw 46 rfl)) (ow hw 27 rfl) (ty := .int) (by decide) rfl rfl (g := (mkF m 7 #[rv a, rv x1] [(.int (2 : Int32)), (.ref a)])) rfl rfl (hb hby d23_7)
 have N2 := Fr.snoc X2 N0 g_a
 have Fw2 := F_m.same W2
 have Z3 := nt Z0 (Keep.of_wr W2).1
 have O3 := O0.wr W2 g_a
 have K3 := K0.wr W2 (Or.inl (List.mem_of_getElem? (i := 0) rfl))
 refine gs (S' := T2.setTop (mkF m 10 #[rv a, rv x1] [])) st2 ?_
 refine gs (fun _ k => jb X2 hq d23_10 rfl rfl (jb X2 hq d23_11 rfl rfl (jb X2 hq d23_12 rfl rfl k))) ?_
 have f4 := (F_e.other W2 (Or.inr (slot_ne (Or.inl (ow hw 49 rfl)) (Or.inl (ow hw 46 rfl)) (by decide) (t := (.array (.object "java/lang/Object"))) (t' := .int) (by decide) (by decide))))
 refine gF X2 hx hZ hown (host := "") (Or.inl (ow hw 48 rfl)) Via.refl e2 f4 hby d23_13 fun T5 X5 e5 => ?_
 refine gs (fun _ k => jb X5 hq d23_16 rfl rfl k) ?_
 have f6 := (F_s.other W2 (Or.inr (slot_ne (Or.inl (ow hw 169 rfl)) (Or.inl (ow hw 46 rfl)) (by decide) (t := .int) (t' := .int) (by decide) (by decide))))
 refine gF X5 hx hZ hown (host := "") (Or.inl (ow hw 279 rfl)) Via.refl e5 f6 hby d23_17 fun T7 X7 e7 => ?_
 have f8 := (E_a.wr W2)
 have f9 := (E_x.wr W2)
 have f10 := (V_ar.other W2 (Ne.symm (Exa.neArv E_a V_ar (ow hw 27 rfl))))
 refine cV (rest := []) X7 hx hZ hown (ow hw 280 rfl) (jY (ow hw 281 rfl) (ow hw 284 rfl)) (nfs hZ (ow hw 283 rfl)) (ow hw 283 rfl) (ow hw 281 rfl) (ow hw 28 rfl) (ow hw 284 rfl) (rm_adda1 l Z a0 hw [] a ar ka x0 x1 h2 n0 Z3 O3 f8 Fw2 f6 f4 g_a f9 f10 Ov g_ar) hby d23_20 e7 pd_365 0 (by rw [hml]; rfl) f8 rfl rfl rfl rfl (by decide) (by decide) fun _ T11 Lc11 X11 hQ11 => ?_
 obtain ⟨rfl, N11q, K11q, V11q, F11m, F11s, F11e⟩ := hQ11
 have N11 := Fr.app N2 N11q
 have Z12 := nt Z3 K11q.1
 have O12 := O3.keep K11q (allS g_a (allS g_ar all0))
 have K12 := K3.trans K11q (allS (Or.inl (List.mem_of_getElem? (i := 0) rfl)) (allS (Or.inl (List.mem_of_getElem? (i := 1) rfl)) all0))
 refine gs (fun _ k => jf (v := (1 : Int32)) X11 hq d23_23 k) ?_
 refine gout (v := some (.int (1 : Int32))) X11 Bd.notSynchronized (jA Bd.returns) (by decide) (by decide) ?_ (fun fs hr => retN X11 hx (t := .boolean) Bd.returns (by simp) (hb hby d23_24) hr)
 exact ⟨rfl, N11, K12, V11q, F11m, F11s, F11e⟩
theorem rm_adda2 (l : Launch) (Z : State) (a0 : Array Value) (hw : HW Z a0) (ws : List Jvm.Cond) (a : Addr) (ar : Addr) (ka : ClassId) (x0 : Addr) (x1 : Addr) (x2 : Addr) (h0 : Heap) (n0 : Nat) (Z0 : n0 ≤ h0.size) (O0 : Old Z n0 h0) (E_a : Exa Z h0 a "java/util/ArrayList") (F_m : Fld Z h0 a "java/util/AbstractList" "modCount" "I" (.int (3 : Int32))) (F_s : Fld Z h0 a "java/util/ArrayList" "size" "I" (.int (2 : Int32))) (F_e : Fld Z h0 a "java/util/ArrayList" "elementData" "[Ljava/lang/Object;" (.ref ar)) (g_a : n0 ≤ a) (E_x : Exa Z h0 x2 "java/lang/String") (V_ar : Arv Z h0 ar ka (.object "java/lang/Object") (10 : Int32) [(.ref x0), (.ref x1)] .null) (Ov : Ovr Z ka "java/lang/Object") (g_ar : n0 ≤ ar) :
  Ctr l Z my13 oc22 4 ((Option.none : Option Jvm.ClassFile.FieldType)) ws (⟨0, 0, 0, 0⟩ : Room) #[(.ref a), (.ref x2), (.ref ar), (.int (2 : Int32))] h0 (fun v h L => v = none ∧ Fr n0 L ∧ Keep h0 h [a, ar] ∧ Arv Z h ar ka (.object "java/lang/Object") (10 : Int32) [(.ref x0), (.ref x1), (.ref x2)] .null ∧ Fld Z h a "java/util/AbstractList" "modCount" "I" (.int (3 : Int32)) ∧ Fld Z h a "java/util/ArrayList" "size" "I" (.int (3 : Int32)) ∧ Fld Z h a "java/util/ArrayList" "elementData" "[Ljava/lang/Object;" (.ref ar)) := by
 refine Ctr.go (plainFor_of_name pn_290) fun p e s m below meth c s₁ Bd hx hby hml hZ hown hnm X0 e0 => ?_
 have hq := And.intro hx hby
 have N0 := Fr.nil n0
 have K0 := Keep.refl h0 [a, ar]
 refine gs (S' := s₁.setTop (mkF m 0 #[rv a, rv x2, rv ar, iv (2 : Int32)] [])) (fun tg kg => castTop (ef_330 m a x2 ar (2 : Int32)) kg) ?_
 refine gs (fun _ k => ji X0 hq d22_0 rfl (jb X0 hq d22_1 rfl rfl k)) ?_
 obtain ⟨cl1, A1, a1q, a1S, a1N, a1H, a1G⟩ := id V_ar
 refine gs (S' := s₁.setTop (mkF m 3 #[rv a, rv x2, rv ar, iv (2 : Int32)] [(.int (10 : Int32)), (.int (2 : Int32))])) (fun _ k => by refine X0.arraylength hx (by rw [e0]; exact A1.1) (State.isArrayOf_alike hZ.alike A1.2.1) (g := (mkF m 2 #[rv a, rv x2, rv ar, iv (2 : Int32)] [(.ref ar), (.int (2 : Int32))])) rfl rfl (hb hby d22_2) _ ?_; rw [len_of a1S a1N]; exact k) ?_
 refine gs (fun _ k => jh (pc' := 11) X0 hq d22_3 (feq (by decide : ¬ ((2 : Int32) = (10 : Int32)))).2 (jb X0 hq d22_11 rfl rfl (ji X0 hq d22_12 rfl (jb X0 hq d22_13 rfl rfl k)))) ?_
 obtain ⟨cl2, A2, a2q, a2S, a2N, a2H, a2G⟩ := (V_ar.pad (vs' := [(.ref x0), (.ref x1), .null]) (pad_rep [(.ref x0), (.ref x1)] .null 1))
 obtain ⟨T2, h2, X2, e2, W2, st2⟩ := stR X0 hx hZ e0 A2 (j := (2 : Int32)) (inb_of a2S ⟨by decide, by decide⟩) rfl (Sto.ofV A2 a2q Ov (Ins.of_exa E_x (ow hw 300 rfl))) (g := (mkF m 14 #[rv a, rv x2, rv ar, iv (2 : Int32)] [(.ref x2), (.int (2 : Int32)), (.ref ar)])) rfl rfl (hb hby d22_14)
 have V2 : Arv Z h2 ar ka (.object "java/lang/Object") (10 : Int32) [(.ref x0), (.ref x1), (.ref x2)] .null := Arv.set A2 a2q a2S a2N a2H a2G rfl W2 2 rfl (nb rfl)
 have N2 := Fr.snoc X2 N0 g_ar
 have Z3 := nt Z0 (Keep.of_wr W2).1
 have O3 := O0.wr W2 g_ar
 have K3 := K0.wr W2 (Or.inl (List.mem_of_getElem? (i := 1) rfl))
 refine gs (S' := T2.setTop (mkF m 15 #[rv a, rv x2, rv ar, iv (2 : Int32)] [])) st2 ?_
 refine gs (fun _ k => jb X2 hq d22_15 rfl rfl (ji X2 hq d22_16 rfl (jf (v := (1 : Int32)) X2 hq d22_17 (jt X2 hq d22_18 k)))) ?_
 have f4 := (F_s.other W2 (Or.inl (Exa.neArv (E_a.wr W2) V2 (ow hw 27 rfl))))
 have f5 := (E_a.wr W2)
 obtain ⟨T6, h6, X6, e6, W6, st6⟩ := putF X2 hx hZ hown (host := "") (Or.inl (ow hw 279 rfl)) Via.refl e2 f4 f5 (Or.inl (ow hw 169 rfl)) (ow hw 27 rfl) (ty := .int) (by decide) rfl rfl (g := (mkF m 19 #[rv a, rv x2, rv ar, iv (2 : Int32)] [(.int (3 : Int32)), (.ref a)])) rfl rfl (hb hby d22_19)
 have N6 := Fr.snoc X6 N2 g_a
 have Fw6 := f4.same W6
 have Z7 := nt Z3 (Keep.of_wr W6).1
 have O7 := O3.wr W6 g_a
 have K7 := K3.wr W6 (Or.inl (List.mem_of_getElem? (i := 0) rfl))
 refine gs (S' := T6.setTop (mkF m 22 #[rv a, rv x2, rv ar, iv (2 : Int32)] [])) st6 ?_
 have f8 := (V2.other W6 (Ne.symm (Exa.neArv (E_a.wr W2) V2 (ow hw 27 rfl))))
 have f9 := ((F_m.other W2 (Or.inl (Exa.neArv ((E_a.wr W2).wr W6) f8 (ow hw 27 rfl)))).other W6 (Or.inr (slot_ne (Or.inl (ow hw 46 rfl)) (Or.inl (ow hw 169 rfl)) (by decide) (t := .int) (t' := .int) (by decide) (by decide))))
 have f10 := ((F_e.other W2 (Or.inl (Exa.neArv ((E_a.wr W2).wr W6) f8 (ow hw 27 rfl)))).other W6 (Or.inr (slot_ne (Or.inl (ow hw 49 rfl)) (Or.inl (ow hw 169 rfl)) (by decide) (t := (.array (.object "java/lang/Object"))) (t' := .int) (by decide) (by decide))))
 refine gout (v := none) X6 Bd.notSynchronized (fun _ => rfl) (by decide) (by decide) ?_ (fun fs hr => X6.returnOut hx Bd.returns (hb hby d22_22) hr)
 rw [e6]
 exact ⟨rfl, N6, K7, f8, f9, Fw6, f10⟩
theorem rm_add2 (l : Launch) (Z : State) (a0 : Array Value) (hw : HW Z a0) (ws : List Jvm.Cond) (a : Addr) (ar : Addr) (ka : ClassId) (x0 : Addr) (x1 : Addr) (x2 : Addr) (h0 : Heap) (n0 : Nat) (Z0 : n0 ≤ h0.size) (O0 : Old Z n0 h0) (E_a : Exa Z h0 a "java/util/ArrayList") (F_m : Fld Z h0 a "java/util/AbstractList" "modCount" "I" (.int (2 : Int32))) (F_s : Fld Z h0 a "java/util/ArrayList" "size" "I" (.int (2 : Int32))) (F_e : Fld Z h0 a "java/util/ArrayList" "elementData" "[Ljava/lang/Object;" (.ref ar)) (g_a : n0 ≤ a) (E_x : Exa Z h0 x2 "java/lang/String") (V_ar : Arv Z h0 ar ka (.object "java/lang/Object") (10 : Int32) [(.ref x0), (.ref x1)] .null) (Ov : Ovr Z ka "java/lang/Object") (g_ar : n0 ≤ ar) :
  Ctr l Z my3 oc23 2 ((Option.some Jvm.ClassFile.FieldType.boolean)) ws (⟨1, 0, 0, 15⟩ : Room) #[(.ref a), (.ref x2)] h0 (fun v h L => v = some (.int (1 : Int32)) ∧ Fr n0 L ∧ Keep h0 h [a, ar] ∧ Arv Z h ar ka (.object "java/lang/Object") (10 : Int32) [(.ref x0), (.ref x1), (.ref x2)] .null ∧ Fld Z h a "java/util/AbstractList" "modCount" "I" (.int (3 : Int32)) ∧ Fld Z h a "java/util/ArrayList" "size" "I" (.int (3 : Int32)) ∧ Fld Z h a "java/util/ArrayList" "elementData" "[Ljava/lang/Object;" (.ref ar)) := by
 refine Ctr.go (plainFor_of_name pn_290) fun p e s m below meth c s₁ Bd hx hby hml hZ hown hnm X0 e0 => ?_
 have hq := And.intro hx hby
 have N0 := Fr.nil n0
 have K0 := Keep.refl h0 [a, ar]
 refine gs (S' := s₁.setTop (mkF m 0 #[rv a, rv x2] [])) (fun tg kg => castTop (ef_16 m a x2) kg) ?_
 refine gs (fun _ k => jb X0 hq d23_0 rfl rfl (jad X0 hq d23_1 rfl k)) ?_
 refine gF X0 hx hZ hown (host := "") (Or.inl (ow hw 278 rfl)) (Via.of (ow hw 154 rfl)) e0 F_m hby d23_2 fun T1 X1 e1 => ?_
 refine gs (fun _ k => jf (v := (1 : Int32)) X1 hq d23_5 (jt X1 hq d23_6 k)) ?_
 obtain ⟨T2, h2, X2, e2, W2, st2⟩ := putF X1 hx hZ hown (host := "") (Or.inl (ow hw 278 rfl)) (Via.of (ow hw 154 rfl)) e1 F_m E_a (Or.inl (ow hw 46 rfl)) (ow hw 27 rfl) (ty := .int) (by decide) rfl rfl (g := (mkF m 7 #[rv a, rv x2] [(.int (3 : Int32)), (.ref a)])) rfl rfl (hb hby d23_7)
 have N2 := Fr.snoc X2 N0 g_a
 have Fw2 := F_m.same W2
 have Z3 := nt Z0 (Keep.of_wr W2).1
 have O3 := O0.wr W2 g_a
 have K3 := K0.wr W2 (Or.inl (List.mem_of_getElem? (i := 0) rfl))
 refine gs (S' := T2.setTop (mkF m 10 #[rv a, rv x2] [])) st2 ?_
 refine gs (fun _ k => jb X2 hq d23_10 rfl rfl (jb X2 hq d23_11 rfl rfl (jb X2 hq d23_12 rfl rfl k))) ?_
 have f4 := (F_e.other W2 (Or.inr (slot_ne (Or.inl (ow hw 49 rfl)) (Or.inl (ow hw 46 rfl)) (by decide) (t := (.array (.object "java/lang/Object"))) (t' := .int) (by decide) (by decide))))
 refine gF X2 hx hZ hown (host := "") (Or.inl (ow hw 48 rfl)) Via.refl e2 f4 hby d23_13 fun T5 X5 e5 => ?_
 refine gs (fun _ k => jb X5 hq d23_16 rfl rfl k) ?_
 have f6 := (F_s.other W2 (Or.inr (slot_ne (Or.inl (ow hw 169 rfl)) (Or.inl (ow hw 46 rfl)) (by decide) (t := .int) (t' := .int) (by decide) (by decide))))
 refine gF X5 hx hZ hown (host := "") (Or.inl (ow hw 279 rfl)) Via.refl e5 f6 hby d23_17 fun T7 X7 e7 => ?_
 have f8 := (E_a.wr W2)
 have f9 := (E_x.wr W2)
 have f10 := (V_ar.other W2 (Ne.symm (Exa.neArv E_a V_ar (ow hw 27 rfl))))
 refine cV (rest := []) X7 hx hZ hown (ow hw 280 rfl) (jY (ow hw 281 rfl) (ow hw 284 rfl)) (nfs hZ (ow hw 283 rfl)) (ow hw 283 rfl) (ow hw 281 rfl) (ow hw 28 rfl) (ow hw 284 rfl) (rm_adda2 l Z a0 hw [] a ar ka x0 x1 x2 h2 n0 Z3 O3 f8 Fw2 f6 f4 g_a f9 f10 Ov g_ar) hby d23_20 e7 pd_365 0 (by rw [hml]; rfl) f8 rfl rfl rfl rfl (by decide) (by decide) fun _ T11 Lc11 X11 hQ11 => ?_
 obtain ⟨rfl, N11q, K11q, V11q, F11m, F11s, F11e⟩ := hQ11
 have N11 := Fr.app N2 N11q
 have Z12 := nt Z3 K11q.1
 have O12 := O3.keep K11q (allS g_a (allS g_ar all0))
 have K12 := K3.trans K11q (allS (Or.inl (List.mem_of_getElem? (i := 0) rfl)) (allS (Or.inl (List.mem_of_getElem? (i := 1) rfl)) all0))
 refine gs (fun _ k => jf (v := (1 : Int32)) X11 hq d23_23 k) ?_
 refine gout (v := some (.int (1 : Int32))) X11 Bd.notSynchronized (jA Bd.returns) (by decide) (by decide) ?_ (fun fs hr => retN X11 hx (t := .boolean) Bd.returns (by simp) (hb hby d23_24) hr)
 exact ⟨rfl, N11, K12, V11q, F11m, F11s, F11e⟩
abbrev oc24 := jdk_49_method_1_code
theorem d24_0 : decode oc24 0 = .ok (.aload_n 0, 1) := by decide +kernel
theorem d24_1 : decode oc24 1 = .ok (.aload_n 1, 1) := by decide +kernel
theorem d24_2 : decode oc24 2 = .ok (.putfield 1, 3) := by decide +kernel
theorem d24_5 : decode oc24 5 = .ok (.aload_n 0, 1) := by decide +kernel
theorem d24_6 : decode oc24 6 = .ok (.invokespecial 7, 3) := by decide +kernel
theorem d24_9 : decode oc24 9 = .ok (.aload_n 0, 1) := by decide +kernel
theorem d24_10 : decode oc24 10 = .ok (.iconst (-1), 1) := by decide +kernel
theorem d24_11 : decode oc24 11 = .ok (.putfield 13, 3) := by decide +kernel
theorem d24_14 : decode oc24 14 = .ok (.aload_n 0, 1) := by decide +kernel
theorem d24_15 : decode oc24 15 = .ok (.aload_n 0, 1) := by decide +kernel
theorem d24_16 : decode oc24 16 = .ok (.getfield 1, 3) := by decide +kernel
theorem d24_19 : decode oc24 19 = .ok (.getfield 17, 3) := by decide +kernel
theorem d24_22 : decode oc24 22 = .ok (.putfield 22, 3) := by decide +kernel
theorem d24_25 : decode oc24 25 = .ok (.return_, 1) := by decide +kernel
theorem pn_388 : plainName "java/util/ArrayList$Itr" = true := by first | (simp [plainName, overriddenIn]; done) | decide +kernel
theorem rm_ii0 (l : Launch) (Z : State) (a0 : Array Value) (hw : HW Z a0) (ws : List Jvm.Cond) (it : Addr) (a : Addr) (h0 : Heap) (n0 : Nat) (Z0 : n0 ≤ h0.size) (O0 : Old Z n0 h0) (E_i : Exa Z h0 it "java/util/ArrayList$Itr") (J_t : Fld Z h0 it "java/util/ArrayList$Itr" "this$0" "Ljava/util/ArrayList;" .null) (J_c : Fld Z h0 it "java/util/ArrayList$Itr" "cursor" "I" (.int (0 : Int32))) (J_l : Fld Z h0 it "java/util/ArrayList$Itr" "lastRet" "I" (.int (0 : Int32))) (J_m : Fld Z h0 it "java/util/ArrayList$Itr" "expectedModCount" "I" (.int (0 : Int32))) (g_i : n0 ≤ it) (E_a : Exa Z h0 a "java/util/ArrayList") (F_m : Fld Z h0 a "java/util/AbstractList" "modCount" "I" (.int (0 : Int32))) :
  Ctr l Z my7 oc24 2 ((Option.none : Option Jvm.ClassFile.FieldType)) ws (⟨1, 0, 0, 12⟩ : Room) #[(.ref it), (.ref a)] h0 (fun v h L => v = none ∧ Fr n0 L ∧ Keep h0 h [it] ∧ Fld Z h it "java/util/ArrayList$Itr" "this$0" "Ljava/util/ArrayList;" (.ref a) ∧ Fld Z h it "java/util/ArrayList$Itr" "cursor" "I" (.int (0 : Int32)) ∧ Fld Z h it "java/util/ArrayList$Itr" "lastRet" "I" (.int (-1 : Int32)) ∧ Fld Z h it "java/util/ArrayList$Itr" "expectedModCount" "I" (.int (0 : Int32))) := by
 refine Ctr.go (plainFor_of_name pn_388) fun p e s m below meth c s₁ Bd hx hby hml hZ hown hnm X0 e0 => ?_
 have hq := And.intro hx hby
 have N0 := Fr.nil n0
 have K0 := Keep.refl h0 [it]
 refine gs (S' := s₁.setTop (mkF m 0 #[rv it, rv a] [])) (fun tg kg => castTop (ef_16 m it a) kg) ?_
 refine gs (fun _ k => jb X0 hq d24_0 rfl rfl (jb X0 hq d24_1 rfl rfl k)) ?_
 obtain ⟨T1, h1, X1, e1, W1, st1⟩ := putF X0 hx hZ hown (host := "") (Or.inl (ow hw 148 rfl)) Via.refl e0 J_t E_i (Or.inr ⟨(ow hw 149 rfl), rfl, hnm⟩) (ow hw 142 rfl) (ty := (.object "java/util/ArrayList")) (by decide) rfl rfl (g := (mkF m 2 #[rv it, rv a] [(.ref a), (.ref it)])) rfl rfl (hb hby d24_2)
 have N1 := Fr.snoc X1 N0 g_i
 have Fw1 := J_t.same W1
 have Z2 := nt Z0 (Keep.of_wr W1).1
 have O2 := O0.wr W1 g_i
 have K2 := K0.wr W1 (Or.inl (List.mem_of_getElem? (i := 0) rfl))
 refine gs (S' := T1.setTop (mkF m 5 #[rv it, rv a] [])) st1 ?_
 refine gs (fun _ k => jb X1 hq d24_5 rfl rfl k) ?_
 obtain ⟨T3, X3, e3, st3⟩ := initO X1 hx hZ hown (ow hw 150 rfl) (ow hw 16 rfl) (ow hw 17 rfl) e1 (g := (mkF m 6 #[rv it, rv a] [(.ref it)])) rfl (by rw [hml]; rfl) rfl (hb hby d24_6) (by decide) (W := 0) (jL rfl) (by decide)
 refine gs (S' := T3.setTop (mkF m 9 #[rv it, rv a] [])) st3 ?_
 refine gs (fun _ k => jb X3 hq d24_9 rfl rfl (jf (v := (-1 : Int32)) X3 hq d24_10 k)) ?_
 have f4 := (J_l.other W1 (Or.inr (slot_ne (Or.inl (ow hw 152 rfl)) (Or.inr (ow hw 149 rfl)) (by decide) (t := .int) (t' := (.object "java/util/ArrayList")) (by decide) (by decide))))
 have f5 := (E_i.wr W1)
 obtain ⟨T6, h6, X6, e6, W6, st6⟩ := putF X3 hx hZ hown (host := "") (Or.inl (ow hw 151 rfl)) Via.refl e3 f4 f5 (Or.inl (ow hw 152 rfl)) (ow hw 142 rfl) (ty := .int) (by decide) rfl rfl (g := (mkF m 11 #[rv it, rv a] [(.int (-1 : Int32)), (.ref it)])) rfl rfl (hb hby d24_11)
 have N6 := Fr.snoc X6 N1 g_i
 have Fw6 := f4.same W6
 have Z7 := nt Z2 (Keep.of_wr W6).1
 have O7 := O2.wr W6 g_i
 have K7 := K2.wr W6 (Or.inl (List.mem_of_getElem? (i := 0) rfl))
 refine gs (S' := T6.setTop (mkF m 14 #[rv it, rv a] [])) st6 ?_
 refine gs (fun _ k => jb X6 hq d24_14 rfl rfl (jb X6 hq d24_15 rfl rfl k)) ?_
 have f8 := (Fw1.other W6 (Or.inr (slot_ne (Or.inr (ow hw 149 rfl)) (Or.inl (ow hw 152 rfl)) (by decide) (t := (.object "java/util/ArrayList")) (t' := .int) (by decide) (by decide))))
 refine gF X6 hx hZ hown (host := "") (Or.inl (ow hw 148 rfl)) Via.refl e6 f8 hby d24_16 fun T9 X9 e9 => ?_
 have f10 := ((E_a.wr W1).wr W6)
 have f11 := (f5.wr W6)
 have f12 := ((F_m.other W1 (Or.inl (Exa.ne f10 f11 (by decide)))).other W6 (Or.inl (Exa.ne f10 f11 (by decide))))
 refine gF X9 hx hZ hown (host := "") (Or.inl (ow hw 153 rfl)) (Via.of (ow hw 154 rfl)) e9 f12 hby d24_19 fun T13 X13 e13 => ?_
 have f14 := ((J_m.other W1 (Or.inr (slot_ne (Or.inl (ow hw 156 rfl)) (Or.inr (ow hw 149 rfl)) (by decide) (t := .int) (t' := (.object "java/util/ArrayList")) (by decide) (by decide)))).other W6 (Or.inr (slot_ne (Or.inl (ow hw 156 rfl)) (Or.inl (ow hw 152 rfl)) (by decide) (t := .int) (t' := .int) (by decide) (by decide))))
 obtain ⟨T15, h15, X15, e15, W15, st15⟩ := putF X13 hx hZ hown (host := "") (Or.inl (ow hw 155 rfl)) Via.refl e13 f14 f11 (Or.inl (ow hw 156 rfl)) (ow hw 142 rfl) (ty := .int) (by decide) rfl rfl (g := (mkF m 22 #[rv it, rv a] [(.int (0 : Int32)), (.ref it)])) rfl rfl (hb hby d24_22)
 have N15 := Fr.snoc X15 N6 g_i
 have Fw15 := f14.same W15
 have Z16 := nt Z7 (Keep.of_wr W15).1
 have O16 := O7.wr W15 g_i
 have K16 := K7.wr W15 (Or.inl (List.mem_of_getElem? (i := 0) rfl))
 refine gs (S' := T15.setTop (mkF m 25 #[rv it, rv a] [])) st15 ?_
 have f17 := (f8.other W15 (Or.inr (slot_ne (Or.inr (ow hw 149 rfl)) (Or.inl (ow hw 156 rfl)) (by decide) (t := (.object "java/util/ArrayList")) (t' := .int) (by decide) (by decide))))
 have f18 := (((J_c.other W1 (Or.inr (slot_ne (Or.inl (ow hw 167 rfl)) (Or.inr (ow hw 149 rfl)) (by decide) (t := .int) (t' := (.object "java/util/ArrayList")) (by decide) (by decide)))).other W6 (Or.inr (slot_ne (Or.inl (ow hw 167 rfl)) (Or.inl (ow hw 152 rfl)) (by decide) (t := .int) (t' := .int) (by decide) (by decide)))).other W15 (Or.inr (slot_ne (Or.inl (ow hw 167 rfl)) (Or.inl (ow hw 156 rfl)) (by decide) (t := .int) (t' := .int) (by decide) (by decide))))
 have f19 := (Fw6.other W15 (Or.inr (slot_ne (Or.inl (ow hw 152 rfl)) (Or.inl (ow hw 156 rfl)) (by decide) (t := .int) (t' := .int) (by decide) (by decide))))
 refine gout (v := none) X15 Bd.notSynchronized (fun _ => rfl) (by decide) (by decide) ?_ (fun fs hr => X15.returnOut hx Bd.returns (hb hby d24_25) hr)
 rw [e15]
 exact ⟨rfl, N15, K16, f17, f18, f19, Fw15⟩
abbrev oc25 := jdk_38_method_55_code
theorem d25_0 : decode oc25 0 = .ok (.new 267, 3) := by decide +kernel
theorem d25_3 : decode oc25 3 = .ok (.dup, 1) := by decide +kernel
theorem d25_4 : decode oc25 4 = .ok (.aload_n 0, 1) := by decide +kernel
theorem d25_5 : decode oc25 5 = .ok (.invokespecial 269, 3) := by decide +kernel
theorem pd_395 : parseMethodDescriptor "(Ljava/util/ArrayList;)V" = some ⟨[(.object "java/util/ArrayList")], none⟩ := by decide +kernel
theorem d25_8 : decode oc25 8 = .ok (.areturn, 1) := by decide +kernel
theorem rm_it0 (l : Launch) (Z : State) (a0 : Array Value) (hw : HW Z a0) (ws : List Jvm.Cond) (a : Addr) (h0 : Heap) (n0 : Nat) (Z0 : n0 ≤ h0.size) (O0 : Old Z n0 h0) (E_a : Exa Z h0 a "java/util/ArrayList") (F_m : Fld Z h0 a "java/util/AbstractList" "modCount" "I" (.int (0 : Int32))) :
  Ctr l Z my4 oc25 1 ((Option.some (Jvm.ClassFile.FieldType.object "java/util/Iterator"))) ws (⟨2, 1, 4, 26⟩ : Room) #[(.ref a)] h0 (fun v h L => ∃ it : Addr, v = some (.ref it) ∧ Fr n0 L ∧ Keep h0 h [] ∧ h0.size ≤ it ∧ Exa Z h it "java/util/ArrayList$Itr" ∧ Fld Z h it "java/util/ArrayList$Itr" "this$0" "Ljava/util/ArrayList;" (.ref a) ∧ Fld Z h it "java/util/ArrayList$Itr" "cursor" "I" (.int (0 : Int32)) ∧ Fld Z h it "java/util/ArrayList$Itr" "lastRet" "I" (.int (-1 : Int32)) ∧ Fld Z h it "java/util/ArrayList$Itr" "expectedModCount" "I" (.int (0 : Int32))) := by
 refine Ctr.go (plainFor_of_name pn_290) fun p e s m below meth c s₁ Bd hx hby hml hZ hown hnm X0 e0 => ?_
 have hq := And.intro hx hby
 have N0 := Fr.nil n0
 have K0 := Keep.refl h0 []
 refine gs (S' := s₁.setTop (mkF m 0 #[rv a] [])) (fun tg kg => castTop (ef_27 m a) kg) ?_
 obtain ⟨T1, h1, X1, e1, E1, A1, D1, -, st1⟩ := newO X0 hx hZ hown (ow hw 141 rfl) (ow hw 142 rfl) (ow hw 143 rfl) e0 (g := (mkF m 0 #[rv a] [])) rfl (hb hby d25_0) (by decide) (by decide)
 obtain ⟨b1, q1⟩ : ∃ z, z = h0.size := ⟨_, rfl⟩
 rw [← q1] at A1 D1 st1
 have g_b1 : n0 ≤ b1 := nt Z0 (Nat.le_of_eq q1.symm)
 have sz_b1 : h0.size ≤ b1 := nt K0.1 (Nat.le_of_eq q1.symm)
 have Z2 := nt Z0 E1.1
 have O2 := O0.ext E1
 have K2 := K0.ext E1
 have F_this_0_b1 : Fld Z h1 b1 "java/util/ArrayList$Itr" "this$0" "Ljava/util/ArrayList;" .null := D1 (Or.inr (ow hw 149 rfl)) (ty := (.object "java/util/ArrayList")) (by decide)
 have F_lastRet_b1 : Fld Z h1 b1 "java/util/ArrayList$Itr" "lastRet" "I" (.int (0 : Int32)) := D1 (Or.inl (ow hw 152 rfl)) (ty := .int) (by decide)
 have F_expectedModCount_b1 : Fld Z h1 b1 "java/util/ArrayList$Itr" "expectedModCount" "I" (.int (0 : Int32)) := D1 (Or.inl (ow hw 156 rfl)) (ty := .int) (by decide)
 have F_cursor_b1 : Fld Z h1 b1 "java/util/ArrayList$Itr" "cursor" "I" (.int (0 : Int32)) := D1 (Or.inl (ow hw 167 rfl)) (ty := .int) (by decide)
 refine gs (S' := T1.setTop (mkF m 3 #[rv a] [(.ref b1)])) st1 ?_
 refine gs (fun _ k => jad X1 hq d25_3 rfl (jb X1 hq d25_4 rfl rfl k)) ?_
 have f3 := (E_a.ext E1)
 have f4 := (F_m.ext E1)
 refine cI (rest := [(.ref b1)]) X1 hx hZ hown rfl (ow hw 144 rfl) (ow hw 145 rfl) (ow hw 143 rfl) (ow hw 147 rfl) (rm_ii0 l Z a0 hw [] b1 a h1 n0 Z2 O2 A1 F_this_0_b1 F_cursor_b1 F_lastRet_b1 F_expectedModCount_b1 g_b1 f3 f4) hby d25_5 e1 pd_395 1 (by rw [hml]; rfl) rfl rfl rfl rfl (by decide) (by decide) fun _ T5 Lc5 X5 hQ5 => ?_
 obtain ⟨rfl, N5q, K5q, J5t, J5c, J5l, J5m⟩ := hQ5
 have N5 := Fr.app N0 N5q
 have Z6 := nt Z2 K5q.1
 have O6 := O2.keep K5q (allS g_b1 all0)
 have K6 := K2.trans K5q (allS (Or.inr sz_b1) all0)
 have f7 := (A1.keep K5q)
 refine gout (v := some (.ref b1)) X5 Bd.notSynchronized (jA Bd.returns) (by decide) (by decide) ?_ (fun fs hr => retOut X5 hx Bd.returns rfl (Or.inr (Or.inr (Or.inr (Or.inr ⟨rfl, rfl, rfl⟩)))) (hb hby d25_8) hr)
 exact ⟨_, rfl, N5, K6, sz_b1, f7, J5t, J5c, J5l, J5m⟩
abbrev oc26 := jdk_49_method_6_code
theorem d26_0 : decode oc26 0 = .ok (.aload_n 0, 1) := by decide +kernel
theorem d26_1 : decode oc26 1 = .ok (.getfield 1, 3) := by decide +kernel
theorem d26_4 : decode oc26 4 = .ok (.getfield 17, 3) := by decide +kernel
theorem d26_7 : decode oc26 7 = .ok (.aload_n 0, 1) := by decide +kernel
theorem d26_8 : decode oc26 8 = .ok (.getfield 22, 3) := by decide +kernel
theorem d26_11 : decode oc26 11 = .ok (.if_icmp .eq 11, 3) := by decide +kernel
theorem d26_22 : decode oc26 22 = .ok (.return_, 1) := by decide +kernel
abbrev oc27 := jdk_49_method_2_code
theorem d27_0 : decode oc27 0 = .ok (.aload_n 0, 1) := by decide +kernel
theorem d27_1 : decode oc27 1 = .ok (.getfield 25, 3) := by decide +kernel
theorem d27_4 : decode oc27 4 = .ok (.aload_n 0, 1) := by decide +kernel
theorem d27_5 : decode oc27 5 = .ok (.getfield 1, 3) := by decide +kernel
theorem d27_8 : decode oc27 8 = .ok (.getfield 28, 3) := by decide +kernel
theorem d27_11 : decode oc27 11 = .ok (.if_icmp .eq 7, 3) := by decide +kernel
theorem d27_18 : decode oc27 18 = .ok (.iconst 0, 1) := by decide +kernel
theorem d27_19 : decode oc27 19 = .ok (.ireturn, 1) := by decide +kernel
theorem rm_hn00 (l : Launch) (Z : State) (a0 : Array Value) (hw : HW Z a0) (ws : List Jvm.Cond) (it : Addr) (a : Addr) (h0 : Heap) (n0 : Nat) (Z0 : n0 ≤ h0.size) (O0 : Old Z n0 h0) (J_t : Fld Z h0 it "java/util/ArrayList$Itr" "this$0" "Ljava/util/ArrayList;" (.ref a)) (J_c : Fld Z h0 it "java/util/ArrayList$Itr" "cursor" "I" (.int (0 : Int32))) (F_s : Fld Z h0 a "java/util/ArrayList" "size" "I" (.int (0 : Int32))) :
  Ctr l Z my0 oc27 1 ((Option.some Jvm.ClassFile.FieldType.boolean)) ws (⟨0, 0, 0, 0⟩ : Room) #[(.ref it)] h0 (fun v h L => v = some (.int (0 : Int32)) ∧ Fr n0 L ∧ h = h0) := by
 refine Ctr.go (plainFor_of_name pn_388) fun p e s m below meth c s₁ Bd hx hby hml hZ hown hnm X0 e0 => ?_
 have hq := And.intro hx hby
 have N0 := Fr.nil n0
 have K0 := Keep.refl h0 []
 refine gs (S' := s₁.setTop (mkF m 0 #[rv it] [])) (fun tg kg => castTop (ef_27 m it) kg) ?_
 refine gs (fun _ k => jb X0 hq d27_0 rfl rfl k) ?_
 refine gF X0 hx hZ hown (host := "") (Or.inl (ow hw 166 rfl)) Via.refl e0 J_c hby d27_1 fun T1 X1 e1 => ?_
 refine gs (fun _ k => jb X1 hq d27_4 rfl rfl k) ?_
 refine gF X1 hx hZ hown (host := "") (Or.inl (ow hw 148 rfl)) Via.refl e1 J_t hby d27_5 fun T2 X2 e2 => ?_
 refine gF X2 hx hZ hown (Or.inr (ow hw 168 rfl)) Via.refl e2 F_s hby d27_8 fun T3 X3 e3 => ?_
 refine gs (fun _ k => jh (pc' := 18) X3 hq d27_11 (teq (by decide : (0 : Int32) = (0 : Int32))).1 (jf (v := (0 : Int32)) X3 hq d27_18 k)) ?_
 refine gout (v := some (.int (0 : Int32))) X3 Bd.notSynchronized (jA Bd.returns) (by decide) (by decide) ?_ (fun fs hr => retN X3 hx (t := .boolean) Bd.returns (by simp) (hb hby d27_19) hr)
 rw [e3]
 exact ⟨rfl, N0, rfl⟩
theorem rm_ii1 (l : Launch) (Z : State) (a0 : Array Value) (hw : HW Z a0) (ws : List Jvm.Cond) (it : Addr) (a : Addr) (h0 : Heap) (n0 : Nat) (Z0 : n0 ≤ h0.size) (O0 : Old Z n0 h0) (E_i : Exa Z h0 it "java/util/ArrayList$Itr") (J_t : Fld Z h0 it "java/util/ArrayList$Itr" "this$0" "Ljava/util/ArrayList;" .null) (J_c : Fld Z h0 it "java/util/ArrayList$Itr" "cursor" "I" (.int (0 : Int32))) (J_l : Fld Z h0 it "java/util/ArrayList$Itr" "lastRet" "I" (.int (0 : Int32))) (J_m : Fld Z h0 it "java/util/ArrayList$Itr" "expectedModCount" "I" (.int (0 : Int32))) (g_i : n0 ≤ it) (E_a : Exa Z h0 a "java/util/ArrayList") (F_m : Fld Z h0 a "java/util/AbstractList" "modCount" "I" (.int (1 : Int32))) :
  Ctr l Z my7 oc24 2 ((Option.none : Option Jvm.ClassFile.FieldType)) ws (⟨1, 0, 0, 12⟩ : Room) #[(.ref it), (.ref a)] h0 (fun v h L => v = none ∧ Fr n0 L ∧ Keep h0 h [it] ∧ Fld Z h it "java/util/ArrayList$Itr" "this$0" "Ljava/util/ArrayList;" (.ref a) ∧ Fld Z h it "java/util/ArrayList$Itr" "cursor" "I" (.int (0 : Int32)) ∧ Fld Z h it "java/util/ArrayList$Itr" "lastRet" "I" (.int (-1 : Int32)) ∧ Fld Z h it "java/util/ArrayList$Itr" "expectedModCount" "I" (.int (1 : Int32))) := by
 refine Ctr.go (plainFor_of_name pn_388) fun p e s m below meth c s₁ Bd hx hby hml hZ hown hnm X0 e0 => ?_
 have hq := And.intro hx hby
 have N0 := Fr.nil n0
 have K0 := Keep.refl h0 [it]
 refine gs (S' := s₁.setTop (mkF m 0 #[rv it, rv a] [])) (fun tg kg => castTop (ef_16 m it a) kg) ?_
 refine gs (fun _ k => jb X0 hq d24_0 rfl rfl (jb X0 hq d24_1 rfl rfl k)) ?_
 obtain ⟨T1, h1, X1, e1, W1, st1⟩ := putF X0 hx hZ hown (host := "") (Or.inl (ow hw 148 rfl)) Via.refl e0 J_t E_i (Or.inr ⟨(ow hw 149 rfl), rfl, hnm⟩) (ow hw 142 rfl) (ty := (.object "java/util/ArrayList")) (by decide) rfl rfl (g := (mkF m 2 #[rv it, rv a] [(.ref a), (.ref it)])) rfl rfl (hb hby d24_2)
 have N1 := Fr.snoc X1 N0 g_i
 have Fw1 := J_t.same W1
 have Z2 := nt Z0 (Keep.of_wr W1).1
 have O2 := O0.wr W1 g_i
 have K2 := K0.wr W1 (Or.inl (List.mem_of_getElem? (i := 0) rfl))
 refine gs (S' := T1.setTop (mkF m 5 #[rv it, rv a] [])) st1 ?_
 refine gs (fun _ k => jb X1 hq d24_5 rfl rfl k) ?_
 obtain ⟨T3, X3, e3, st3⟩ := initO X1 hx hZ hown (ow hw 150 rfl) (ow hw 16 rfl) (ow hw 17 rfl) e1 (g := (mkF m 6 #[rv it, rv a] [(.ref it)])) rfl (by rw [hml]; rfl) rfl (hb hby d24_6) (by decide) (W := 0) (jL rfl) (by decide)
 refine gs (S' := T3.setTop (mkF m 9 #[rv it, rv a] [])) st3 ?_
 refine gs (fun _ k => jb X3 hq d24_9 rfl rfl (jf (v := (-1 : Int32)) X3 hq d24_10 k)) ?_
 have f4 := (J_l.other W1 (Or.inr (slot_ne (Or.inl (ow hw 152 rfl)) (Or.inr (ow hw 149 rfl)) (by decide) (t := .int) (t' := (.object "java/util/ArrayList")) (by decide) (by decide))))
 have f5 := (E_i.wr W1)
 obtain ⟨T6, h6, X6, e6, W6, st6⟩ := putF X3 hx hZ hown (host := "") (Or.inl (ow hw 151 rfl)) Via.refl e3 f4 f5 (Or.inl (ow hw 152 rfl)) (ow hw 142 rfl) (ty := .int) (by decide) rfl rfl (g := (mkF m 11 #[rv it, rv a] [(.int (-1 : Int32)), (.ref it)])) rfl rfl (hb hby d24_11)
 have N6 := Fr.snoc X6 N1 g_i
 have Fw6 := f4.same W6
 have Z7 := nt Z2 (Keep.of_wr W6).1
 have O7 := O2.wr W6 g_i
 have K7 := K2.wr W6 (Or.inl (List.mem_of_getElem? (i := 0) rfl))
 refine gs (S' := T6.setTop (mkF m 14 #[rv it, rv a] [])) st6 ?_
 refine gs (fun _ k => jb X6 hq d24_14 rfl rfl (jb X6 hq d24_15 rfl rfl k)) ?_
 have f8 := (Fw1.other W6 (Or.inr (slot_ne (Or.inr (ow hw 149 rfl)) (Or.inl (ow hw 152 rfl)) (by decide) (t := (.object "java/util/ArrayList")) (t' := .int) (by decide) (by decide))))
 refine gF X6 hx hZ hown (host := "") (Or.inl (ow hw 148 rfl)) Via.refl e6 f8 hby d24_16 fun T9 X9 e9 => ?_
 have f10 := ((E_a.wr W1).wr W6)
 have f11 := (f5.wr W6)
 have f12 := ((F_m.other W1 (Or.inl (Exa.ne f10 f11 (by decide)))).other W6 (Or.inl (Exa.ne f10 f11 (by decide))))
 refine gF X9 hx hZ hown (host := "") (Or.inl (ow hw 153 rfl)) (Via.of (ow hw 154 rfl)) e9 f12 hby d24_19 fun T13 X13 e13 => ?_
 have f14 := ((J_m.other W1 (Or.inr (slot_ne (Or.inl (ow hw 156 rfl)) (Or.inr (ow hw 149 rfl)) (by decide) (t := .int) (t' := (.object "java/util/ArrayList")) (by decide) (by decide)))).other W6 (Or.inr (slot_ne (Or.inl (ow hw 156 rfl)) (Or.inl (ow hw 152 rfl)) (by decide) (t := .int) (t' := .int) (by decide) (by decide))))
 obtain ⟨T15, h15, X15, e15, W15, st15⟩ := putF X13 hx hZ hown (host := "") (Or.inl (ow hw 155 rfl)) Via.refl e13 f14 f11 (Or.inl (ow hw 156 rfl)) (ow hw 142 rfl) (ty := .int) (by decide) rfl rfl (g := (mkF m 22 #[rv it, rv a] [(.int (1 : Int32)), (.ref it)])) rfl rfl (hb hby d24_22)
 have N15 := Fr.snoc X15 N6 g_i
 have Fw15 := f14.same W15
 have Z16 := nt Z7 (Keep.of_wr W15).1
 have O16 := O7.wr W15 g_i
 have K16 := K7.wr W15 (Or.inl (List.mem_of_getElem? (i := 0) rfl))
 refine gs (S' := T15.setTop (mkF m 25 #[rv it, rv a] [])) st15 ?_
 have f17 := (f8.other W15 (Or.inr (slot_ne (Or.inr (ow hw 149 rfl)) (Or.inl (ow hw 156 rfl)) (by decide) (t := (.object "java/util/ArrayList")) (t' := .int) (by decide) (by decide))))
 have f18 := (((J_c.other W1 (Or.inr (slot_ne (Or.inl (ow hw 167 rfl)) (Or.inr (ow hw 149 rfl)) (by decide) (t := .int) (t' := (.object "java/util/ArrayList")) (by decide) (by decide)))).other W6 (Or.inr (slot_ne (Or.inl (ow hw 167 rfl)) (Or.inl (ow hw 152 rfl)) (by decide) (t := .int) (t' := .int) (by decide) (by decide)))).other W15 (Or.inr (slot_ne (Or.inl (ow hw 167 rfl)) (Or.inl (ow hw 156 rfl)) (by decide) (t := .int) (t' := .int) (by decide) (by decide))))
 have f19 := (Fw6.other W15 (Or.inr (slot_ne (Or.inl (ow hw 152 rfl)) (Or.inl (ow hw 156 rfl)) (by decide) (t := .int) (t' := .int) (by decide) (by decide))))
 refine gout (v := none) X15 Bd.notSynchronized (fun _ => rfl) (by decide) (by decide) ?_ (fun fs hr => X15.returnOut hx Bd.returns (hb hby d24_25) hr)
 rw [e15]
 exact ⟨rfl, N15, K16, f17, f18, f19, Fw15⟩
theorem rm_it1 (l : Launch) (Z : State) (a0 : Array Value) (hw : HW Z a0) (ws : List Jvm.Cond) (a : Addr) (h0 : Heap) (n0 : Nat) (Z0 : n0 ≤ h0.size) (O0 : Old Z n0 h0) (E_a : Exa Z h0 a "java/util/ArrayList") (F_m : Fld Z h0 a "java/util/AbstractList" "modCount" "I" (.int (1 : Int32))) :
  Ctr l Z my4 oc25 1 ((Option.some (Jvm.ClassFile.FieldType.object "java/util/Iterator"))) ws (⟨2, 1, 4, 26⟩ : Room) #[(.ref a)] h0 (fun v h L => ∃ it : Addr, v = some (.ref it) ∧ Fr n0 L ∧ Keep h0 h [] ∧ h0.size ≤ it ∧ Exa Z h it "java/util/ArrayList$Itr" ∧ Fld Z h it "java/util/ArrayList$Itr" "this$0" "Ljava/util/ArrayList;" (.ref a) ∧ Fld Z h it "java/util/ArrayList$Itr" "cursor" "I" (.int (0 : Int32)) ∧ Fld Z h it "java/util/ArrayList$Itr" "lastRet" "I" (.int (-1 : Int32)) ∧ Fld Z h it "java/util/ArrayList$Itr" "expectedModCount" "I" (.int (1 : Int32))) := by
 refine Ctr.go (plainFor_of_name pn_290) fun p e s m below meth c s₁ Bd hx hby hml hZ hown hnm X0 e0 => ?_
 have hq := And.intro hx hby
 have N0 := Fr.nil n0
 have K0 := Keep.refl h0 []
 refine gs (S' := s₁.setTop (mkF m 0 #[rv a] [])) (fun tg kg => castTop (ef_27 m a) kg) ?_
 obtain ⟨T1, h1, X1, e1, E1, A1, D1, -, st1⟩ := newO X0 hx hZ hown (ow hw 141 rfl) (ow hw 142 rfl) (ow hw 143 rfl) e0 (g := (mkF m 0 #[rv a] [])) rfl (hb hby d25_0) (by decide) (by decide)
 obtain ⟨b1, q1⟩ : ∃ z, z = h0.size := ⟨_, rfl⟩
 rw [← q1] at A1 D1 st1
 have g_b1 : n0 ≤ b1 := nt Z0 (Nat.le_of_eq q1.symm)
 have sz_b1 : h0.size ≤ b1 := nt K0.1 (Nat.le_of_eq q1.symm)
 have Z2 := nt Z0 E1.1
 have O2 := O0.ext E1
 have K2 := K0.ext E1
 have F_this_0_b1 : Fld Z h1 b1 "java/util/ArrayList$Itr" "this$0" "Ljava/util/ArrayList;" .null := D1 (Or.inr (ow hw 149 rfl)) (ty := (.object "java/util/ArrayList")) (by decide)
 have F_lastRet_b1 : Fld Z h1 b1 "java/util/ArrayList$Itr" "lastRet" "I" (.int (0 : Int32)) := D1 (Or.inl (ow hw 152 rfl)) (ty := .int) (by decide)
 have F_expectedModCount_b1 : Fld Z h1 b1 "java/util/ArrayList$Itr" "expectedModCount" "I" (.int (0 : Int32)) := D1 (Or.inl (ow hw 156 rfl)) (ty := .int) (by decide)
 have F_cursor_b1 : Fld Z h1 b1 "java/util/ArrayList$Itr" "cursor" "I" (.int (0 : Int32)) := D1 (Or.inl (ow hw 167 rfl)) (ty := .int) (by decide)
 refine gs (S' := T1.setTop (mkF m 3 #[rv a] [(.ref b1)])) st1 ?_
 refine gs (fun _ k => jad X1 hq d25_3 rfl (jb X1 hq d25_4 rfl rfl k)) ?_
 have f3 := (E_a.ext E1)
 have f4 := (F_m.ext E1)
 refine cI (rest := [(.ref b1)]) X1 hx hZ hown rfl (ow hw 144 rfl) (ow hw 145 rfl) (ow hw 143 rfl) (ow hw 147 rfl) (rm_ii1 l Z a0 hw [] b1 a h1 n0 Z2 O2 A1 F_this_0_b1 F_cursor_b1 F_lastRet_b1 F_expectedModCount_b1 g_b1 f3 f4) hby d25_5 e1 pd_395 1 (by rw [hml]; rfl) rfl rfl rfl rfl (by decide) (by decide) fun _ T5 Lc5 X5 hQ5 => ?_
 obtain ⟨rfl, N5q, K5q, J5t, J5c, J5l, J5m⟩ := hQ5
 have N5 := Fr.app N0 N5q
 have Z6 := nt Z2 K5q.1
 have O6 := O2.keep K5q (allS g_b1 all0)
 have K6 := K2.trans K5q (allS (Or.inr sz_b1) all0)
 have f7 := (A1.keep K5q)
 refine gout (v := some (.ref b1)) X5 Bd.notSynchronized (jA Bd.returns) (by decide) (by decide) ?_ (fun fs hr => retOut X5 hx Bd.returns rfl (Or.inr (Or.inr (Or.inr (Or.inr ⟨rfl, rfl, rfl⟩)))) (hb hby d25_8) hr)
 exact ⟨_, rfl, N5, K6, sz_b1, f7, J5t, J5c, J5l, J5m⟩
theorem rm_cm1 (l : Launch) (Z : State) (a0 : Array Value) (hw : HW Z a0) (ws : List Jvm.Cond) (it : Addr) (a : Addr) (h0 : Heap) (n0 : Nat) (Z0 : n0 ≤ h0.size) (O0 : Old Z n0 h0) (J_t : Fld Z h0 it "java/util/ArrayList$Itr" "this$0" "Ljava/util/ArrayList;" (.ref a)) (J_m : Fld Z h0 it "java/util/ArrayList$Itr" "expectedModCount" "I" (.int (1 : Int32))) (F_m : Fld Z h0 a "java/util/AbstractList" "modCount" "I" (.int (1 : Int32))) :
  Ctr l Z my8 oc26 1 ((Option.none : Option Jvm.ClassFile.FieldType)) ws (⟨0, 0, 0, 0⟩ : Room) #[(.ref it)] h0 (fun v h L => v = none ∧ Fr n0 L ∧ h = h0) := by
 refine Ctr.go (plainFor_of_name pn_388) fun p e s m below meth c s₁ Bd hx hby hml hZ hown hnm X0 e0 => ?_
 have hq := And.intro hx hby
 have N0 := Fr.nil n0
 have K0 := Keep.refl h0 []
 refine gs (S' := s₁.setTop (mkF m 0 #[rv it] [])) (fun tg kg => castTop (ef_27 m it) kg) ?_
 refine gs (fun _ k => jb X0 hq d26_0 rfl rfl k) ?_
 refine gF X0 hx hZ hown (host := "") (Or.inl (ow hw 148 rfl)) Via.refl e0 J_t hby d26_1 fun T1 X1 e1 => ?_
 refine gF X1 hx hZ hown (host := "") (Or.inl (ow hw 153 rfl)) (Via.of (ow hw 154 rfl)) e1 F_m hby d26_4 fun T2 X2 e2 => ?_
 refine gs (fun _ k => jb X2 hq d26_7 rfl rfl k) ?_
 refine gF X2 hx hZ hown (host := "") (Or.inl (ow hw 155 rfl)) Via.refl e2 J_m hby d26_8 fun T3 X3 e3 => ?_
 refine gs (fun _ k => jh (pc' := 22) X3 hq d26_11 (teq (by decide : (1 : Int32) = (1 : Int32))).1 k) ?_
 refine gout (v := none) X3 Bd.notSynchronized (fun _ => rfl) (by decide) (by decide) ?_ (fun fs hr => X3.returnOut hx Bd.returns (hb hby d26_22) hr)
 rw [e3]
 exact ⟨rfl, N0, rfl⟩
theorem d27_14 : decode oc27 14 = .ok (.iconst 1, 1) := by decide +kernel
theorem d27_15 : decode oc27 15 = .ok (.goto 4, 3) := by decide +kernel
theorem rm_hn01 (l : Launch) (Z : State) (a0 : Array Value) (hw : HW Z a0) (ws : List Jvm.Cond) (it : Addr) (a : Addr) (h0 : Heap) (n0 : Nat) (Z0 : n0 ≤ h0.size) (O0 : Old Z n0 h0) (J_t : Fld Z h0 it "java/util/ArrayList$Itr" "this$0" "Ljava/util/ArrayList;" (.ref a)) (J_c : Fld Z h0 it "java/util/ArrayList$Itr" "cursor" "I" (.int (0 : Int32))) (F_s : Fld Z h0 a "java/util/ArrayList" "size" "I" (.int (1 : Int32))) :
  Ctr l Z my0 oc27 1 ((Option.some Jvm.ClassFile.FieldType.boolean)) ws (⟨0, 0, 0, 0⟩ : Room) #[(.ref it)] h0 (fun v h L => v = some (.int (1 : Int32)) ∧ Fr n0 L ∧ h = h0) := by
 refine Ctr.go (plainFor_of_name pn_388) fun p e s m below meth c s₁ Bd hx hby hml hZ hown hnm X0 e0 => ?_
 have hq := And.intro hx hby
 have N0 := Fr.nil n0
 have K0 := Keep.refl h0 []
 refine gs (S' := s₁.setTop (mkF m 0 #[rv it] [])) (fun tg kg => castTop (ef_27 m it) kg) ?_
 refine gs (fun _ k => jb X0 hq d27_0 rfl rfl k) ?_
 refine gF X0 hx hZ hown (host := "") (Or.inl (ow hw 166 rfl)) Via.refl e0 J_c hby d27_1 fun T1 X1 e1 => ?_
 refine gs (fun _ k => jb X1 hq d27_4 rfl rfl k) ?_
 refine gF X1 hx hZ hown (host := "") (Or.inl (ow hw 148 rfl)) Via.refl e1 J_t hby d27_5 fun T2 X2 e2 => ?_
 refine gF X2 hx hZ hown (Or.inr (ow hw 168 rfl)) Via.refl e2 F_s hby d27_8 fun T3 X3 e3 => ?_
 refine gs (fun _ k => jm X3 hq d27_11 (feq (by decide : ¬ ((0 : Int32) = (1 : Int32)))).1 (jf (v := (1 : Int32)) X3 hq d27_14 (jp (pc' := 19) X3 hq d27_15 k))) ?_
 refine gout (v := some (.int (1 : Int32))) X3 Bd.notSynchronized (jA Bd.returns) (by decide) (by decide) ?_ (fun fs hr => retN X3 hx (t := .boolean) Bd.returns (by simp) (hb hby d27_19) hr)
 rw [e3]
 exact ⟨rfl, N0, rfl⟩
theorem ef_422 (m : MethodId) (x0 : Addr) : entryFrame m #[(.ref x0)] 3 = mkF m 0 #[.val (.ref x0), .unset, .unset] [] := by first | (simp [entryFrame, mkF, argsToLocals, Value.category]; done) | rfl
abbrev oc28 := jdk_49_method_3_code
theorem d28_0 : decode oc28 0 = .ok (.aload_n 0, 1) := by decide +kernel
theorem d28_1 : decode oc28 1 = .ok (.invokevirtual 31, 3) := by decide +kernel
theorem d28_4 : decode oc28 4 = .ok (.aload_n 0, 1) := by decide +kernel
theorem d28_5 : decode oc28 5 = .ok (.getfield 25, 3) := by decide +kernel
theorem d28_8 : decode oc28 8 = .ok (.istore_n 1, 1) := by decide +kernel
theorem d28_9 : decode oc28 9 = .ok (.iload_n 1, 1) := by decide +kernel
theorem d28_10 : decode oc28 10 = .ok (.aload_n 0, 1) := by decide +kernel
theorem d28_11 : decode oc28 11 = .ok (.getfield 1, 3) := by decide +kernel
theorem d28_14 : decode oc28 14 = .ok (.getfield 28, 3) := by decide +kernel
theorem d28_17 : decode oc28 17 = .ok (.if_icmp .lt 11, 3) := by decide +kernel
theorem d28_28 : decode oc28 28 = .ok (.aload_n 0, 1) := by decide +kernel
theorem d28_29 : decode oc28 29 = .ok (.getfield 1, 3) := by decide +kernel
theorem d28_32 : decode oc28 32 = .ok (.getfield 37, 3) := by decide +kernel
theorem d28_35 : decode oc28 35 = .ok (.astore_n 2, 1) := by decide +kernel
theorem d28_36 : decode oc28 36 = .ok (.iload_n 1, 1) := by decide +kernel
theorem d28_37 : decode oc28 37 = .ok (.aload_n 2, 1) := by decide +kernel
theorem d28_38 : decode oc28 38 = .ok (.arraylength, 1) := by decide +kernel
theorem d28_39 : decode oc28 39 = .ok (.if_icmp .lt 11, 3) := by decide +kernel
theorem d28_50 : decode oc28 50 = .ok (.aload_n 0, 1) := by decide +kernel
theorem d28_51 : decode oc28 51 = .ok (.iload_n 1, 1) := by decide +kernel
theorem d28_52 : decode oc28 52 = .ok (.iconst 1, 1) := by decide +kernel
theorem d28_53 : decode oc28 53 = .ok (.iadd, 1) := by decide +kernel
theorem d28_54 : decode oc28 54 = .ok (.putfield 25, 3) := by decide +kernel
theorem d28_57 : decode oc28 57 = .ok (.aload_n 2, 1) := by decide +kernel
theorem d28_58 : decode oc28 58 = .ok (.aload_n 0, 1) := by decide +kernel
theorem d28_59 : decode oc28 59 = .ok (.iload_n 1, 1) := by decide +kernel
theorem d28_60 : decode oc28 60 = .ok (.dup_x1, 1) := by decide +kernel
theorem d28_61 : decode oc28 61 = .ok (.putfield 13, 3) := by decide +kernel
theorem d28_64 : decode oc28 64 = .ok (.aaload, 1) := by decide +kernel
theorem d28_65 : decode oc28 65 = .ok (.areturn, 1) := by decide +kernel
theorem rm_nx01 (l : Launch) (Z : State) (a0 : Array Value) (hw : HW Z a0) (ws : List Jvm.Cond) (it : Addr) (a : Addr) (ar : Addr) (ka : ClassId) (x0 : Addr) (h0 : Heap) (n0 : Nat) (Z0 : n0 ≤ h0.size) (O0 : Old Z n0 h0) (E_i : Exa Z h0 it "java/util/ArrayList$Itr") (J_t : Fld Z h0 it "java/util/ArrayList$Itr" "this$0" "Ljava/util/ArrayList;" (.ref a)) (J_c : Fld Z h0 it "java/util/ArrayList$Itr" "cursor" "I" (.int (0 : Int32))) (J_l : Fld Z h0 it "java/util/ArrayList$Itr" "lastRet" "I" (.int (-1 : Int32))) (J_m : Fld Z h0 it "java/util/ArrayList$Itr" "expectedModCount" "I" (.int (1 : Int32))) (g_i : n0 ≤ it) (E_a : Exa Z h0 a "java/util/ArrayList") (F_m : Fld Z h0 a "java/util/AbstractList" "modCount" "I" (.int (1 : Int32))) (F_s : Fld Z h0 a "java/util/ArrayList" "size" "I" (.int (1 : Int32))) (F_e : Fld Z h0 a "java/util/ArrayList" "elementData" "[Ljava/lang/Object;" (.ref ar)) (V_ar : Arv Z h0 ar ka (.object "java/lang/Object") (10 : Int32) [(.ref x0)] .null) :
  Ctr l Z my1 oc28 3 ((Option.some (Jvm.ClassFile.FieldType.object "java/lang/Object"))) ws (⟨1, 0, 0, 12⟩ : Room) #[(.ref it)] h0 (fun v h L => v = some (.ref x0) ∧ Fr n0 L ∧ Keep h0 h [it] ∧ Fld Z h it "java/util/ArrayList$Itr" "this$0" "Ljava/util/ArrayList;" (.ref a) ∧ Fld Z h it "java/util/ArrayList$Itr" "cursor" "I" (.int (1 : Int32)) ∧ Fld Z h it "java/util/ArrayList$Itr" "lastRet" "I" (.int (0 : Int32)) ∧ Fld Z h it "java/util/ArrayList$Itr" "expectedModCount" "I" (.int (1 : Int32))) := by
 refine Ctr.go (plainFor_of_name pn_388) fun p e s m below meth c s₁ Bd hx hby hml hZ hown hnm X0 e0 => ?_
 have hq := And.intro hx hby
 have N0 := Fr.nil n0
 have K0 := Keep.refl h0 [it]
 refine gs (S' := s₁.setTop (mkF m 0 #[rv it, uu, uu] [])) (fun tg kg => castTop (ef_422 m it) kg) ?_
 refine gs (fun _ k => jb X0 hq d28_0 rfl rfl k) ?_
 refine cV (rest := []) X0 hx hZ hown (ow hw 309 rfl) (ow hw 310 rfl) (nfs hZ (ow hw 312 rfl)) (ow hw 312 rfl) (ow hw 311 rfl) (ow hw 143 rfl) (ow hw 313 rfl) (rm_cm1 l Z a0 hw [] it a h0 n0 Z0 O0 J_t J_m F_m) hby d28_1 e0 pd_276 0 (by rw [hml]; rfl) E_i rfl rfl rfl rfl (by decide) (by decide) fun _ T1 Lc1 X1 hQ1 => ?_
 obtain ⟨rfl, N1q, e1q⟩ := hQ1
 have N1 := Fr.app N0 N1q
 refine gs (fun _ k => jb X1 hq d28_4 rfl rfl k) ?_
 refine gF X1 hx hZ hown (host := "") (Or.inl (ow hw 166 rfl)) Via.refl e1q J_c hby d28_5 fun T2 X2 e2 => ?_
 refine gs (fun _ k => jT X2 hq d28_8 (jj rfl) (ji X2 hq d28_9 rfl (jb X2 hq d28_10 rfl rfl k))) ?_
 refine gF X2 hx hZ hown (host := "") (Or.inl (ow hw 148 rfl)) Via.refl e2 J_t hby d28_11 fun T3 X3 e3 => ?_
 refine gF X3 hx hZ hown (Or.inr (ow hw 168 rfl)) Via.refl e3 F_s hby d28_14 fun T4 X4 e4 => ?_
 refine gs (fun _ k => jh (pc' := 28) X4 hq d28_17 (tlt (by decide : (0 : Int32) < (1 : Int32))).1 (jb X4 hq d28_28 rfl rfl k)) ?_
 refine gF X4 hx hZ hown (host := "") (Or.inl (ow hw 148 rfl)) Via.refl e4 J_t hby d28_29 fun T5 X5 e5 => ?_
 refine gF X5 hx hZ hown (host := "") (Or.inl (ow hw 314 rfl)) Via.refl e5 F_e hby d28_32 fun T6 X6 e6 => ?_
 refine gs (fun _ k => jR X6 hq d28_35 rfl (jj rfl) (ji X6 hq d28_36 rfl (jb X6 hq d28_37 rfl rfl k))) ?_
 obtain ⟨cl7, A7, a7q, a7S, a7N, a7H, a7G⟩ := id V_ar
 refine gs (S' := T6.setTop (mkF m 39 #[rv it, iv (0 : Int32), rv ar] [(.int (10 : Int32)), (.int (0 : Int32))])) (fun _ k => by refine X6.arraylength hx (by rw [e6]; exact A7.1) (State.isArrayOf_alike hZ.alike A7.2.1) (g := (mkF m 38 #[rv it, iv (0 : Int32), rv ar] [(.ref ar), (.int (0 : Int32))])) rfl rfl (hb hby d28_38) _ ?_; rw [len_of a7S a7N]; exact k) ?_
 refine gs (fun _ k => jh (pc' := 50) X6 hq d28_39 (tlt (by decide : (0 : Int32) < (10 : Int32))).1 (jb X6 hq d28_50 rfl rfl (ji X6 hq d28_51 rfl (jf (v := (1 : Int32)) X6 hq d28_52 (jt X6 hq d28_53 k))))) ?_
 obtain ⟨T8, h8, X8, e8, W8, st8⟩ := putF X6 hx hZ hown (host := "") (Or.inl (ow hw 166 rfl)) Via.refl e6 J_c E_i (Or.inl (ow hw 167 rfl)) (ow hw 142 rfl) (ty := .int) (by decide) rfl rfl (g := (mkF m 54 #[rv it, iv (0 : Int32), rv ar] [(.int (1 : Int32)), (.ref it)])) rfl rfl (hb hby d28_54)
 have N8 := Fr.snoc X8 N1 g_i
 have Fw8 := J_c.same W8
 have Z9 := nt Z0 (Keep.of_wr W8).1
 have O9 := O0.wr W8 g_i
 have K9 := K0.wr W8 (Or.inl (List.mem_of_getElem? (i := 0) rfl))
 refine gs (S' := T8.setTop (mkF m 57 #[rv it, iv (0 : Int32), rv ar] [])) st8 ?_
 refine gs (fun _ k => jb X8 hq d28_57 rfl rfl (jb X8 hq d28_58 rfl rfl (ji X8 hq d28_59 rfl (o_dupX1 X8 hq d28_60 rfl rfl k)))) ?_
 have f10 := (J_l.other W8 (Or.inr (slot_ne (Or.inl (ow hw 152 rfl)) (Or.inl (ow hw 167 rfl)) (by decide) (t := .int) (t' := .int) (by decide) (by decide))))
 have f11 := (E_i.wr W8)
 obtain ⟨T12, h12, X12, e12, W12, st12⟩ := putF X8 hx hZ hown (host := "") (Or.inl (ow hw 151 rfl)) Via.refl e8 f10 f11 (Or.inl (ow hw 152 rfl)) (ow hw 142 rfl) (ty := .int) (by decide) rfl rfl (g := (mkF m 61 #[rv it, iv (0 : Int32), rv ar] [(.int (0 : Int32)), (.ref it), (.int (0 : Int32)), (.ref ar)])) rfl rfl (hb hby d28_61)
 have N12 := Fr.snoc X12 N8 g_i
 have Fw12 := f10.same W12
 have Z13 := nt Z9 (Keep.of_wr W12).1
 have O13 := O9.wr W12 g_i
 have K13 := K9.wr W12 (Or.inl (List.mem_of_getElem? (i := 0) rfl))
 refine gs (S' := T12.setTop (mkF m 64 #[rv it, iv (0 : Int32), rv ar] [(.int (0 : Int32)), (.ref ar)])) st12 ?_
 have f14 := ((V_ar.other W8 (Ne.symm (Exa.neArv E_i V_ar (ow hw 142 rfl)))).other W12 (Ne.symm (Exa.neArv E_i V_ar (ow hw 142 rfl))))
 obtain ⟨cl15, A15, a15q, a15S, a15N, a15H, a15G⟩ := id f14
 have hi15 := inb_of a15S (j := (0 : Int32)) ⟨by decide, by decide⟩
 refine gs (fun _ k => X12.aaload hx (j := (0 : Int32)) (v := (.ref x0)) (by rw [e12]; exact A15.1) (State.isArrayOf_alike hZ.alike A15.2.1) rfl A15.2.2 hi15 (Has.at a15H hi15 rfl) (g := (mkF m 64 #[rv it, iv (0 : Int32), rv ar] [(.int (0 : Int32)), (.ref ar)])) rfl rfl (hb hby d28_64) _ k) ?_
 have f16 := ((J_t.other W8 (Or.inr (slot_ne (Or.inr (ow hw 149 rfl)) (Or.inl (ow hw 167 rfl)) (by decide) (t := (.object "java/util/ArrayList")) (t' := .int) (by decide) (by decide)))).other W12 (Or.inr (slot_ne (Or.inr (ow hw 149 rfl)) (Or.inl (ow hw 152 rfl)) (by decide) (t := (.object "java/util/ArrayList")) (t' := .int) (by decide) (by decide))))
 have f17 := (Fw8.other W12 (Or.inr (slot_ne (Or.inl (ow hw 167 rfl)) (Or.inl (ow hw 152 rfl)) (by decide) (t := .int) (t' := .int) (by decide) (by decide))))
 have f18 := ((J_m.other W8 (Or.inr (slot_ne (Or.inl (ow hw 156 rfl)) (Or.inl (ow hw 167 rfl)) (by decide) (t := .int) (t' := .int) (by decide) (by decide)))).other W12 (Or.inr (slot_ne (Or.inl (ow hw 156 rfl)) (Or.inl (ow hw 152 rfl)) (by decide) (t := .int) (t' := .int) (by decide) (by decide))))
 refine gout (v := some (.ref x0)) X12 Bd.notSynchronized (jA Bd.returns) (by decide) (by decide) ?_ (fun fs hr => retOut X12 hx Bd.returns rfl (Or.inr (Or.inr (Or.inr (Or.inr ⟨rfl, rfl, rfl⟩)))) (hb hby d28_65) hr)
 rw [e12]
 exact ⟨rfl, N12, K13, f16, f17, Fw12, f18⟩
theorem rm_hn11 (l : Launch) (Z : State) (a0 : Array Value) (hw : HW Z a0) (ws : List Jvm.Cond) (it : Addr) (a : Addr) (h0 : Heap) (n0 : Nat) (Z0 : n0 ≤ h0.size) (O0 : Old Z n0 h0) (J_t : Fld Z h0 it "java/util/ArrayList$Itr" "this$0" "Ljava/util/ArrayList;" (.ref a)) (J_c : Fld Z h0 it "java/util/ArrayList$Itr" "cursor" "I" (.int (1 : Int32))) (F_s : Fld Z h0 a "java/util/ArrayList" "size" "I" (.int (1 : Int32))) :
  Ctr l Z my0 oc27 1 ((Option.some Jvm.ClassFile.FieldType.boolean)) ws (⟨0, 0, 0, 0⟩ : Room) #[(.ref it)] h0 (fun v h L => v = some (.int (0 : Int32)) ∧ Fr n0 L ∧ h = h0) := by
 refine Ctr.go (plainFor_of_name pn_388) fun p e s m below meth c s₁ Bd hx hby hml hZ hown hnm X0 e0 => ?_
 have hq := And.intro hx hby
 have N0 := Fr.nil n0
 have K0 := Keep.refl h0 []
 refine gs (S' := s₁.setTop (mkF m 0 #[rv it] [])) (fun tg kg => castTop (ef_27 m it) kg) ?_
 refine gs (fun _ k => jb X0 hq d27_0 rfl rfl k) ?_
 refine gF X0 hx hZ hown (host := "") (Or.inl (ow hw 166 rfl)) Via.refl e0 J_c hby d27_1 fun T1 X1 e1 => ?_
 refine gs (fun _ k => jb X1 hq d27_4 rfl rfl k) ?_
 refine gF X1 hx hZ hown (host := "") (Or.inl (ow hw 148 rfl)) Via.refl e1 J_t hby d27_5 fun T2 X2 e2 => ?_
 refine gF X2 hx hZ hown (Or.inr (ow hw 168 rfl)) Via.refl e2 F_s hby d27_8 fun T3 X3 e3 => ?_
 refine gs (fun _ k => jh (pc' := 18) X3 hq d27_11 (teq (by decide : (1 : Int32) = (1 : Int32))).1 (jf (v := (0 : Int32)) X3 hq d27_18 k)) ?_
 refine gout (v := some (.int (0 : Int32))) X3 Bd.notSynchronized (jA Bd.returns) (by decide) (by decide) ?_ (fun fs hr => retN X3 hx (t := .boolean) Bd.returns (by simp) (hb hby d27_19) hr)
 rw [e3]
 exact ⟨rfl, N0, rfl⟩
theorem rm_ii2 (l : Launch) (Z : State) (a0 : Array Value) (hw : HW Z a0) (ws : List Jvm.Cond) (it : Addr) (a : Addr) (h0 : Heap) (n0 : Nat) (Z0 : n0 ≤ h0.size) (O0 : Old Z n0 h0) (E_i : Exa Z h0 it "java/util/ArrayList$Itr") (J_t : Fld Z h0 it "java/util/ArrayList$Itr" "this$0" "Ljava/util/ArrayList;" .null) (J_c : Fld Z h0 it "java/util/ArrayList$Itr" "cursor" "I" (.int (0 : Int32))) (J_l : Fld Z h0 it "java/util/ArrayList$Itr" "lastRet" "I" (.int (0 : Int32))) (J_m : Fld Z h0 it "java/util/ArrayList$Itr" "expectedModCount" "I" (.int (0 : Int32))) (g_i : n0 ≤ it) (E_a : Exa Z h0 a "java/util/ArrayList") (F_m : Fld Z h0 a "java/util/AbstractList" "modCount" "I" (.int (2 : Int32))) :
  Ctr l Z my7 oc24 2 ((Option.none : Option Jvm.ClassFile.FieldType)) ws (⟨1, 0, 0, 12⟩ : Room) #[(.ref it), (.ref a)] h0 (fun v h L => v = none ∧ Fr n0 L ∧ Keep h0 h [it] ∧ Fld Z h it "java/util/ArrayList$Itr" "this$0" "Ljava/util/ArrayList;" (.ref a) ∧ Fld Z h it "java/util/ArrayList$Itr" "cursor" "I" (.int (0 : Int32)) ∧ Fld Z h it "java/util/ArrayList$Itr" "lastRet" "I" (.int (-1 : Int32)) ∧ Fld Z h it "java/util/ArrayList$Itr" "expectedModCount" "I" (.int (2 : Int32))) := by
 refine Ctr.go (plainFor_of_name pn_388) fun p e s m below meth c s₁ Bd hx hby hml hZ hown hnm X0 e0 => ?_
 have hq := And.intro hx hby
 have N0 := Fr.nil n0
 have K0 := Keep.refl h0 [it]
 refine gs (S' := s₁.setTop (mkF m 0 #[rv it, rv a] [])) (fun tg kg => castTop (ef_16 m it a) kg) ?_
 refine gs (fun _ k => jb X0 hq d24_0 rfl rfl (jb X0 hq d24_1 rfl rfl k)) ?_
 obtain ⟨T1, h1, X1, e1, W1, st1⟩ := putF X0 hx hZ hown (host := "") (Or.inl (ow hw 148 rfl)) Via.refl e0 J_t E_i (Or.inr ⟨(ow hw 149 rfl), rfl, hnm⟩) (ow hw 142 rfl) (ty := (.object "java/util/ArrayList")) (by decide) rfl rfl (g := (mkF m 2 #[rv it, rv a] [(.ref a), (.ref it)])) rfl rfl (hb hby d24_2)
 have N1 := Fr.snoc X1 N0 g_i
 have Fw1 := J_t.same W1
 have Z2 := nt Z0 (Keep.of_wr W1).1
 have O2 := O0.wr W1 g_i
 have K2 := K0.wr W1 (Or.inl (List.mem_of_getElem? (i := 0) rfl))
 refine gs (S' := T1.setTop (mkF m 5 #[rv it, rv a] [])) st1 ?_
 refine gs (fun _ k => jb X1 hq d24_5 rfl rfl k) ?_
 obtain ⟨T3, X3, e3, st3⟩ := initO X1 hx hZ hown (ow hw 150 rfl) (ow hw 16 rfl) (ow hw 17 rfl) e1 (g := (mkF m 6 #[rv it, rv a] [(.ref it)])) rfl (by rw [hml]; rfl) rfl (hb hby d24_6) (by decide) (W := 0) (jL rfl) (by decide)
 refine gs (S' := T3.setTop (mkF m 9 #[rv it, rv a] [])) st3 ?_
 refine gs (fun _ k => jb X3 hq d24_9 rfl rfl (jf (v := (-1 : Int32)) X3 hq d24_10 k)) ?_
 have f4 := (J_l.other W1 (Or.inr (slot_ne (Or.inl (ow hw 152 rfl)) (Or.inr (ow hw 149 rfl)) (by decide) (t := .int) (t' := (.object "java/util/ArrayList")) (by decide) (by decide))))
 have f5 := (E_i.wr W1)
 obtain ⟨T6, h6, X6, e6, W6, st6⟩ := putF X3 hx hZ hown (host := "") (Or.inl (ow hw 151 rfl)) Via.refl e3 f4 f5 (Or.inl (ow hw 152 rfl)) (ow hw 142 rfl) (ty := .int) (by decide) rfl rfl (g := (mkF m 11 #[rv it, rv a] [(.int (-1 : Int32)), (.ref it)])) rfl rfl (hb hby d24_11)
 have N6 := Fr.snoc X6 N1 g_i
 have Fw6 := f4.same W6
 have Z7 := nt Z2 (Keep.of_wr W6).1
 have O7 := O2.wr W6 g_i
 have K7 := K2.wr W6 (Or.inl (List.mem_of_getElem? (i := 0) rfl))
 refine gs (S' := T6.setTop (mkF m 14 #[rv it, rv a] [])) st6 ?_
 refine gs (fun _ k => jb X6 hq d24_14 rfl rfl (jb X6 hq d24_15 rfl rfl k)) ?_
 have f8 := (Fw1.other W6 (Or.inr (slot_ne (Or.inr (ow hw 149 rfl)) (Or.inl (ow hw 152 rfl)) (by decide) (t := (.object "java/util/ArrayList")) (t' := .int) (by decide) (by decide))))
 refine gF X6 hx hZ hown (host := "") (Or.inl (ow hw 148 rfl)) Via.refl e6 f8 hby d24_16 fun T9 X9 e9 => ?_
 have f10 := ((E_a.wr W1).wr W6)
 have f11 := (f5.wr W6)
 have f12 := ((F_m.other W1 (Or.inl (Exa.ne f10 f11 (by decide)))).other W6 (Or.inl (Exa.ne f10 f11 (by decide))))
 refine gF X9 hx hZ hown (host := "") (Or.inl (ow hw 153 rfl)) (Via.of (ow hw 154 rfl)) e9 f12 hby d24_19 fun T13 X13 e13 => ?_
 have f14 := ((J_m.other W1 (Or.inr (slot_ne (Or.inl (ow hw 156 rfl)) (Or.inr (ow hw 149 rfl)) (by decide) (t := .int) (t' := (.object "java/util/ArrayList")) (by decide) (by decide)))).other W6 (Or.inr (slot_ne (Or.inl (ow hw 156 rfl)) (Or.inl (ow hw 152 rfl)) (by decide) (t := .int) (t' := .int) (by decide) (by decide))))
 obtain ⟨T15, h15, X15, e15, W15, st15⟩ := putF X13 hx hZ hown (host := "") (Or.inl (ow hw 155 rfl)) Via.refl e13 f14 f11 (Or.inl (ow hw 156 rfl)) (ow hw 142 rfl) (ty := .int) (by decide) rfl rfl (g := (mkF m 22 #[rv it, rv a] [(.int (2 : Int32)), (.ref it)])) rfl rfl (hb hby d24_22)
 have N15 := Fr.snoc X15 N6 g_i
 have Fw15 := f14.same W15
 have Z16 := nt Z7 (Keep.of_wr W15).1
 have O16 := O7.wr W15 g_i
 have K16 := K7.wr W15 (Or.inl (List.mem_of_getElem? (i := 0) rfl))
 refine gs (S' := T15.setTop (mkF m 25 #[rv it, rv a] [])) st15 ?_
 have f17 := (f8.other W15 (Or.inr (slot_ne (Or.inr (ow hw 149 rfl)) (Or.inl (ow hw 156 rfl)) (by decide) (t := (.object "java/util/ArrayList")) (t' := .int) (by decide) (by decide))))
 have f18 := (((J_c.other W1 (Or.inr (slot_ne (Or.inl (ow hw 167 rfl)) (Or.inr (ow hw 149 rfl)) (by decide) (t := .int) (t' := (.object "java/util/ArrayList")) (by decide) (by decide)))).other W6 (Or.inr (slot_ne (Or.inl (ow hw 167 rfl)) (Or.inl (ow hw 152 rfl)) (by decide) (t := .int) (t' := .int) (by decide) (by decide)))).other W15 (Or.inr (slot_ne (Or.inl (ow hw 167 rfl)) (Or.inl (ow hw 156 rfl)) (by decide) (t := .int) (t' := .int) (by decide) (by decide))))
 have f19 := (Fw6.other W15 (Or.inr (slot_ne (Or.inl (ow hw 152 rfl)) (Or.inl (ow hw 156 rfl)) (by decide) (t := .int) (t' := .int) (by decide) (by decide))))
 refine gout (v := none) X15 Bd.notSynchronized (fun _ => rfl) (by decide) (by decide) ?_ (fun fs hr => X15.returnOut hx Bd.returns (hb hby d24_25) hr)
 rw [e15]
 exact ⟨rfl, N15, K16, f17, f18, f19, Fw15⟩
theorem rm_it2 (l : Launch) (Z : State) (a0 : Array Value) (hw : HW Z a0) (ws : List Jvm.Cond) (a : Addr) (h0 : Heap) (n0 : Nat) (Z0 : n0 ≤ h0.size) (O0 : Old Z n0 h0) (E_a : Exa Z h0 a "java/util/ArrayList") (F_m : Fld Z h0 a "java/util/AbstractList" "modCount" "I" (.int (2 : Int32))) :
  Ctr l Z my4 oc25 1 ((Option.some (Jvm.ClassFile.FieldType.object "java/util/Iterator"))) ws (⟨2, 1, 4, 26⟩ : Room) #[(.ref a)] h0 (fun v h L => ∃ it : Addr, v = some (.ref it) ∧ Fr n0 L ∧ Keep h0 h [] ∧ h0.size ≤ it ∧ Exa Z h it "java/util/ArrayList$Itr" ∧ Fld Z h it "java/util/ArrayList$Itr" "this$0" "Ljava/util/ArrayList;" (.ref a) ∧ Fld Z h it "java/util/ArrayList$Itr" "cursor" "I" (.int (0 : Int32)) ∧ Fld Z h it "java/util/ArrayList$Itr" "lastRet" "I" (.int (-1 : Int32)) ∧ Fld Z h it "java/util/ArrayList$Itr" "expectedModCount" "I" (.int (2 : Int32))) := by
 refine Ctr.go (plainFor_of_name pn_290) fun p e s m below meth c s₁ Bd hx hby hml hZ hown hnm X0 e0 => ?_
 have hq := And.intro hx hby
 have N0 := Fr.nil n0
 have K0 := Keep.refl h0 []
 refine gs (S' := s₁.setTop (mkF m 0 #[rv a] [])) (fun tg kg => castTop (ef_27 m a) kg) ?_
 obtain ⟨T1, h1, X1, e1, E1, A1, D1, -, st1⟩ := newO X0 hx hZ hown (ow hw 141 rfl) (ow hw 142 rfl) (ow hw 143 rfl) e0 (g := (mkF m 0 #[rv a] [])) rfl (hb hby d25_0) (by decide) (by decide)
 obtain ⟨b1, q1⟩ : ∃ z, z = h0.size := ⟨_, rfl⟩
 rw [← q1] at A1 D1 st1
 have g_b1 : n0 ≤ b1 := nt Z0 (Nat.le_of_eq q1.symm)
 have sz_b1 : h0.size ≤ b1 := nt K0.1 (Nat.le_of_eq q1.symm)
 have Z2 := nt Z0 E1.1
 have O2 := O0.ext E1
 have K2 := K0.ext E1
 have F_this_0_b1 : Fld Z h1 b1 "java/util/ArrayList$Itr" "this$0" "Ljava/util/ArrayList;" .null := D1 (Or.inr (ow hw 149 rfl)) (ty := (.object "java/util/ArrayList")) (by decide)
 have F_lastRet_b1 : Fld Z h1 b1 "java/util/ArrayList$Itr" "lastRet" "I" (.int (0 : Int32)) := D1 (Or.inl (ow hw 152 rfl)) (ty := .int) (by decide)
 have F_expectedModCount_b1 : Fld Z h1 b1 "java/util/ArrayList$Itr" "expectedModCount" "I" (.int (0 : Int32)) := D1 (Or.inl (ow hw 156 rfl)) (ty := .int) (by decide)
 have F_cursor_b1 : Fld Z h1 b1 "java/util/ArrayList$Itr" "cursor" "I" (.int (0 : Int32)) := D1 (Or.inl (ow hw 167 rfl)) (ty := .int) (by decide)
 refine gs (S' := T1.setTop (mkF m 3 #[rv a] [(.ref b1)])) st1 ?_
 refine gs (fun _ k => jad X1 hq d25_3 rfl (jb X1 hq d25_4 rfl rfl k)) ?_
 have f3 := (E_a.ext E1)
 have f4 := (F_m.ext E1)
 refine cI (rest := [(.ref b1)]) X1 hx hZ hown rfl (ow hw 144 rfl) (ow hw 145 rfl) (ow hw 143 rfl) (ow hw 147 rfl) (rm_ii2 l Z a0 hw [] b1 a h1 n0 Z2 O2 A1 F_this_0_b1 F_cursor_b1 F_lastRet_b1 F_expectedModCount_b1 g_b1 f3 f4) hby d25_5 e1 pd_395 1 (by rw [hml]; rfl) rfl rfl rfl rfl (by decide) (by decide) fun _ T5 Lc5 X5 hQ5 => ?_
 obtain ⟨rfl, N5q, K5q, J5t, J5c, J5l, J5m⟩ := hQ5
 have N5 := Fr.app N0 N5q
 have Z6 := nt Z2 K5q.1
 have O6 := O2.keep K5q (allS g_b1 all0)
 have K6 := K2.trans K5q (allS (Or.inr sz_b1) all0)
 have f7 := (A1.keep K5q)
 refine gout (v := some (.ref b1)) X5 Bd.notSynchronized (jA Bd.returns) (by decide) (by decide) ?_ (fun fs hr => retOut X5 hx Bd.returns rfl (Or.inr (Or.inr (Or.inr (Or.inr ⟨rfl, rfl, rfl⟩)))) (hb hby d25_8) hr)
 exact ⟨_, rfl, N5, K6, sz_b1, f7, J5t, J5c, J5l, J5m⟩
theorem rm_cm2 (l : Launch) (Z : State) (a0 : Array Value) (hw : HW Z a0) (ws : List Jvm.Cond) (it : Addr) (a : Addr) (h0 : Heap) (n0 : Nat) (Z0 : n0 ≤ h0.size) (O0 : Old Z n0 h0) (J_t : Fld Z h0 it "java/util/ArrayList$Itr" "this$0" "Ljava/util/ArrayList;" (.ref a)) (J_m : Fld Z h0 it "java/util/ArrayList$Itr" "expectedModCount" "I" (.int (2 : Int32))) (F_m : Fld Z h0 a "java/util/AbstractList" "modCount" "I" (.int (2 : Int32))) :
  Ctr l Z my8 oc26 1 ((Option.none : Option Jvm.ClassFile.FieldType)) ws (⟨0, 0, 0, 0⟩ : Room) #[(.ref it)] h0 (fun v h L => v = none ∧ Fr n0 L ∧ h = h0) := by
 refine Ctr.go (plainFor_of_name pn_388) fun p e s m below meth c s₁ Bd hx hby hml hZ hown hnm X0 e0 => ?_
 have hq := And.intro hx hby
 have N0 := Fr.nil n0
 have K0 := Keep.refl h0 []
 refine gs (S' := s₁.setTop (mkF m 0 #[rv it] [])) (fun tg kg => castTop (ef_27 m it) kg) ?_
 refine gs (fun _ k => jb X0 hq d26_0 rfl rfl k) ?_
 refine gF X0 hx hZ hown (host := "") (Or.inl (ow hw 148 rfl)) Via.refl e0 J_t hby d26_1 fun T1 X1 e1 => ?_
 refine gF X1 hx hZ hown (host := "") (Or.inl (ow hw 153 rfl)) (Via.of (ow hw 154 rfl)) e1 F_m hby d26_4 fun T2 X2 e2 => ?_
 refine gs (fun _ k => jb X2 hq d26_7 rfl rfl k) ?_
 refine gF X2 hx hZ hown (host := "") (Or.inl (ow hw 155 rfl)) Via.refl e2 J_m hby d26_8 fun T3 X3 e3 => ?_
 refine gs (fun _ k => jh (pc' := 22) X3 hq d26_11 (teq (by decide : (2 : Int32) = (2 : Int32))).1 k) ?_
 refine gout (v := none) X3 Bd.notSynchronized (fun _ => rfl) (by decide) (by decide) ?_ (fun fs hr => X3.returnOut hx Bd.returns (hb hby d26_22) hr)
 rw [e3]
 exact ⟨rfl, N0, rfl⟩
theorem rm_hn02 (l : Launch) (Z : State) (a0 : Array Value) (hw : HW Z a0) (ws : List Jvm.Cond) (it : Addr) (a : Addr) (h0 : Heap) (n0 : Nat) (Z0 : n0 ≤ h0.size) (O0 : Old Z n0 h0) (J_t : Fld Z h0 it "java/util/ArrayList$Itr" "this$0" "Ljava/util/ArrayList;" (.ref a)) (J_c : Fld Z h0 it "java/util/ArrayList$Itr" "cursor" "I" (.int (0 : Int32))) (F_s : Fld Z h0 a "java/util/ArrayList" "size" "I" (.int (2 : Int32))) :
  Ctr l Z my0 oc27 1 ((Option.some Jvm.ClassFile.FieldType.boolean)) ws (⟨0, 0, 0, 0⟩ : Room) #[(.ref it)] h0 (fun v h L => v = some (.int (1 : Int32)) ∧ Fr n0 L ∧ h = h0) := by
 refine Ctr.go (plainFor_of_name pn_388) fun p e s m below meth c s₁ Bd hx hby hml hZ hown hnm X0 e0 => ?_
 have hq := And.intro hx hby
 have N0 := Fr.nil n0
 have K0 := Keep.refl h0 []
 refine gs (S' := s₁.setTop (mkF m 0 #[rv it] [])) (fun tg kg => castTop (ef_27 m it) kg) ?_
 refine gs (fun _ k => jb X0 hq d27_0 rfl rfl k) ?_
 refine gF X0 hx hZ hown (host := "") (Or.inl (ow hw 166 rfl)) Via.refl e0 J_c hby d27_1 fun T1 X1 e1 => ?_
 refine gs (fun _ k => jb X1 hq d27_4 rfl rfl k) ?_
 refine gF X1 hx hZ hown (host := "") (Or.inl (ow hw 148 rfl)) Via.refl e1 J_t hby d27_5 fun T2 X2 e2 => ?_
 refine gF X2 hx hZ hown (Or.inr (ow hw 168 rfl)) Via.refl e2 F_s hby d27_8 fun T3 X3 e3 => ?_
 refine gs (fun _ k => jm X3 hq d27_11 (feq (by decide : ¬ ((0 : Int32) = (2 : Int32)))).1 (jf (v := (1 : Int32)) X3 hq d27_14 (jp (pc' := 19) X3 hq d27_15 k))) ?_
 refine gout (v := some (.int (1 : Int32))) X3 Bd.notSynchronized (jA Bd.returns) (by decide) (by decide) ?_ (fun fs hr => retN X3 hx (t := .boolean) Bd.returns (by simp) (hb hby d27_19) hr)
 rw [e3]
 exact ⟨rfl, N0, rfl⟩
theorem rm_nx02 (l : Launch) (Z : State) (a0 : Array Value) (hw : HW Z a0) (ws : List Jvm.Cond) (it : Addr) (a : Addr) (ar : Addr) (ka : ClassId) (x0 : Addr) (x1 : Addr) (h0 : Heap) (n0 : Nat) (Z0 : n0 ≤ h0.size) (O0 : Old Z n0 h0) (E_i : Exa Z h0 it "java/util/ArrayList$Itr") (J_t : Fld Z h0 it "java/util/ArrayList$Itr" "this$0" "Ljava/util/ArrayList;" (.ref a)) (J_c : Fld Z h0 it "java/util/ArrayList$Itr" "cursor" "I" (.int (0 : Int32))) (J_l : Fld Z h0 it "java/util/ArrayList$Itr" "lastRet" "I" (.int (-1 : Int32))) (J_m : Fld Z h0 it "java/util/ArrayList$Itr" "expectedModCount" "I" (.int (2 : Int32))) (g_i : n0 ≤ it) (E_a : Exa Z h0 a "java/util/ArrayList") (F_m : Fld Z h0 a "java/util/AbstractList" "modCount" "I" (.int (2 : Int32))) (F_s : Fld Z h0 a "java/util/ArrayList" "size" "I" (.int (2 : Int32))) (F_e : Fld Z h0 a "java/util/ArrayList" "elementData" "[Ljava/lang/Object;" (.ref ar)) (V_ar : Arv Z h0 ar ka (.object "java/lang/Object") (10 : Int32) [(.ref x0), (.ref x1)] .null) :
  Ctr l Z my1 oc28 3 ((Option.some (Jvm.ClassFile.FieldType.object "java/lang/Object"))) ws (⟨1, 0, 0, 12⟩ : Room) #[(.ref it)] h0 (fun v h L => v = some (.ref x0) ∧ Fr n0 L ∧ Keep h0 h [it] ∧ Fld Z h it "java/util/ArrayList$Itr" "this$0" "Ljava/util/ArrayList;" (.ref a) ∧ Fld Z h it "java/util/ArrayList$Itr" "cursor" "I" (.int (1 : Int32)) ∧ Fld Z h it "java/util/ArrayList$Itr" "lastRet" "I" (.int (0 : Int32)) ∧ Fld Z h it "java/util/ArrayList$Itr" "expectedModCount" "I" (.int (2 : Int32))) := by
 refine Ctr.go (plainFor_of_name pn_388) fun p e s m below meth c s₁ Bd hx hby hml hZ hown hnm X0 e0 => ?_
 have hq := And.intro hx hby
 have N0 := Fr.nil n0
 have K0 := Keep.refl h0 [it]
 refine gs (S' := s₁.setTop (mkF m 0 #[rv it, uu, uu] [])) (fun tg kg => castTop (ef_422 m it) kg) ?_
 refine gs (fun _ k => jb X0 hq d28_0 rfl rfl k) ?_
 refine cV (rest := []) X0 hx hZ hown (ow hw 309 rfl) (ow hw 310 rfl) (nfs hZ (ow hw 312 rfl)) (ow hw 312 rfl) (ow hw 311 rfl) (ow hw 143 rfl) (ow hw 313 rfl) (rm_cm2 l Z a0 hw [] it a h0 n0 Z0 O0 J_t J_m F_m) hby d28_1 e0 pd_276 0 (by rw [hml]; rfl) E_i rfl rfl rfl rfl (by decide) (by decide) fun _ T1 Lc1 X1 hQ1 => ?_
 obtain ⟨rfl, N1q, e1q⟩ := hQ1
 have N1 := Fr.app N0 N1q
 refine gs (fun _ k => jb X1 hq d28_4 rfl rfl k) ?_
 refine gF X1 hx hZ hown (host := "") (Or.inl (ow hw 166 rfl)) Via.refl e1q J_c hby d28_5 fun T2 X2 e2 => ?_
 refine gs (fun _ k => jT X2 hq d28_8 (jj rfl) (ji X2 hq d28_9 rfl (jb X2 hq d28_10 rfl rfl k))) ?_
 refine gF X2 hx hZ hown (host := "") (Or.inl (ow hw 148 rfl)) Via.refl e2 J_t hby d28_11 fun T3 X3 e3 => ?_
 refine gF X3 hx hZ hown (Or.inr (ow hw 168 rfl)) Via.refl e3 F_s hby d28_14 fun T4 X4 e4 => ?_
 refine gs (fun _ k => jh (pc' := 28) X4 hq d28_17 (tlt (by decide : (0 : Int32) < (2 : Int32))).1 (jb X4 hq d28_28 rfl rfl k)) ?_
 refine gF X4 hx hZ hown (host := "") (Or.inl (ow hw 148 rfl)) Via.refl e4 J_t hby d28_29 fun T5 X5 e5 => ?_
 refine gF X5 hx hZ hown (host := "") (Or.inl (ow hw 314 rfl)) Via.refl e5 F_e hby d28_32 fun T6 X6 e6 => ?_
 refine gs (fun _ k => jR X6 hq d28_35 rfl (jj rfl) (ji X6 hq d28_36 rfl (jb X6 hq d28_37 rfl rfl k))) ?_
 obtain ⟨cl7, A7, a7q, a7S, a7N, a7H, a7G⟩ := id V_ar
 refine gs (S' := T6.setTop (mkF m 39 #[rv it, iv (0 : Int32), rv ar] [(.int (10 : Int32)), (.int (0 : Int32))])) (fun _ k => by refine X6.arraylength hx (by rw [e6]; exact A7.1) (State.isArrayOf_alike hZ.alike A7.2.1) (g := (mkF m 38 #[rv it, iv (0 : Int32), rv ar] [(.ref ar), (.int (0 : Int32))])) rfl rfl (hb hby d28_38) _ ?_; rw [len_of a7S a7N]; exact k) ?_
 refine gs (fun _ k => jh (pc' := 50) X6 hq d28_39 (tlt (by decide : (0 : Int32) < (10 : Int32))).1 (jb X6 hq d28_50 rfl rfl (ji X6 hq d28_51 rfl (jf (v := (1 : Int32)) X6 hq d28_52 (jt X6 hq d28_53 k))))) ?_
 obtain ⟨T8, h8, X8, e8, W8, st8⟩ := putF X6 hx hZ hown (host := "") (Or.inl (ow hw 166 rfl)) Via.refl e6 J_c E_i (Or.inl (ow hw 167 rfl)) (ow hw 142 rfl) (ty := .int) (by decide) rfl rfl (g := (mkF m 54 #[rv it, iv (0 : Int32), rv ar] [(.int (1 : Int32)), (.ref it)])) rfl rfl (hb hby d28_54)
 have N8 := Fr.snoc X8 N1 g_i
 have Fw8 := J_c.same W8
 have Z9 := nt Z0 (Keep.of_wr W8).1
 have O9 := O0.wr W8 g_i
 have K9 := K0.wr W8 (Or.inl (List.mem_of_getElem? (i := 0) rfl))
 refine gs (S' := T8.setTop (mkF m 57 #[rv it, iv (0 : Int32), rv ar] [])) st8 ?_
 refine gs (fun _ k => jb X8 hq d28_57 rfl rfl (jb X8 hq d28_58 rfl rfl (ji X8 hq d28_59 rfl (o_dupX1 X8 hq d28_60 rfl rfl k)))) ?_
 have f10 := (J_l.other W8 (Or.inr (slot_ne (Or.inl (ow hw 152 rfl)) (Or.inl (ow hw 167 rfl)) (by decide) (t := .int) (t' := .int) (by decide) (by decide))))
 have f11 := (E_i.wr W8)
 obtain ⟨T12, h12, X12, e12, W12, st12⟩ := putF X8 hx hZ hown (host := "") (Or.inl (ow hw 151 rfl)) Via.refl e8 f10 f11 (Or.inl (ow hw 152 rfl)) (ow hw 142 rfl) (ty := .int) (by decide) rfl rfl (g := (mkF m 61 #[rv it, iv (0 : Int32), rv ar] [(.int (0 : Int32)), (.ref it), (.int (0 : Int32)), (.ref ar)])) rfl rfl (hb hby d28_61)
 have N12 := Fr.snoc X12 N8 g_i
 have Fw12 := f10.same W12
 have Z13 := nt Z9 (Keep.of_wr W12).1
 have O13 := O9.wr W12 g_i
 have K13 := K9.wr W12 (Or.inl (List.mem_of_getElem? (i := 0) rfl))
 refine gs (S' := T12.setTop (mkF m 64 #[rv it, iv (0 : Int32), rv ar] [(.int (0 : Int32)), (.ref ar)])) st12 ?_
 have f14 := ((V_ar.other W8 (Ne.symm (Exa.neArv E_i V_ar (ow hw 142 rfl)))).other W12 (Ne.symm (Exa.neArv E_i V_ar (ow hw 142 rfl))))
 obtain ⟨cl15, A15, a15q, a15S, a15N, a15H, a15G⟩ := id f14
 have hi15 := inb_of a15S (j := (0 : Int32)) ⟨by decide, by decide⟩
 refine gs (fun _ k => X12.aaload hx (j := (0 : Int32)) (v := (.ref x0)) (by rw [e12]; exact A15.1) (State.isArrayOf_alike hZ.alike A15.2.1) rfl A15.2.2 hi15 (Has.at a15H hi15 rfl) (g := (mkF m 64 #[rv it, iv (0 : Int32), rv ar] [(.int (0 : Int32)), (.ref ar)])) rfl rfl (hb hby d28_64) _ k) ?_
 have f16 := ((J_t.other W8 (Or.inr (slot_ne (Or.inr (ow hw 149 rfl)) (Or.inl (ow hw 167 rfl)) (by decide) (t := (.object "java/util/ArrayList")) (t' := .int) (by decide) (by decide)))).other W12 (Or.inr (slot_ne (Or.inr (ow hw 149 rfl)) (Or.inl (ow hw 152 rfl)) (by decide) (t := (.object "java/util/ArrayList")) (t' := .int) (by decide) (by decide))))
 have f17 := (Fw8.other W12 (Or.inr (slot_ne (Or.inl (ow hw 167 rfl)) (Or.inl (ow hw 152 rfl)) (by decide) (t := .int) (t' := .int) (by decide) (by decide))))
 have f18 := ((J_m.other W8 (Or.inr (slot_ne (Or.inl (ow hw 156 rfl)) (Or.inl (ow hw 167 rfl)) (by decide) (t := .int) (t' := .int) (by decide) (by decide)))).other W12 (Or.inr (slot_ne (Or.inl (ow hw 156 rfl)) (Or.inl (ow hw 152 rfl)) (by decide) (t := .int) (t' := .int) (by decide) (by decide))))
 refine gout (v := some (.ref x0)) X12 Bd.notSynchronized (jA Bd.returns) (by decide) (by decide) ?_ (fun fs hr => retOut X12 hx Bd.returns rfl (Or.inr (Or.inr (Or.inr (Or.inr ⟨rfl, rfl, rfl⟩)))) (hb hby d28_65) hr)
 rw [e12]
 exact ⟨rfl, N12, K13, f16, f17, Fw12, f18⟩
theorem rm_hn12 (l : Launch) (Z : State) (a0 : Array Value) (hw : HW Z a0) (ws : List Jvm.Cond) (it : Addr) (a : Addr) (h0 : Heap) (n0 : Nat) (Z0 : n0 ≤ h0.size) (O0 : Old Z n0 h0) (J_t : Fld Z h0 it "java/util/ArrayList$Itr" "this$0" "Ljava/util/ArrayList;" (.ref a)) (J_c : Fld Z h0 it "java/util/ArrayList$Itr" "cursor" "I" (.int (1 : Int32))) (F_s : Fld Z h0 a "java/util/ArrayList" "size" "I" (.int (2 : Int32))) :
  Ctr l Z my0 oc27 1 ((Option.some Jvm.ClassFile.FieldType.boolean)) ws (⟨0, 0, 0, 0⟩ : Room) #[(.ref it)] h0 (fun v h L => v = some (.int (1 : Int32)) ∧ Fr n0 L ∧ h = h0) := by
 refine Ctr.go (plainFor_of_name pn_388) fun p e s m below meth c s₁ Bd hx hby hml hZ hown hnm X0 e0 => ?_
 have hq := And.intro hx hby
 have N0 := Fr.nil n0
 have K0 := Keep.refl h0 []
 refine gs (S' := s₁.setTop (mkF m 0 #[rv it] [])) (fun tg kg => castTop (ef_27 m it) kg) ?_
 refine gs (fun _ k => jb X0 hq d27_0 rfl rfl k) ?_
 refine gF X0 hx hZ hown (host := "") (Or.inl (ow hw 166 rfl)) Via.refl e0 J_c hby d27_1 fun T1 X1 e1 => ?_
 refine gs (fun _ k => jb X1 hq d27_4 rfl rfl k) ?_
 refine gF X1 hx hZ hown (host := "") (Or.inl (ow hw 148 rfl)) Via.refl e1 J_t hby d27_5 fun T2 X2 e2 => ?_
 refine gF X2 hx hZ hown (Or.inr (ow hw 168 rfl)) Via.refl e2 F_s hby d27_8 fun T3 X3 e3 => ?_
 refine gs (fun _ k => jm X3 hq d27_11 (feq (by decide : ¬ ((1 : Int32) = (2 : Int32)))).1 (jf (v := (1 : Int32)) X3 hq d27_14 (jp (pc' := 19) X3 hq d27_15 k))) ?_
 refine gout (v := some (.int (1 : Int32))) X3 Bd.notSynchronized (jA Bd.returns) (by decide) (by decide) ?_ (fun fs hr => retN X3 hx (t := .boolean) Bd.returns (by simp) (hb hby d27_19) hr)
 rw [e3]
 exact ⟨rfl, N0, rfl⟩
theorem rm_nx12 (l : Launch) (Z : State) (a0 : Array Value) (hw : HW Z a0) (ws : List Jvm.Cond) (it : Addr) (a : Addr) (ar : Addr) (ka : ClassId) (x0 : Addr) (x1 : Addr) (h0 : Heap) (n0 : Nat) (Z0 : n0 ≤ h0.size) (O0 : Old Z n0 h0) (E_i : Exa Z h0 it "java/util/ArrayList$Itr") (J_t : Fld Z h0 it "java/util/ArrayList$Itr" "this$0" "Ljava/util/ArrayList;" (.ref a)) (J_c : Fld Z h0 it "java/util/ArrayList$Itr" "cursor" "I" (.int (1 : Int32))) (J_l : Fld Z h0 it "java/util/ArrayList$Itr" "lastRet" "I" (.int (0 : Int32))) (J_m : Fld Z h0 it "java/util/ArrayList$Itr" "expectedModCount" "I" (.int (2 : Int32))) (g_i : n0 ≤ it) (E_a : Exa Z h0 a "java/util/ArrayList") (F_m : Fld Z h0 a "java/util/AbstractList" "modCount" "I" (.int (2 : Int32))) (F_s : Fld Z h0 a "java/util/ArrayList" "size" "I" (.int (2 : Int32))) (F_e : Fld Z h0 a "java/util/ArrayList" "elementData" "[Ljava/lang/Object;" (.ref ar)) (V_ar : Arv Z h0 ar ka (.object "java/lang/Object") (10 : Int32) [(.ref x0), (.ref x1)] .null) :
  Ctr l Z my1 oc28 3 ((Option.some (Jvm.ClassFile.FieldType.object "java/lang/Object"))) ws (⟨1, 0, 0, 12⟩ : Room) #[(.ref it)] h0 (fun v h L => v = some (.ref x1) ∧ Fr n0 L ∧ Keep h0 h [it] ∧ Fld Z h it "java/util/ArrayList$Itr" "this$0" "Ljava/util/ArrayList;" (.ref a) ∧ Fld Z h it "java/util/ArrayList$Itr" "cursor" "I" (.int (2 : Int32)) ∧ Fld Z h it "java/util/ArrayList$Itr" "lastRet" "I" (.int (1 : Int32)) ∧ Fld Z h it "java/util/ArrayList$Itr" "expectedModCount" "I" (.int (2 : Int32))) := by
 refine Ctr.go (plainFor_of_name pn_388) fun p e s m below meth c s₁ Bd hx hby hml hZ hown hnm X0 e0 => ?_
 have hq := And.intro hx hby
 have N0 := Fr.nil n0
 have K0 := Keep.refl h0 [it]
 refine gs (S' := s₁.setTop (mkF m 0 #[rv it, uu, uu] [])) (fun tg kg => castTop (ef_422 m it) kg) ?_
 refine gs (fun _ k => jb X0 hq d28_0 rfl rfl k) ?_
 refine cV (rest := []) X0 hx hZ hown (ow hw 309 rfl) (ow hw 310 rfl) (nfs hZ (ow hw 312 rfl)) (ow hw 312 rfl) (ow hw 311 rfl) (ow hw 143 rfl) (ow hw 313 rfl) (rm_cm2 l Z a0 hw [] it a h0 n0 Z0 O0 J_t J_m F_m) hby d28_1 e0 pd_276 0 (by rw [hml]; rfl) E_i rfl rfl rfl rfl (by decide) (by decide) fun _ T1 Lc1 X1 hQ1 => ?_
 obtain ⟨rfl, N1q, e1q⟩ := hQ1
 have N1 := Fr.app N0 N1q
 refine gs (fun _ k => jb X1 hq d28_4 rfl rfl k) ?_
 refine gF X1 hx hZ hown (host := "") (Or.inl (ow hw 166 rfl)) Via.refl e1q J_c hby d28_5 fun T2 X2 e2 => ?_
 refine gs (fun _ k => jT X2 hq d28_8 (jj rfl) (ji X2 hq d28_9 rfl (jb X2 hq d28_10 rfl rfl k))) ?_
 refine gF X2 hx hZ hown (host := "") (Or.inl (ow hw 148 rfl)) Via.refl e2 J_t hby d28_11 fun T3 X3 e3 => ?_
 refine gF X3 hx hZ hown (Or.inr (ow hw 168 rfl)) Via.refl e3 F_s hby d28_14 fun T4 X4 e4 => ?_
 refine gs (fun _ k => jh (pc' := 28) X4 hq d28_17 (tlt (by decide : (1 : Int32) < (2 : Int32))).1 (jb X4 hq d28_28 rfl rfl k)) ?_
 refine gF X4 hx hZ hown (host := "") (Or.inl (ow hw 148 rfl)) Via.refl e4 J_t hby d28_29 fun T5 X5 e5 => ?_
 refine gF X5 hx hZ hown (host := "") (Or.inl (ow hw 314 rfl)) Via.refl e5 F_e hby d28_32 fun T6 X6 e6 => ?_
 refine gs (fun _ k => jR X6 hq d28_35 rfl (jj rfl) (ji X6 hq d28_36 rfl (jb X6 hq d28_37 rfl rfl k))) ?_
 obtain ⟨cl7, A7, a7q, a7S, a7N, a7H, a7G⟩ := id V_ar
 refine gs (S' := T6.setTop (mkF m 39 #[rv it, iv (1 : Int32), rv ar] [(.int (10 : Int32)), (.int (1 : Int32))])) (fun _ k => by refine X6.arraylength hx (by rw [e6]; exact A7.1) (State.isArrayOf_alike hZ.alike A7.2.1) (g := (mkF m 38 #[rv it, iv (1 : Int32), rv ar] [(.ref ar), (.int (1 : Int32))])) rfl rfl (hb hby d28_38) _ ?_; rw [len_of a7S a7N]; exact k) ?_
 refine gs (fun _ k => jh (pc' := 50) X6 hq d28_39 (tlt (by decide : (1 : Int32) < (10 : Int32))).1 (jb X6 hq d28_50 rfl rfl (ji X6 hq d28_51 rfl (jf (v := (1 : Int32)) X6 hq d28_52 (jt X6 hq d28_53 k))))) ?_
 obtain ⟨T8, h8, X8, e8, W8, st8⟩ := putF X6 hx hZ hown (host := "") (Or.inl (ow hw 166 rfl)) Via.refl e6 J_c E_i (Or.inl (ow hw 167 rfl)) (ow hw 142 rfl) (ty := .int) (by decide) rfl rfl (g := (mkF m 54 #[rv it, iv (1 : Int32), rv ar] [(.int (2 : Int32)), (.ref it)])) rfl rfl (hb hby d28_54)
 have N8 := Fr.snoc X8 N1 g_i
 have Fw8 := J_c.same W8
 have Z9 := nt Z0 (Keep.of_wr W8).1
 have O9 := O0.wr W8 g_i
 have K9 := K0.wr W8 (Or.inl (List.mem_of_getElem? (i := 0) rfl))
 refine gs (S' := T8.setTop (mkF m 57 #[rv it, iv (1 : Int32), rv ar] [])) st8 ?_
 refine gs (fun _ k => jb X8 hq d28_57 rfl rfl (jb X8 hq d28_58 rfl rfl (ji X8 hq d28_59 rfl (o_dupX1 X8 hq d28_60 rfl rfl k)))) ?_
 have f10 := (J_l.other W8 (Or.inr (slot_ne (Or.inl (ow hw 152 rfl)) (Or.inl (ow hw 167 rfl)) (by decide) (t := .int) (t' := .int) (by decide) (by decide))))
 have f11 := (E_i.wr W8)
 obtain ⟨T12, h12, X12, e12, W12, st12⟩ := putF X8 hx hZ hown (host := "") (Or.inl (ow hw 151 rfl)) Via.refl e8 f10 f11 (Or.inl (ow hw 152 rfl)) (ow hw 142 rfl) (ty := .int) (by decide) rfl rfl (g := (mkF m 61 #[rv it, iv (1 : Int32), rv ar] [(.int (1 : Int32)), (.ref it), (.int (1 : Int32)), (.ref ar)])) rfl rfl (hb hby d28_61)
 have N12 := Fr.snoc X12 N8 g_i
 have Fw12 := f10.same W12
 have Z13 := nt Z9 (Keep.of_wr W12).1
 have O13 := O9.wr W12 g_i
 have K13 := K9.wr W12 (Or.inl (List.mem_of_getElem? (i := 0) rfl))
 refine gs (S' := T12.setTop (mkF m 64 #[rv it, iv (1 : Int32), rv ar] [(.int (1 : Int32)), (.ref ar)])) st12 ?_
 have f14 := ((V_ar.other W8 (Ne.symm (Exa.neArv E_i V_ar (ow hw 142 rfl)))).other W12 (Ne.symm (Exa.neArv E_i V_ar (ow hw 142 rfl))))
 obtain ⟨cl15, A15, a15q, a15S, a15N, a15H, a15G⟩ := id f14
 have hi15 := inb_of a15S (j := (1 : Int32)) ⟨by decide, by decide⟩
 refine gs (fun _ k => X12.aaload hx (j := (1 : Int32)) (v := (.ref x1)) (by rw [e12]; exact A15.1) (State.isArrayOf_alike hZ.alike A15.2.1) rfl A15.2.2 hi15 (Has.at a15H hi15 rfl) (g := (mkF m 64 #[rv it, iv (1 : Int32), rv ar] [(.int (1 : Int32)), (.ref ar)])) rfl rfl (hb hby d28_64) _ k) ?_
 have f16 := ((J_t.other W8 (Or.inr (slot_ne (Or.inr (ow hw 149 rfl)) (Or.inl (ow hw 167 rfl)) (by decide) (t := (.object "java/util/ArrayList")) (t' := .int) (by decide) (by decide)))).other W12 (Or.inr (slot_ne (Or.inr (ow hw 149 rfl)) (Or.inl (ow hw 152 rfl)) (by decide) (t := (.object "java/util/ArrayList")) (t' := .int) (by decide) (by decide))))
 have f17 := (Fw8.other W12 (Or.inr (slot_ne (Or.inl (ow hw 167 rfl)) (Or.inl (ow hw 152 rfl)) (by decide) (t := .int) (t' := .int) (by decide) (by decide))))
 have f18 := ((J_m.other W8 (Or.inr (slot_ne (Or.inl (ow hw 156 rfl)) (Or.inl (ow hw 167 rfl)) (by decide) (t := .int) (t' := .int) (by decide) (by decide)))).other W12 (Or.inr (slot_ne (Or.inl (ow hw 156 rfl)) (Or.inl (ow hw 152 rfl)) (by decide) (t := .int) (t' := .int) (by decide) (by decide))))
 refine gout (v := some (.ref x1)) X12 Bd.notSynchronized (jA Bd.returns) (by decide) (by decide) ?_ (fun fs hr => retOut X12 hx Bd.returns rfl (Or.inr (Or.inr (Or.inr (Or.inr ⟨rfl, rfl, rfl⟩)))) (hb hby d28_65) hr)
 rw [e12]
 exact ⟨rfl, N12, K13, f16, f17, Fw12, f18⟩
theorem rm_hn22 (l : Launch) (Z : State) (a0 : Array Value) (hw : HW Z a0) (ws : List Jvm.Cond) (it : Addr) (a : Addr) (h0 : Heap) (n0 : Nat) (Z0 : n0 ≤ h0.size) (O0 : Old Z n0 h0) (J_t : Fld Z h0 it "java/util/ArrayList$Itr" "this$0" "Ljava/util/ArrayList;" (.ref a)) (J_c : Fld Z h0 it "java/util/ArrayList$Itr" "cursor" "I" (.int (2 : Int32))) (F_s : Fld Z h0 a "java/util/ArrayList" "size" "I" (.int (2 : Int32))) :
  Ctr l Z my0 oc27 1 ((Option.some Jvm.ClassFile.FieldType.boolean)) ws (⟨0, 0, 0, 0⟩ : Room) #[(.ref it)] h0 (fun v h L => v = some (.int (0 : Int32)) ∧ Fr n0 L ∧ h = h0) := by
 refine Ctr.go (plainFor_of_name pn_388) fun p e s m below meth c s₁ Bd hx hby hml hZ hown hnm X0 e0 => ?_
 have hq := And.intro hx hby
 have N0 := Fr.nil n0
 have K0 := Keep.refl h0 []
 refine gs (S' := s₁.setTop (mkF m 0 #[rv it] [])) (fun tg kg => castTop (ef_27 m it) kg) ?_
 refine gs (fun _ k => jb X0 hq d27_0 rfl rfl k) ?_
 refine gF X0 hx hZ hown (host := "") (Or.inl (ow hw 166 rfl)) Via.refl e0 J_c hby d27_1 fun T1 X1 e1 => ?_
 refine gs (fun _ k => jb X1 hq d27_4 rfl rfl k) ?_
 refine gF X1 hx hZ hown (host := "") (Or.inl (ow hw 148 rfl)) Via.refl e1 J_t hby d27_5 fun T2 X2 e2 => ?_
 refine gF X2 hx hZ hown (Or.inr (ow hw 168 rfl)) Via.refl e2 F_s hby d27_8 fun T3 X3 e3 => ?_
 refine gs (fun _ k => jh (pc' := 18) X3 hq d27_11 (teq (by decide : (2 : Int32) = (2 : Int32))).1 (jf (v := (0 : Int32)) X3 hq d27_18 k)) ?_
 refine gout (v := some (.int (0 : Int32))) X3 Bd.notSynchronized (jA Bd.returns) (by decide) (by decide) ?_ (fun fs hr => retN X3 hx (t := .boolean) Bd.returns (by simp) (hb hby d27_19) hr)
 rw [e3]
 exact ⟨rfl, N0, rfl⟩
theorem rm_ii3 (l : Launch) (Z : State) (a0 : Array Value) (hw : HW Z a0) (ws : List Jvm.Cond) (it : Addr) (a : Addr) (h0 : Heap) (n0 : Nat) (Z0 : n0 ≤ h0.size) (O0 : Old Z n0 h0) (E_i : Exa Z h0 it "java/util/ArrayList$Itr") (J_t : Fld Z h0 it "java/util/ArrayList$Itr" "this$0" "Ljava/util/ArrayList;" .null) (J_c : Fld Z h0 it "java/util/ArrayList$Itr" "cursor" "I" (.int (0 : Int32))) (J_l : Fld Z h0 it "java/util/ArrayList$Itr" "lastRet" "I" (.int (0 : Int32))) (J_m : Fld Z h0 it "java/util/ArrayList$Itr" "expectedModCount" "I" (.int (0 : Int32))) (g_i : n0 ≤ it) (E_a : Exa Z h0 a "java/util/ArrayList") (F_m : Fld Z h0 a "java/util/AbstractList" "modCount" "I" (.int (3 : Int32))) :
  Ctr l Z my7 oc24 2 ((Option.none : Option Jvm.ClassFile.FieldType)) ws (⟨1, 0, 0, 12⟩ : Room) #[(.ref it), (.ref a)] h0 (fun v h L => v = none ∧ Fr n0 L ∧ Keep h0 h [it] ∧ Fld Z h it "java/util/ArrayList$Itr" "this$0" "Ljava/util/ArrayList;" (.ref a) ∧ Fld Z h it "java/util/ArrayList$Itr" "cursor" "I" (.int (0 : Int32)) ∧ Fld Z h it "java/util/ArrayList$Itr" "lastRet" "I" (.int (-1 : Int32)) ∧ Fld Z h it "java/util/ArrayList$Itr" "expectedModCount" "I" (.int (3 : Int32))) := by
 refine Ctr.go (plainFor_of_name pn_388) fun p e s m below meth c s₁ Bd hx hby hml hZ hown hnm X0 e0 => ?_
 have hq := And.intro hx hby
 have N0 := Fr.nil n0
 have K0 := Keep.refl h0 [it]
 refine gs (S' := s₁.setTop (mkF m 0 #[rv it, rv a] [])) (fun tg kg => castTop (ef_16 m it a) kg) ?_
 refine gs (fun _ k => jb X0 hq d24_0 rfl rfl (jb X0 hq d24_1 rfl rfl k)) ?_
 obtain ⟨T1, h1, X1, e1, W1, st1⟩ := putF X0 hx hZ hown (host := "") (Or.inl (ow hw 148 rfl)) Via.refl e0 J_t E_i (Or.inr ⟨(ow hw 149 rfl), rfl, hnm⟩) (ow hw 142 rfl) (ty := (.object "java/util/ArrayList")) (by decide) rfl rfl (g := (mkF m 2 #[rv it, rv a] [(.ref a), (.ref it)])) rfl rfl (hb hby d24_2)
 have N1 := Fr.snoc X1 N0 g_i
 have Fw1 := J_t.same W1
 have Z2 := nt Z0 (Keep.of_wr W1).1
 have O2 := O0.wr W1 g_i
 have K2 := K0.wr W1 (Or.inl (List.mem_of_getElem? (i := 0) rfl))
 refine gs (S' := T1.setTop (mkF m 5 #[rv it, rv a] [])) st1 ?_
 refine gs (fun _ k => jb X1 hq d24_5 rfl rfl k) ?_
 obtain ⟨T3, X3, e3, st3⟩ := initO X1 hx hZ hown (ow hw 150 rfl) (ow hw 16 rfl) (ow hw 17 rfl) e1 (g := (mkF m 6 #[rv it, rv a] [(.ref it)])) rfl (by rw [hml]; rfl) rfl (hb hby d24_6) (by decide) (W := 0) (jL rfl) (by decide)
 refine gs (S' := T3.setTop (mkF m 9 #[rv it, rv a] [])) st3 ?_
 refine gs (fun _ k => jb X3 hq d24_9 rfl rfl (jf (v := (-1 : Int32)) X3 hq d24_10 k)) ?_
 have f4 := (J_l.other W1 (Or.inr (slot_ne (Or.inl (ow hw 152 rfl)) (Or.inr (ow hw 149 rfl)) (by decide) (t := .int) (t' := (.object "java/util/ArrayList")) (by decide) (by decide))))
 have f5 := (E_i.wr W1)
 obtain ⟨T6, h6, X6, e6, W6, st6⟩ := putF X3 hx hZ hown (host := "") (Or.inl (ow hw 151 rfl)) Via.refl e3 f4 f5 (Or.inl (ow hw 152 rfl)) (ow hw 142 rfl) (ty := .int) (by decide) rfl rfl (g := (mkF m 11 #[rv it, rv a] [(.int (-1 : Int32)), (.ref it)])) rfl rfl (hb hby d24_11)
 have N6 := Fr.snoc X6 N1 g_i
 have Fw6 := f4.same W6
 have Z7 := nt Z2 (Keep.of_wr W6).1
 have O7 := O2.wr W6 g_i
 have K7 := K2.wr W6 (Or.inl (List.mem_of_getElem? (i := 0) rfl))
 refine gs (S' := T6.setTop (mkF m 14 #[rv it, rv a] [])) st6 ?_
 refine gs (fun _ k => jb X6 hq d24_14 rfl rfl (jb X6 hq d24_15 rfl rfl k)) ?_
 have f8 := (Fw1.other W6 (Or.inr (slot_ne (Or.inr (ow hw 149 rfl)) (Or.inl (ow hw 152 rfl)) (by decide) (t := (.object "java/util/ArrayList")) (t' := .int) (by decide) (by decide))))
 refine gF X6 hx hZ hown (host := "") (Or.inl (ow hw 148 rfl)) Via.refl e6 f8 hby d24_16 fun T9 X9 e9 => ?_
 have f10 := ((E_a.wr W1).wr W6)
 have f11 := (f5.wr W6)
 have f12 := ((F_m.other W1 (Or.inl (Exa.ne f10 f11 (by decide)))).other W6 (Or.inl (Exa.ne f10 f11 (by decide))))
 refine gF X9 hx hZ hown (host := "") (Or.inl (ow hw 153 rfl)) (Via.of (ow hw 154 rfl)) e9 f12 hby d24_19 fun T13 X13 e13 => ?_
 have f14 := ((J_m.other W1 (Or.inr (slot_ne (Or.inl (ow hw 156 rfl)) (Or.inr (ow hw 149 rfl)) (by decide) (t := .int) (t' := (.object "java/util/ArrayList")) (by decide) (by decide)))).other W6 (Or.inr (slot_ne (Or.inl (ow hw 156 rfl)) (Or.inl (ow hw 152 rfl)) (by decide) (t := .int) (t' := .int) (by decide) (by decide))))
 obtain ⟨T15, h15, X15, e15, W15, st15⟩ := putF X13 hx hZ hown (host := "") (Or.inl (ow hw 155 rfl)) Via.refl e13 f14 f11 (Or.inl (ow hw 156 rfl)) (ow hw 142 rfl) (ty := .int) (by decide) rfl rfl (g := (mkF m 22 #[rv it, rv a] [(.int (3 : Int32)), (.ref it)])) rfl rfl (hb hby d24_22)
 have N15 := Fr.snoc X15 N6 g_i
 have Fw15 := f14.same W15
 have Z16 := nt Z7 (Keep.of_wr W15).1
 have O16 := O7.wr W15 g_i
 have K16 := K7.wr W15 (Or.inl (List.mem_of_getElem? (i := 0) rfl))
 refine gs (S' := T15.setTop (mkF m 25 #[rv it, rv a] [])) st15 ?_
 have f17 := (f8.other W15 (Or.inr (slot_ne (Or.inr (ow hw 149 rfl)) (Or.inl (ow hw 156 rfl)) (by decide) (t := (.object "java/util/ArrayList")) (t' := .int) (by decide) (by decide))))
 have f18 := (((J_c.other W1 (Or.inr (slot_ne (Or.inl (ow hw 167 rfl)) (Or.inr (ow hw 149 rfl)) (by decide) (t := .int) (t' := (.object "java/util/ArrayList")) (by decide) (by decide)))).other W6 (Or.inr (slot_ne (Or.inl (ow hw 167 rfl)) (Or.inl (ow hw 152 rfl)) (by decide) (t := .int) (t' := .int) (by decide) (by decide)))).other W15 (Or.inr (slot_ne (Or.inl (ow hw 167 rfl)) (Or.inl (ow hw 156 rfl)) (by decide) (t := .int) (t' := .int) (by decide) (by decide))))
 have f19 := (Fw6.other W15 (Or.inr (slot_ne (Or.inl (ow hw 152 rfl)) (Or.inl (ow hw 156 rfl)) (by decide) (t := .int) (t' := .int) (by decide) (by decide))))
 refine gout (v := none) X15 Bd.notSynchronized (fun _ => rfl) (by decide) (by decide) ?_ (fun fs hr => X15.returnOut hx Bd.returns (hb hby d24_25) hr)
 rw [e15]
 exact ⟨rfl, N15, K16, f17, f18, f19, Fw15⟩
theorem rm_it3 (l : Launch) (Z : State) (a0 : Array Value) (hw : HW Z a0) (ws : List Jvm.Cond) (a : Addr) (h0 : Heap) (n0 : Nat) (Z0 : n0 ≤ h0.size) (O0 : Old Z n0 h0) (E_a : Exa Z h0 a "java/util/ArrayList") (F_m : Fld Z h0 a "java/util/AbstractList" "modCount" "I" (.int (3 : Int32))) :
  Ctr l Z my4 oc25 1 ((Option.some (Jvm.ClassFile.FieldType.object "java/util/Iterator"))) ws (⟨2, 1, 4, 26⟩ : Room) #[(.ref a)] h0 (fun v h L => ∃ it : Addr, v = some (.ref it) ∧ Fr n0 L ∧ Keep h0 h [] ∧ h0.size ≤ it ∧ Exa Z h it "java/util/ArrayList$Itr" ∧ Fld Z h it "java/util/ArrayList$Itr" "this$0" "Ljava/util/ArrayList;" (.ref a) ∧ Fld Z h it "java/util/ArrayList$Itr" "cursor" "I" (.int (0 : Int32)) ∧ Fld Z h it "java/util/ArrayList$Itr" "lastRet" "I" (.int (-1 : Int32)) ∧ Fld Z h it "java/util/ArrayList$Itr" "expectedModCount" "I" (.int (3 : Int32))) := by
 refine Ctr.go (plainFor_of_name pn_290) fun p e s m below meth c s₁ Bd hx hby hml hZ hown hnm X0 e0 => ?_
 have hq := And.intro hx hby
 have N0 := Fr.nil n0
 have K0 := Keep.refl h0 []
 refine gs (S' := s₁.setTop (mkF m 0 #[rv a] [])) (fun tg kg => castTop (ef_27 m a) kg) ?_
 obtain ⟨T1, h1, X1, e1, E1, A1, D1, -, st1⟩ := newO X0 hx hZ hown (ow hw 141 rfl) (ow hw 142 rfl) (ow hw 143 rfl) e0 (g := (mkF m 0 #[rv a] [])) rfl (hb hby d25_0) (by decide) (by decide)
 obtain ⟨b1, q1⟩ : ∃ z, z = h0.size := ⟨_, rfl⟩
 rw [← q1] at A1 D1 st1
 have g_b1 : n0 ≤ b1 := nt Z0 (Nat.le_of_eq q1.symm)
 have sz_b1 : h0.size ≤ b1 := nt K0.1 (Nat.le_of_eq q1.symm)
 have Z2 := nt Z0 E1.1
 have O2 := O0.ext E1
 have K2 := K0.ext E1
 have F_this_0_b1 : Fld Z h1 b1 "java/util/ArrayList$Itr" "this$0" "Ljava/util/ArrayList;" .null := D1 (Or.inr (ow hw 149 rfl)) (ty := (.object "java/util/ArrayList")) (by decide)
 have F_lastRet_b1 : Fld Z h1 b1 "java/util/ArrayList$Itr" "lastRet" "I" (.int (0 : Int32)) := D1 (Or.inl (ow hw 152 rfl)) (ty := .int) (by decide)
 have F_expectedModCount_b1 : Fld Z h1 b1 "java/util/ArrayList$Itr" "expectedModCount" "I" (.int (0 : Int32)) := D1 (Or.inl (ow hw 156 rfl)) (ty := .int) (by decide)
 have F_cursor_b1 : Fld Z h1 b1 "java/util/ArrayList$Itr" "cursor" "I" (.int (0 : Int32)) := D1 (Or.inl (ow hw 167 rfl)) (ty := .int) (by decide)
 refine gs (S' := T1.setTop (mkF m 3 #[rv a] [(.ref b1)])) st1 ?_
 refine gs (fun _ k => jad X1 hq d25_3 rfl (jb X1 hq d25_4 rfl rfl k)) ?_
 have f3 := (E_a.ext E1)
 have f4 := (F_m.ext E1)
 refine cI (rest := [(.ref b1)]) X1 hx hZ hown rfl (ow hw 144 rfl) (ow hw 145 rfl) (ow hw 143 rfl) (ow hw 147 rfl) (rm_ii3 l Z a0 hw [] b1 a h1 n0 Z2 O2 A1 F_this_0_b1 F_cursor_b1 F_lastRet_b1 F_expectedModCount_b1 g_b1 f3 f4) hby d25_5 e1 pd_395 1 (by rw [hml]; rfl) rfl rfl rfl rfl (by decide) (by decide) fun _ T5 Lc5 X5 hQ5 => ?_
 obtain ⟨rfl, N5q, K5q, J5t, J5c, J5l, J5m⟩ := hQ5
 have N5 := Fr.app N0 N5q
 have Z6 := nt Z2 K5q.1
 have O6 := O2.keep K5q (allS g_b1 all0)
 have K6 := K2.trans K5q (allS (Or.inr sz_b1) all0)
 have f7 := (A1.keep K5q)
 refine gout (v := some (.ref b1)) X5 Bd.notSynchronized (jA Bd.returns) (by decide) (by decide) ?_ (fun fs hr => retOut X5 hx Bd.returns rfl (Or.inr (Or.inr (Or.inr (Or.inr ⟨rfl, rfl, rfl⟩)))) (hb hby d25_8) hr)
 exact ⟨_, rfl, N5, K6, sz_b1, f7, J5t, J5c, J5l, J5m⟩
theorem rm_cm3 (l : Launch) (Z : State) (a0 : Array Value) (hw : HW Z a0) (ws : List Jvm.Cond) (it : Addr) (a : Addr) (h0 : Heap) (n0 : Nat) (Z0 : n0 ≤ h0.size) (O0 : Old Z n0 h0) (J_t : Fld Z h0 it "java/util/ArrayList$Itr" "this$0" "Ljava/util/ArrayList;" (.ref a)) (J_m : Fld Z h0 it "java/util/ArrayList$Itr" "expectedModCount" "I" (.int (3 : Int32))) (F_m : Fld Z h0 a "java/util/AbstractList" "modCount" "I" (.int (3 : Int32))) :
  Ctr l Z my8 oc26 1 ((Option.none : Option Jvm.ClassFile.FieldType)) ws (⟨0, 0, 0, 0⟩ : Room) #[(.ref it)] h0 (fun v h L => v = none ∧ Fr n0 L ∧ h = h0) := by
 refine Ctr.go (plainFor_of_name pn_388) fun p e s m below meth c s₁ Bd hx hby hml hZ hown hnm X0 e0 => ?_
 have hq := And.intro hx hby
 have N0 := Fr.nil n0
 have K0 := Keep.refl h0 []
 refine gs (S' := s₁.setTop (mkF m 0 #[rv it] [])) (fun tg kg => castTop (ef_27 m it) kg) ?_
 refine gs (fun _ k => jb X0 hq d26_0 rfl rfl k) ?_
 refine gF X0 hx hZ hown (host := "") (Or.inl (ow hw 148 rfl)) Via.refl e0 J_t hby d26_1 fun T1 X1 e1 => ?_
 refine gF X1 hx hZ hown (host := "") (Or.inl (ow hw 153 rfl)) (Via.of (ow hw 154 rfl)) e1 F_m hby d26_4 fun T2 X2 e2 => ?_
 refine gs (fun _ k => jb X2 hq d26_7 rfl rfl k) ?_
 refine gF X2 hx hZ hown (host := "") (Or.inl (ow hw 155 rfl)) Via.refl e2 J_m hby d26_8 fun T3 X3 e3 => ?_
 refine gs (fun _ k => jh (pc' := 22) X3 hq d26_11 (teq (by decide : (3 : Int32) = (3 : Int32))).1 k) ?_
 refine gout (v := none) X3 Bd.notSynchronized (fun _ => rfl) (by decide) (by decide) ?_ (fun fs hr => X3.returnOut hx Bd.returns (hb hby d26_22) hr)
 rw [e3]
 exact ⟨rfl, N0, rfl⟩
theorem rm_hn03 (l : Launch) (Z : State) (a0 : Array Value) (hw : HW Z a0) (ws : List Jvm.Cond) (it : Addr) (a : Addr) (h0 : Heap) (n0 : Nat) (Z0 : n0 ≤ h0.size) (O0 : Old Z n0 h0) (J_t : Fld Z h0 it "java/util/ArrayList$Itr" "this$0" "Ljava/util/ArrayList;" (.ref a)) (J_c : Fld Z h0 it "java/util/ArrayList$Itr" "cursor" "I" (.int (0 : Int32))) (F_s : Fld Z h0 a "java/util/ArrayList" "size" "I" (.int (3 : Int32))) :
  Ctr l Z my0 oc27 1 ((Option.some Jvm.ClassFile.FieldType.boolean)) ws (⟨0, 0, 0, 0⟩ : Room) #[(.ref it)] h0 (fun v h L => v = some (.int (1 : Int32)) ∧ Fr n0 L ∧ h = h0) := by
 refine Ctr.go (plainFor_of_name pn_388) fun p e s m below meth c s₁ Bd hx hby hml hZ hown hnm X0 e0 => ?_
 have hq := And.intro hx hby
 have N0 := Fr.nil n0
 have K0 := Keep.refl h0 []
 refine gs (S' := s₁.setTop (mkF m 0 #[rv it] [])) (fun tg kg => castTop (ef_27 m it) kg) ?_
 refine gs (fun _ k => jb X0 hq d27_0 rfl rfl k) ?_
 refine gF X0 hx hZ hown (host := "") (Or.inl (ow hw 166 rfl)) Via.refl e0 J_c hby d27_1 fun T1 X1 e1 => ?_
 refine gs (fun _ k => jb X1 hq d27_4 rfl rfl k) ?_
 refine gF X1 hx hZ hown (host := "") (Or.inl (ow hw 148 rfl)) Via.refl e1 J_t hby d27_5 fun T2 X2 e2 => ?_
 refine gF X2 hx hZ hown (Or.inr (ow hw 168 rfl)) Via.refl e2 F_s hby d27_8 fun T3 X3 e3 => ?_
 refine gs (fun _ k => jm X3 hq d27_11 (feq (by decide : ¬ ((0 : Int32) = (3 : Int32)))).1 (jf (v := (1 : Int32)) X3 hq d27_14 (jp (pc' := 19) X3 hq d27_15 k))) ?_
 refine gout (v := some (.int (1 : Int32))) X3 Bd.notSynchronized (jA Bd.returns) (by decide) (by decide) ?_ (fun fs hr => retN X3 hx (t := .boolean) Bd.returns (by simp) (hb hby d27_19) hr)
 rw [e3]
 exact ⟨rfl, N0, rfl⟩
theorem rm_nx03 (l : Launch) (Z : State) (a0 : Array Value) (hw : HW Z a0) (ws : List Jvm.Cond) (it : Addr) (a : Addr) (ar : Addr) (ka : ClassId) (x0 : Addr) (x1 : Addr) (x2 : Addr) (h0 : Heap) (n0 : Nat) (Z0 : n0 ≤ h0.size) (O0 : Old Z n0 h0) (E_i : Exa Z h0 it "java/util/ArrayList$Itr") (J_t : Fld Z h0 it "java/util/ArrayList$Itr" "this$0" "Ljava/util/ArrayList;" (.ref a)) (J_c : Fld Z h0 it "java/util/ArrayList$Itr" "cursor" "I" (.int (0 : Int32))) (J_l : Fld Z h0 it "java/util/ArrayList$Itr" "lastRet" "I" (.int (-1 : Int32))) (J_m : Fld Z h0 it "java/util/ArrayList$Itr" "expectedModCount" "I" (.int (3 : Int32))) (g_i : n0 ≤ it) (E_a : Exa Z h0 a "java/util/ArrayList") (F_m : Fld Z h0 a "java/util/AbstractList" "modCount" "I" (.int (3 : Int32))) (F_s : Fld Z h0 a "java/util/ArrayList" "size" "I" (.int (3 : Int32))) (F_e : Fld Z h0 a "java/util/ArrayList" "elementData" "[Ljava/lang/Object;" (.ref ar)) (V_ar : Arv Z h0 ar ka (.object "java/lang/Object") (10 : Int32) [(.ref x0), (.ref x1), (.ref x2)] .null) :
  Ctr l Z my1 oc28 3 ((Option.some (Jvm.ClassFile.FieldType.object "java/lang/Object"))) ws (⟨1, 0, 0, 12⟩ : Room) #[(.ref it)] h0 (fun v h L => v = some (.ref x0) ∧ Fr n0 L ∧ Keep h0 h [it] ∧ Fld Z h it "java/util/ArrayList$Itr" "this$0" "Ljava/util/ArrayList;" (.ref a) ∧ Fld Z h it "java/util/ArrayList$Itr" "cursor" "I" (.int (1 : Int32)) ∧ Fld Z h it "java/util/ArrayList$Itr" "lastRet" "I" (.int (0 : Int32)) ∧ Fld Z h it "java/util/ArrayList$Itr" "expectedModCount" "I" (.int (3 : Int32))) := by
 refine Ctr.go (plainFor_of_name pn_388) fun p e s m below meth c s₁ Bd hx hby hml hZ hown hnm X0 e0 => ?_
 have hq := And.intro hx hby
 have N0 := Fr.nil n0
 have K0 := Keep.refl h0 [it]
 refine gs (S' := s₁.setTop (mkF m 0 #[rv it, uu, uu] [])) (fun tg kg => castTop (ef_422 m it) kg) ?_
 refine gs (fun _ k => jb X0 hq d28_0 rfl rfl k) ?_
 refine cV (rest := []) X0 hx hZ hown (ow hw 309 rfl) (ow hw 310 rfl) (nfs hZ (ow hw 312 rfl)) (ow hw 312 rfl) (ow hw 311 rfl) (ow hw 143 rfl) (ow hw 313 rfl) (rm_cm3 l Z a0 hw [] it a h0 n0 Z0 O0 J_t J_m F_m) hby d28_1 e0 pd_276 0 (by rw [hml]; rfl) E_i rfl rfl rfl rfl (by decide) (by decide) fun _ T1 Lc1 X1 hQ1 => ?_
 obtain ⟨rfl, N1q, e1q⟩ := hQ1
 have N1 := Fr.app N0 N1q
 refine gs (fun _ k => jb X1 hq d28_4 rfl rfl k) ?_
 refine gF X1 hx hZ hown (host := "") (Or.inl (ow hw 166 rfl)) Via.refl e1q J_c hby d28_5 fun T2 X2 e2 => ?_
 refine gs (fun _ k => jT X2 hq d28_8 (jj rfl) (ji X2 hq d28_9 rfl (jb X2 hq d28_10 rfl rfl k))) ?_
 refine gF X2 hx hZ hown (host := "") (Or.inl (ow hw 148 rfl)) Via.refl e2 J_t hby d28_11 fun T3 X3 e3 => ?_
 refine gF X3 hx hZ hown (Or.inr (ow hw 168 rfl)) Via.refl e3 F_s hby d28_14 fun T4 X4 e4 => ?_
 refine gs (fun _ k => jh (pc' := 28) X4 hq d28_17 (tlt (by decide : (0 : Int32) < (3 : Int32))).1 (jb X4 hq d28_28 rfl rfl k)) ?_
 refine gF X4 hx hZ hown (host := "") (Or.inl (ow hw 148 rfl)) Via.refl e4 J_t hby d28_29 fun T5 X5 e5 => ?_
 refine gF X5 hx hZ hown (host := "") (Or.inl (ow hw 314 rfl)) Via.refl e5 F_e hby d28_32 fun T6 X6 e6 => ?_
 refine gs (fun _ k => jR X6 hq d28_35 rfl (jj rfl) (ji X6 hq d28_36 rfl (jb X6 hq d28_37 rfl rfl k))) ?_
 obtain ⟨cl7, A7, a7q, a7S, a7N, a7H, a7G⟩ := id V_ar
 refine gs (S' := T6.setTop (mkF m 39 #[rv it, iv (0 : Int32), rv ar] [(.int (10 : Int32)), (.int (0 : Int32))])) (fun _ k => by refine X6.arraylength hx (by rw [e6]; exact A7.1) (State.isArrayOf_alike hZ.alike A7.2.1) (g := (mkF m 38 #[rv it, iv (0 : Int32), rv ar] [(.ref ar), (.int (0 : Int32))])) rfl rfl (hb hby d28_38) _ ?_; rw [len_of a7S a7N]; exact k) ?_
 refine gs (fun _ k => jh (pc' := 50) X6 hq d28_39 (tlt (by decide : (0 : Int32) < (10 : Int32))).1 (jb X6 hq d28_50 rfl rfl (ji X6 hq d28_51 rfl (jf (v := (1 : Int32)) X6 hq d28_52 (jt X6 hq d28_53 k))))) ?_
 obtain ⟨T8, h8, X8, e8, W8, st8⟩ := putF X6 hx hZ hown (host := "") (Or.inl (ow hw 166 rfl)) Via.refl e6 J_c E_i (Or.inl (ow hw 167 rfl)) (ow hw 142 rfl) (ty := .int) (by decide) rfl rfl (g := (mkF m 54 #[rv it, iv (0 : Int32), rv ar] [(.int (1 : Int32)), (.ref it)])) rfl rfl (hb hby d28_54)
 have N8 := Fr.snoc X8 N1 g_i
 have Fw8 := J_c.same W8
 have Z9 := nt Z0 (Keep.of_wr W8).1
 have O9 := O0.wr W8 g_i
 have K9 := K0.wr W8 (Or.inl (List.mem_of_getElem? (i := 0) rfl))
 refine gs (S' := T8.setTop (mkF m 57 #[rv it, iv (0 : Int32), rv ar] [])) st8 ?_
 refine gs (fun _ k => jb X8 hq d28_57 rfl rfl (jb X8 hq d28_58 rfl rfl (ji X8 hq d28_59 rfl (o_dupX1 X8 hq d28_60 rfl rfl k)))) ?_
 have f10 := (J_l.other W8 (Or.inr (slot_ne (Or.inl (ow hw 152 rfl)) (Or.inl (ow hw 167 rfl)) (by decide) (t := .int) (t' := .int) (by decide) (by decide))))
 have f11 := (E_i.wr W8)
 obtain ⟨T12, h12, X12, e12, W12, st12⟩ := putF X8 hx hZ hown (host := "") (Or.inl (ow hw 151 rfl)) Via.refl e8 f10 f11 (Or.inl (ow hw 152 rfl)) (ow hw 142 rfl) (ty := .int) (by decide) rfl rfl (g := (mkF m 61 #[rv it, iv (0 : Int32), rv ar] [(.int (0 : Int32)), (.ref it), (.int (0 : Int32)), (.ref ar)])) rfl rfl (hb hby d28_61)
 have N12 := Fr.snoc X12 N8 g_i
 have Fw12 := f10.same W12
 have Z13 := nt Z9 (Keep.of_wr W12).1
 have O13 := O9.wr W12 g_i
 have K13 := K9.wr W12 (Or.inl (List.mem_of_getElem? (i := 0) rfl))
 refine gs (S' := T12.setTop (mkF m 64 #[rv it, iv (0 : Int32), rv ar] [(.int (0 : Int32)), (.ref ar)])) st12 ?_
 have f14 := ((V_ar.other W8 (Ne.symm (Exa.neArv E_i V_ar (ow hw 142 rfl)))).other W12 (Ne.symm (Exa.neArv E_i V_ar (ow hw 142 rfl))))
 obtain ⟨cl15, A15, a15q, a15S, a15N, a15H, a15G⟩ := id f14
 have hi15 := inb_of a15S (j := (0 : Int32)) ⟨by decide, by decide⟩
 refine gs (fun _ k => X12.aaload hx (j := (0 : Int32)) (v := (.ref x0)) (by rw [e12]; exact A15.1) (State.isArrayOf_alike hZ.alike A15.2.1) rfl A15.2.2 hi15 (Has.at a15H hi15 rfl) (g := (mkF m 64 #[rv it, iv (0 : Int32), rv ar] [(.int (0 : Int32)), (.ref ar)])) rfl rfl (hb hby d28_64) _ k) ?_
 have f16 := ((J_t.other W8 (Or.inr (slot_ne (Or.inr (ow hw 149 rfl)) (Or.inl (ow hw 167 rfl)) (by decide) (t := (.object "java/util/ArrayList")) (t' := .int) (by decide) (by decide)))).other W12 (Or.inr (slot_ne (Or.inr (ow hw 149 rfl)) (Or.inl (ow hw 152 rfl)) (by decide) (t := (.object "java/util/ArrayList")) (t' := .int) (by decide) (by decide))))
 have f17 := (Fw8.other W12 (Or.inr (slot_ne (Or.inl (ow hw 167 rfl)) (Or.inl (ow hw 152 rfl)) (by decide) (t := .int) (t' := .int) (by decide) (by decide))))
 have f18 := ((J_m.other W8 (Or.inr (slot_ne (Or.inl (ow hw 156 rfl)) (Or.inl (ow hw 167 rfl)) (by decide) (t := .int) (t' := .int) (by decide) (by decide)))).other W12 (Or.inr (slot_ne (Or.inl (ow hw 156 rfl)) (Or.inl (ow hw 152 rfl)) (by decide) (t := .int) (t' := .int) (by decide) (by decide))))
 refine gout (v := some (.ref x0)) X12 Bd.notSynchronized (jA Bd.returns) (by decide) (by decide) ?_ (fun fs hr => retOut X12 hx Bd.returns rfl (Or.inr (Or.inr (Or.inr (Or.inr ⟨rfl, rfl, rfl⟩)))) (hb hby d28_65) hr)
 rw [e12]
 exact ⟨rfl, N12, K13, f16, f17, Fw12, f18⟩
theorem rm_hn13 (l : Launch) (Z : State) (a0 : Array Value) (hw : HW Z a0) (ws : List Jvm.Cond) (it : Addr) (a : Addr) (h0 : Heap) (n0 : Nat) (Z0 : n0 ≤ h0.size) (O0 : Old Z n0 h0) (J_t : Fld Z h0 it "java/util/ArrayList$Itr" "this$0" "Ljava/util/ArrayList;" (.ref a)) (J_c : Fld Z h0 it "java/util/ArrayList$Itr" "cursor" "I" (.int (1 : Int32))) (F_s : Fld Z h0 a "java/util/ArrayList" "size" "I" (.int (3 : Int32))) :
  Ctr l Z my0 oc27 1 ((Option.some Jvm.ClassFile.FieldType.boolean)) ws (⟨0, 0, 0, 0⟩ : Room) #[(.ref it)] h0 (fun v h L => v = some (.int (1 : Int32)) ∧ Fr n0 L ∧ h = h0) := by
 refine Ctr.go (plainFor_of_name pn_388) fun p e s m below meth c s₁ Bd hx hby hml hZ hown hnm X0 e0 => ?_
 have hq := And.intro hx hby
 have N0 := Fr.nil n0
 have K0 := Keep.refl h0 []
 refine gs (S' := s₁.setTop (mkF m 0 #[rv it] [])) (fun tg kg => castTop (ef_27 m it) kg) ?_
 refine gs (fun _ k => jb X0 hq d27_0 rfl rfl k) ?_
 refine gF X0 hx hZ hown (host := "") (Or.inl (ow hw 166 rfl)) Via.refl e0 J_c hby d27_1 fun T1 X1 e1 => ?_
 refine gs (fun _ k => jb X1 hq d27_4 rfl rfl k) ?_
 refine gF X1 hx hZ hown (host := "") (Or.inl (ow hw 148 rfl)) Via.refl e1 J_t hby d27_5 fun T2 X2 e2 => ?_
 refine gF X2 hx hZ hown (Or.inr (ow hw 168 rfl)) Via.refl e2 F_s hby d27_8 fun T3 X3 e3 => ?_
 refine gs (fun _ k => jm X3 hq d27_11 (feq (by decide : ¬ ((1 : Int32) = (3 : Int32)))).1 (jf (v := (1 : Int32)) X3 hq d27_14 (jp (pc' := 19) X3 hq d27_15 k))) ?_
 refine gout (v := some (.int (1 : Int32))) X3 Bd.notSynchronized (jA Bd.returns) (by decide) (by decide) ?_ (fun fs hr => retN X3 hx (t := .boolean) Bd.returns (by simp) (hb hby d27_19) hr)
 rw [e3]
 exact ⟨rfl, N0, rfl⟩
theorem rm_nx13 (l : Launch) (Z : State) (a0 : Array Value) (hw : HW Z a0) (ws : List Jvm.Cond) (it : Addr) (a : Addr) (ar : Addr) (ka : ClassId) (x0 : Addr) (x1 : Addr) (x2 : Addr) (h0 : Heap) (n0 : Nat) (Z0 : n0 ≤ h0.size) (O0 : Old Z n0 h0) (E_i : Exa Z h0 it "java/util/ArrayList$Itr") (J_t : Fld Z h0 it "java/util/ArrayList$Itr" "this$0" "Ljava/util/ArrayList;" (.ref a)) (J_c : Fld Z h0 it "java/util/ArrayList$Itr" "cursor" "I" (.int (1 : Int32))) (J_l : Fld Z h0 it "java/util/ArrayList$Itr" "lastRet" "I" (.int (0 : Int32))) (J_m : Fld Z h0 it "java/util/ArrayList$Itr" "expectedModCount" "I" (.int (3 : Int32))) (g_i : n0 ≤ it) (E_a : Exa Z h0 a "java/util/ArrayList") (F_m : Fld Z h0 a "java/util/AbstractList" "modCount" "I" (.int (3 : Int32))) (F_s : Fld Z h0 a "java/util/ArrayList" "size" "I" (.int (3 : Int32))) (F_e : Fld Z h0 a "java/util/ArrayList" "elementData" "[Ljava/lang/Object;" (.ref ar)) (V_ar : Arv Z h0 ar ka (.object "java/lang/Object") (10 : Int32) [(.ref x0), (.ref x1), (.ref x2)] .null) :
  Ctr l Z my1 oc28 3 ((Option.some (Jvm.ClassFile.FieldType.object "java/lang/Object"))) ws (⟨1, 0, 0, 12⟩ : Room) #[(.ref it)] h0 (fun v h L => v = some (.ref x1) ∧ Fr n0 L ∧ Keep h0 h [it] ∧ Fld Z h it "java/util/ArrayList$Itr" "this$0" "Ljava/util/ArrayList;" (.ref a) ∧ Fld Z h it "java/util/ArrayList$Itr" "cursor" "I" (.int (2 : Int32)) ∧ Fld Z h it "java/util/ArrayList$Itr" "lastRet" "I" (.int (1 : Int32)) ∧ Fld Z h it "java/util/ArrayList$Itr" "expectedModCount" "I" (.int (3 : Int32))) := by
 refine Ctr.go (plainFor_of_name pn_388) fun p e s m below meth c s₁ Bd hx hby hml hZ hown hnm X0 e0 => ?_
 have hq := And.intro hx hby
 have N0 := Fr.nil n0
 have K0 := Keep.refl h0 [it]
 refine gs (S' := s₁.setTop (mkF m 0 #[rv it, uu, uu] [])) (fun tg kg => castTop (ef_422 m it) kg) ?_
 refine gs (fun _ k => jb X0 hq d28_0 rfl rfl k) ?_
 refine cV (rest := []) X0 hx hZ hown (ow hw 309 rfl) (ow hw 310 rfl) (nfs hZ (ow hw 312 rfl)) (ow hw 312 rfl) (ow hw 311 rfl) (ow hw 143 rfl) (ow hw 313 rfl) (rm_cm3 l Z a0 hw [] it a h0 n0 Z0 O0 J_t J_m F_m) hby d28_1 e0 pd_276 0 (by rw [hml]; rfl) E_i rfl rfl rfl rfl (by decide) (by decide) fun _ T1 Lc1 X1 hQ1 => ?_
 obtain ⟨rfl, N1q, e1q⟩ := hQ1
 have N1 := Fr.app N0 N1q
 refine gs (fun _ k => jb X1 hq d28_4 rfl rfl k) ?_
 refine gF X1 hx hZ hown (host := "") (Or.inl (ow hw 166 rfl)) Via.refl e1q J_c hby d28_5 fun T2 X2 e2 => ?_
 refine gs (fun _ k => jT X2 hq d28_8 (jj rfl) (ji X2 hq d28_9 rfl (jb X2 hq d28_10 rfl rfl k))) ?_
 refine gF X2 hx hZ hown (host := "") (Or.inl (ow hw 148 rfl)) Via.refl e2 J_t hby d28_11 fun T3 X3 e3 => ?_
 refine gF X3 hx hZ hown (Or.inr (ow hw 168 rfl)) Via.refl e3 F_s hby d28_14 fun T4 X4 e4 => ?_
 refine gs (fun _ k => jh (pc' := 28) X4 hq d28_17 (tlt (by decide : (1 : Int32) < (3 : Int32))).1 (jb X4 hq d28_28 rfl rfl k)) ?_
 refine gF X4 hx hZ hown (host := "") (Or.inl (ow hw 148 rfl)) Via.refl e4 J_t hby d28_29 fun T5 X5 e5 => ?_
 refine gF X5 hx hZ hown (host := "") (Or.inl (ow hw 314 rfl)) Via.refl e5 F_e hby d28_32 fun T6 X6 e6 => ?_
 refine gs (fun _ k => jR X6 hq d28_35 rfl (jj rfl) (ji X6 hq d28_36 rfl (jb X6 hq d28_37 rfl rfl k))) ?_
 obtain ⟨cl7, A7, a7q, a7S, a7N, a7H, a7G⟩ := id V_ar
 refine gs (S' := T6.setTop (mkF m 39 #[rv it, iv (1 : Int32), rv ar] [(.int (10 : Int32)), (.int (1 : Int32))])) (fun _ k => by refine X6.arraylength hx (by rw [e6]; exact A7.1) (State.isArrayOf_alike hZ.alike A7.2.1) (g := (mkF m 38 #[rv it, iv (1 : Int32), rv ar] [(.ref ar), (.int (1 : Int32))])) rfl rfl (hb hby d28_38) _ ?_; rw [len_of a7S a7N]; exact k) ?_
 refine gs (fun _ k => jh (pc' := 50) X6 hq d28_39 (tlt (by decide : (1 : Int32) < (10 : Int32))).1 (jb X6 hq d28_50 rfl rfl (ji X6 hq d28_51 rfl (jf (v := (1 : Int32)) X6 hq d28_52 (jt X6 hq d28_53 k))))) ?_
 obtain ⟨T8, h8, X8, e8, W8, st8⟩ := putF X6 hx hZ hown (host := "") (Or.inl (ow hw 166 rfl)) Via.refl e6 J_c E_i (Or.inl (ow hw 167 rfl)) (ow hw 142 rfl) (ty := .int) (by decide) rfl rfl (g := (mkF m 54 #[rv it, iv (1 : Int32), rv ar] [(.int (2 : Int32)), (.ref it)])) rfl rfl (hb hby d28_54)
 have N8 := Fr.snoc X8 N1 g_i
 have Fw8 := J_c.same W8
 have Z9 := nt Z0 (Keep.of_wr W8).1
 have O9 := O0.wr W8 g_i
 have K9 := K0.wr W8 (Or.inl (List.mem_of_getElem? (i := 0) rfl))
 refine gs (S' := T8.setTop (mkF m 57 #[rv it, iv (1 : Int32), rv ar] [])) st8 ?_
 refine gs (fun _ k => jb X8 hq d28_57 rfl rfl (jb X8 hq d28_58 rfl rfl (ji X8 hq d28_59 rfl (o_dupX1 X8 hq d28_60 rfl rfl k)))) ?_
 have f10 := (J_l.other W8 (Or.inr (slot_ne (Or.inl (ow hw 152 rfl)) (Or.inl (ow hw 167 rfl)) (by decide) (t := .int) (t' := .int) (by decide) (by decide))))
 have f11 := (E_i.wr W8)
 obtain ⟨T12, h12, X12, e12, W12, st12⟩ := putF X8 hx hZ hown (host := "") (Or.inl (ow hw 151 rfl)) Via.refl e8 f10 f11 (Or.inl (ow hw 152 rfl)) (ow hw 142 rfl) (ty := .int) (by decide) rfl rfl (g := (mkF m 61 #[rv it, iv (1 : Int32), rv ar] [(.int (1 : Int32)), (.ref it), (.int (1 : Int32)), (.ref ar)])) rfl rfl (hb hby d28_61)
 have N12 := Fr.snoc X12 N8 g_i
 have Fw12 := f10.same W12
 have Z13 := nt Z9 (Keep.of_wr W12).1
 have O13 := O9.wr W12 g_i
 have K13 := K9.wr W12 (Or.inl (List.mem_of_getElem? (i := 0) rfl))
 refine gs (S' := T12.setTop (mkF m 64 #[rv it, iv (1 : Int32), rv ar] [(.int (1 : Int32)), (.ref ar)])) st12 ?_
 have f14 := ((V_ar.other W8 (Ne.symm (Exa.neArv E_i V_ar (ow hw 142 rfl)))).other W12 (Ne.symm (Exa.neArv E_i V_ar (ow hw 142 rfl))))
 obtain ⟨cl15, A15, a15q, a15S, a15N, a15H, a15G⟩ := id f14
 have hi15 := inb_of a15S (j := (1 : Int32)) ⟨by decide, by decide⟩
 refine gs (fun _ k => X12.aaload hx (j := (1 : Int32)) (v := (.ref x1)) (by rw [e12]; exact A15.1) (State.isArrayOf_alike hZ.alike A15.2.1) rfl A15.2.2 hi15 (Has.at a15H hi15 rfl) (g := (mkF m 64 #[rv it, iv (1 : Int32), rv ar] [(.int (1 : Int32)), (.ref ar)])) rfl rfl (hb hby d28_64) _ k) ?_
 have f16 := ((J_t.other W8 (Or.inr (slot_ne (Or.inr (ow hw 149 rfl)) (Or.inl (ow hw 167 rfl)) (by decide) (t := (.object "java/util/ArrayList")) (t' := .int) (by decide) (by decide)))).other W12 (Or.inr (slot_ne (Or.inr (ow hw 149 rfl)) (Or.inl (ow hw 152 rfl)) (by decide) (t := (.object "java/util/ArrayList")) (t' := .int) (by decide) (by decide))))
 have f17 := (Fw8.other W12 (Or.inr (slot_ne (Or.inl (ow hw 167 rfl)) (Or.inl (ow hw 152 rfl)) (by decide) (t := .int) (t' := .int) (by decide) (by decide))))
 have f18 := ((J_m.other W8 (Or.inr (slot_ne (Or.inl (ow hw 156 rfl)) (Or.inl (ow hw 167 rfl)) (by decide) (t := .int) (t' := .int) (by decide) (by decide)))).other W12 (Or.inr (slot_ne (Or.inl (ow hw 156 rfl)) (Or.inl (ow hw 152 rfl)) (by decide) (t := .int) (t' := .int) (by decide) (by decide))))
 refine gout (v := some (.ref x1)) X12 Bd.notSynchronized (jA Bd.returns) (by decide) (by decide) ?_ (fun fs hr => retOut X12 hx Bd.returns rfl (Or.inr (Or.inr (Or.inr (Or.inr ⟨rfl, rfl, rfl⟩)))) (hb hby d28_65) hr)
 rw [e12]
 exact ⟨rfl, N12, K13, f16, f17, Fw12, f18⟩
theorem rm_hn23 (l : Launch) (Z : State) (a0 : Array Value) (hw : HW Z a0) (ws : List Jvm.Cond) (it : Addr) (a : Addr) (h0 : Heap) (n0 : Nat) (Z0 : n0 ≤ h0.size) (O0 : Old Z n0 h0) (J_t : Fld Z h0 it "java/util/ArrayList$Itr" "this$0" "Ljava/util/ArrayList;" (.ref a)) (J_c : Fld Z h0 it "java/util/ArrayList$Itr" "cursor" "I" (.int (2 : Int32))) (F_s : Fld Z h0 a "java/util/ArrayList" "size" "I" (.int (3 : Int32))) :
  Ctr l Z my0 oc27 1 ((Option.some Jvm.ClassFile.FieldType.boolean)) ws (⟨0, 0, 0, 0⟩ : Room) #[(.ref it)] h0 (fun v h L => v = some (.int (1 : Int32)) ∧ Fr n0 L ∧ h = h0) := by
 refine Ctr.go (plainFor_of_name pn_388) fun p e s m below meth c s₁ Bd hx hby hml hZ hown hnm X0 e0 => ?_
 have hq := And.intro hx hby
 have N0 := Fr.nil n0
 have K0 := Keep.refl h0 []
 refine gs (S' := s₁.setTop (mkF m 0 #[rv it] [])) (fun tg kg => castTop (ef_27 m it) kg) ?_
 refine gs (fun _ k => jb X0 hq d27_0 rfl rfl k) ?_
 refine gF X0 hx hZ hown (host := "") (Or.inl (ow hw 166 rfl)) Via.refl e0 J_c hby d27_1 fun T1 X1 e1 => ?_
 refine gs (fun _ k => jb X1 hq d27_4 rfl rfl k) ?_
 refine gF X1 hx hZ hown (host := "") (Or.inl (ow hw 148 rfl)) Via.refl e1 J_t hby d27_5 fun T2 X2 e2 => ?_
 refine gF X2 hx hZ hown (Or.inr (ow hw 168 rfl)) Via.refl e2 F_s hby d27_8 fun T3 X3 e3 => ?_
 refine gs (fun _ k => jm X3 hq d27_11 (feq (by decide : ¬ ((2 : Int32) = (3 : Int32)))).1 (jf (v := (1 : Int32)) X3 hq d27_14 (jp (pc' := 19) X3 hq d27_15 k))) ?_
 refine gout (v := some (.int (1 : Int32))) X3 Bd.notSynchronized (jA Bd.returns) (by decide) (by decide) ?_ (fun fs hr => retN X3 hx (t := .boolean) Bd.returns (by simp) (hb hby d27_19) hr)
 rw [e3]
 exact ⟨rfl, N0, rfl⟩
theorem rm_nx23 (l : Launch) (Z : State) (a0 : Array Value) (hw : HW Z a0) (ws : List Jvm.Cond) (it : Addr) (a : Addr) (ar : Addr) (ka : ClassId) (x0 : Addr) (x1 : Addr) (x2 : Addr) (h0 : Heap) (n0 : Nat) (Z0 : n0 ≤ h0.size) (O0 : Old Z n0 h0) (E_i : Exa Z h0 it "java/util/ArrayList$Itr") (J_t : Fld Z h0 it "java/util/ArrayList$Itr" "this$0" "Ljava/util/ArrayList;" (.ref a)) (J_c : Fld Z h0 it "java/util/ArrayList$Itr" "cursor" "I" (.int (2 : Int32))) (J_l : Fld Z h0 it "java/util/ArrayList$Itr" "lastRet" "I" (.int (1 : Int32))) (J_m : Fld Z h0 it "java/util/ArrayList$Itr" "expectedModCount" "I" (.int (3 : Int32))) (g_i : n0 ≤ it) (E_a : Exa Z h0 a "java/util/ArrayList") (F_m : Fld Z h0 a "java/util/AbstractList" "modCount" "I" (.int (3 : Int32))) (F_s : Fld Z h0 a "java/util/ArrayList" "size" "I" (.int (3 : Int32))) (F_e : Fld Z h0 a "java/util/ArrayList" "elementData" "[Ljava/lang/Object;" (.ref ar)) (V_ar : Arv Z h0 ar ka (.object "java/lang/Object") (10 : Int32) [(.ref x0), (.ref x1), (.ref x2)] .null) :
  Ctr l Z my1 oc28 3 ((Option.some (Jvm.ClassFile.FieldType.object "java/lang/Object"))) ws (⟨1, 0, 0, 12⟩ : Room) #[(.ref it)] h0 (fun v h L => v = some (.ref x2) ∧ Fr n0 L ∧ Keep h0 h [it] ∧ Fld Z h it "java/util/ArrayList$Itr" "this$0" "Ljava/util/ArrayList;" (.ref a) ∧ Fld Z h it "java/util/ArrayList$Itr" "cursor" "I" (.int (3 : Int32)) ∧ Fld Z h it "java/util/ArrayList$Itr" "lastRet" "I" (.int (2 : Int32)) ∧ Fld Z h it "java/util/ArrayList$Itr" "expectedModCount" "I" (.int (3 : Int32))) := by
 refine Ctr.go (plainFor_of_name pn_388) fun p e s m below meth c s₁ Bd hx hby hml hZ hown hnm X0 e0 => ?_
 have hq := And.intro hx hby
 have N0 := Fr.nil n0
 have K0 := Keep.refl h0 [it]
 refine gs (S' := s₁.setTop (mkF m 0 #[rv it, uu, uu] [])) (fun tg kg => castTop (ef_422 m it) kg) ?_
 refine gs (fun _ k => jb X0 hq d28_0 rfl rfl k) ?_
 refine cV (rest := []) X0 hx hZ hown (ow hw 309 rfl) (ow hw 310 rfl) (nfs hZ (ow hw 312 rfl)) (ow hw 312 rfl) (ow hw 311 rfl) (ow hw 143 rfl) (ow hw 313 rfl) (rm_cm3 l Z a0 hw [] it a h0 n0 Z0 O0 J_t J_m F_m) hby d28_1 e0 pd_276 0 (by rw [hml]; rfl) E_i rfl rfl rfl rfl (by decide) (by decide) fun _ T1 Lc1 X1 hQ1 => ?_
 obtain ⟨rfl, N1q, e1q⟩ := hQ1
 have N1 := Fr.app N0 N1q
 refine gs (fun _ k => jb X1 hq d28_4 rfl rfl k) ?_
 refine gF X1 hx hZ hown (host := "") (Or.inl (ow hw 166 rfl)) Via.refl e1q J_c hby d28_5 fun T2 X2 e2 => ?_
 refine gs (fun _ k => jT X2 hq d28_8 (jj rfl) (ji X2 hq d28_9 rfl (jb X2 hq d28_10 rfl rfl k))) ?_
 refine gF X2 hx hZ hown (host := "") (Or.inl (ow hw 148 rfl)) Via.refl e2 J_t hby d28_11 fun T3 X3 e3 => ?_
 refine gF X3 hx hZ hown (Or.inr (ow hw 168 rfl)) Via.refl e3 F_s hby d28_14 fun T4 X4 e4 => ?_
 refine gs (fun _ k => jh (pc' := 28) X4 hq d28_17 (tlt (by decide : (2 : Int32) < (3 : Int32))).1 (jb X4 hq d28_28 rfl rfl k)) ?_
 refine gF X4 hx hZ hown (host := "") (Or.inl (ow hw 148 rfl)) Via.refl e4 J_t hby d28_29 fun T5 X5 e5 => ?_
 refine gF X5 hx hZ hown (host := "") (Or.inl (ow hw 314 rfl)) Via.refl e5 F_e hby d28_32 fun T6 X6 e6 => ?_
 refine gs (fun _ k => jR X6 hq d28_35 rfl (jj rfl) (ji X6 hq d28_36 rfl (jb X6 hq d28_37 rfl rfl k))) ?_
 obtain ⟨cl7, A7, a7q, a7S, a7N, a7H, a7G⟩ := id V_ar
 refine gs (S' := T6.setTop (mkF m 39 #[rv it, iv (2 : Int32), rv ar] [(.int (10 : Int32)), (.int (2 : Int32))])) (fun _ k => by refine X6.arraylength hx (by rw [e6]; exact A7.1) (State.isArrayOf_alike hZ.alike A7.2.1) (g := (mkF m 38 #[rv it, iv (2 : Int32), rv ar] [(.ref ar), (.int (2 : Int32))])) rfl rfl (hb hby d28_38) _ ?_; rw [len_of a7S a7N]; exact k) ?_
 refine gs (fun _ k => jh (pc' := 50) X6 hq d28_39 (tlt (by decide : (2 : Int32) < (10 : Int32))).1 (jb X6 hq d28_50 rfl rfl (ji X6 hq d28_51 rfl (jf (v := (1 : Int32)) X6 hq d28_52 (jt X6 hq d28_53 k))))) ?_
 obtain ⟨T8, h8, X8, e8, W8, st8⟩ := putF X6 hx hZ hown (host := "") (Or.inl (ow hw 166 rfl)) Via.refl e6 J_c E_i (Or.inl (ow hw 167 rfl)) (ow hw 142 rfl) (ty := .int) (by decide) rfl rfl (g := (mkF m 54 #[rv it, iv (2 : Int32), rv ar] [(.int (3 : Int32)), (.ref it)])) rfl rfl (hb hby d28_54)
 have N8 := Fr.snoc X8 N1 g_i
 have Fw8 := J_c.same W8
 have Z9 := nt Z0 (Keep.of_wr W8).1
 have O9 := O0.wr W8 g_i
 have K9 := K0.wr W8 (Or.inl (List.mem_of_getElem? (i := 0) rfl))
 refine gs (S' := T8.setTop (mkF m 57 #[rv it, iv (2 : Int32), rv ar] [])) st8 ?_
 refine gs (fun _ k => jb X8 hq d28_57 rfl rfl (jb X8 hq d28_58 rfl rfl (ji X8 hq d28_59 rfl (o_dupX1 X8 hq d28_60 rfl rfl k)))) ?_
 have f10 := (J_l.other W8 (Or.inr (slot_ne (Or.inl (ow hw 152 rfl)) (Or.inl (ow hw 167 rfl)) (by decide) (t := .int) (t' := .int) (by decide) (by decide))))
 have f11 := (E_i.wr W8)
 obtain ⟨T12, h12, X12, e12, W12, st12⟩ := putF X8 hx hZ hown (host := "") (Or.inl (ow hw 151 rfl)) Via.refl e8 f10 f11 (Or.inl (ow hw 152 rfl)) (ow hw 142 rfl) (ty := .int) (by decide) rfl rfl (g := (mkF m 61 #[rv it, iv (2 : Int32), rv ar] [(.int (2 : Int32)), (.ref it), (.int (2 : Int32)), (.ref ar)])) rfl rfl (hb hby d28_61)
 have N12 := Fr.snoc X12 N8 g_i
 have Fw12 := f10.same W12
 have Z13 := nt Z9 (Keep.of_wr W12).1
 have O13 := O9.wr W12 g_i
 have K13 := K9.wr W12 (Or.inl (List.mem_of_getElem? (i := 0) rfl))
 refine gs (S' := T12.setTop (mkF m 64 #[rv it, iv (2 : Int32), rv ar] [(.int (2 : Int32)), (.ref ar)])) st12 ?_
 have f14 := ((V_ar.other W8 (Ne.symm (Exa.neArv E_i V_ar (ow hw 142 rfl)))).other W12 (Ne.symm (Exa.neArv E_i V_ar (ow hw 142 rfl))))
 obtain ⟨cl15, A15, a15q, a15S, a15N, a15H, a15G⟩ := id f14
 have hi15 := inb_of a15S (j := (2 : Int32)) ⟨by decide, by decide⟩
 refine gs (fun _ k => X12.aaload hx (j := (2 : Int32)) (v := (.ref x2)) (by rw [e12]; exact A15.1) (State.isArrayOf_alike hZ.alike A15.2.1) rfl A15.2.2 hi15 (Has.at a15H hi15 rfl) (g := (mkF m 64 #[rv it, iv (2 : Int32), rv ar] [(.int (2 : Int32)), (.ref ar)])) rfl rfl (hb hby d28_64) _ k) ?_
 have f16 := ((J_t.other W8 (Or.inr (slot_ne (Or.inr (ow hw 149 rfl)) (Or.inl (ow hw 167 rfl)) (by decide) (t := (.object "java/util/ArrayList")) (t' := .int) (by decide) (by decide)))).other W12 (Or.inr (slot_ne (Or.inr (ow hw 149 rfl)) (Or.inl (ow hw 152 rfl)) (by decide) (t := (.object "java/util/ArrayList")) (t' := .int) (by decide) (by decide))))
 have f17 := (Fw8.other W12 (Or.inr (slot_ne (Or.inl (ow hw 167 rfl)) (Or.inl (ow hw 152 rfl)) (by decide) (t := .int) (t' := .int) (by decide) (by decide))))
 have f18 := ((J_m.other W8 (Or.inr (slot_ne (Or.inl (ow hw 156 rfl)) (Or.inl (ow hw 167 rfl)) (by decide) (t := .int) (t' := .int) (by decide) (by decide)))).other W12 (Or.inr (slot_ne (Or.inl (ow hw 156 rfl)) (Or.inl (ow hw 152 rfl)) (by decide) (t := .int) (t' := .int) (by decide) (by decide))))
 refine gout (v := some (.ref x2)) X12 Bd.notSynchronized (jA Bd.returns) (by decide) (by decide) ?_ (fun fs hr => retOut X12 hx Bd.returns rfl (Or.inr (Or.inr (Or.inr (Or.inr ⟨rfl, rfl, rfl⟩)))) (hb hby d28_65) hr)
 rw [e12]
 exact ⟨rfl, N12, K13, f16, f17, Fw12, f18⟩
theorem rm_hn33 (l : Launch) (Z : State) (a0 : Array Value) (hw : HW Z a0) (ws : List Jvm.Cond) (it : Addr) (a : Addr) (h0 : Heap) (n0 : Nat) (Z0 : n0 ≤ h0.size) (O0 : Old Z n0 h0) (J_t : Fld Z h0 it "java/util/ArrayList$Itr" "this$0" "Ljava/util/ArrayList;" (.ref a)) (J_c : Fld Z h0 it "java/util/ArrayList$Itr" "cursor" "I" (.int (3 : Int32))) (F_s : Fld Z h0 a "java/util/ArrayList" "size" "I" (.int (3 : Int32))) :
  Ctr l Z my0 oc27 1 ((Option.some Jvm.ClassFile.FieldType.boolean)) ws (⟨0, 0, 0, 0⟩ : Room) #[(.ref it)] h0 (fun v h L => v = some (.int (0 : Int32)) ∧ Fr n0 L ∧ h = h0) := by
 refine Ctr.go (plainFor_of_name pn_388) fun p e s m below meth c s₁ Bd hx hby hml hZ hown hnm X0 e0 => ?_
 have hq := And.intro hx hby
 have N0 := Fr.nil n0
 have K0 := Keep.refl h0 []
 refine gs (S' := s₁.setTop (mkF m 0 #[rv it] [])) (fun tg kg => castTop (ef_27 m it) kg) ?_
 refine gs (fun _ k => jb X0 hq d27_0 rfl rfl k) ?_
 refine gF X0 hx hZ hown (host := "") (Or.inl (ow hw 166 rfl)) Via.refl e0 J_c hby d27_1 fun T1 X1 e1 => ?_
 refine gs (fun _ k => jb X1 hq d27_4 rfl rfl k) ?_
 refine gF X1 hx hZ hown (host := "") (Or.inl (ow hw 148 rfl)) Via.refl e1 J_t hby d27_5 fun T2 X2 e2 => ?_
 refine gF X2 hx hZ hown (Or.inr (ow hw 168 rfl)) Via.refl e2 F_s hby d27_8 fun T3 X3 e3 => ?_
 refine gs (fun _ k => jh (pc' := 18) X3 hq d27_11 (teq (by decide : (3 : Int32) = (3 : Int32))).1 (jf (v := (0 : Int32)) X3 hq d27_18 k)) ?_
 refine gout (v := some (.int (0 : Int32))) X3 Bd.notSynchronized (jA Bd.returns) (by decide) (by decide) ?_ (fun fs hr => retN X3 hx (t := .boolean) Bd.returns (by simp) (hb hby d27_19) hr)
 rw [e3]
 exact ⟨rfl, N0, rfl⟩
theorem rm_coder0 (l : Launch) (Z : State) (a0 : Array Value) (hw : HW Z a0) (ws : List Jvm.Cond) (x : Addr) (ds : List Int32) (z : Int32) (h0 : Heap) (n0 : Nat) (Z0 : n0 ≤ h0.size) (O0 : Old Z n0 h0) (S0 : PS0 Z (.int z)) (hz : ¬ z = 0) (T_x : Str Z h0 x ds) :
  Ctr l Z my16 oc2 1 ((Option.some Jvm.ClassFile.FieldType.byte)) ws (⟨0, 0, 0, 0⟩ : Room) #[(.ref x)] h0 (fun v h L => v = some (.int (0 : Int32)) ∧ Fr n0 L ∧ h = h0) := by
 refine Ctr.go (plainFor_of_name pn_15) fun p e s m below meth c s₁ Bd hx hby hml hZ hown hnm X0 e0 => ?_
 have hq := And.intro hx hby
 have N0 := Fr.nil n0
 have K0 := Keep.refl h0 []
 refine gs (S' := s₁.setTop (mkF m 0 #[rv x] [])) (fun tg kg => castTop (ef_27 m x) kg) ?_
 obtain ⟨u, ku, E_x, F_cx, F_vx, V_u⟩ := id T_x
 refine gS X0 hx hZ hown (host := "") (Or.inl (ow hw 65 rfl)) Via.refl e0 (S0.ext O0.2) hby d2_0 fun T1 X1 e1 => ?_
 refine gs (fun _ k => jG X1 hq d2_3 ((if0 _ _).trans (feq hz).1) (jb X1 hq d2_6 rfl rfl k)) ?_
 refine gF X1 hx hZ hown (host := "") (Or.inl (ow hw 25 rfl)) Via.refl e1 F_cx hby d2_7 fun T2 X2 e2 => ?_
 refine gs (fun _ k => jp (pc' := 14) X2 hq d2_10 k) ?_
 refine gout (v := some (.int (0 : Int32))) X2 Bd.notSynchronized (jA Bd.returns) (by decide) (by decide) ?_ (fun fs hr => retN X2 hx (t := .byte) Bd.returns (by simp) (hb hby d2_14) hr)
 rw [e2]
 exact ⟨rfl, N0, rfl⟩
abbrev oc29 := jdk_68_method_71_code
theorem d29_0 : decode oc29 0 = .ok (.getstatic 18, 3) := by decide +kernel
theorem d29_3 : decode oc29 3 = .ok (.ifCond .eq 18, 3) := by decide +kernel
theorem d29_6 : decode oc29 6 = .ok (.aload_n 0, 1) := by decide +kernel
theorem d29_7 : decode oc29 7 = .ok (.getfield 22, 3) := by decide +kernel
theorem d29_10 : decode oc29 10 = .ok (.aload_n 1, 1) := by decide +kernel
theorem d29_11 : decode oc29 11 = .ok (.invokevirtual 40, 3) := by decide +kernel
theorem d29_14 : decode oc29 14 = .ok (.if_icmp .eq 7, 3) := by decide +kernel
theorem d29_21 : decode oc29 21 = .ok (.return_, 1) := by decide +kernel
theorem pn_484 : plainName "java/lang/AbstractStringBuilder" = true := by first | (simp [plainName, overriddenIn]; done) | decide +kernel
theorem rm_inf (l : Launch) (Z : State) (a0 : Array Value) (hw : HW Z a0) (ws : List Jvm.Cond) (b : Addr) (x : Addr) (ds : List Int32) (z : Int32) (h0 : Heap) (n0 : Nat) (Z0 : n0 ≤ h0.size) (O0 : Old Z n0 h0) (S0 : PS0 Z (.int z)) (hz : ¬ z = 0) (F_c : Fld Z h0 b "java/lang/AbstractStringBuilder" "coder" "B" (.int (0 : Int32))) (T_x : Str Z h0 x ds) :
  Ctr l Z (⟨"java/lang/AbstractStringBuilder", "inflateIfNeededFor", "(Ljava/lang/String;)V"⟩ : MethodName) oc29 2 ((Option.none : Option Jvm.ClassFile.FieldType)) ws (⟨1, 0, 0, 13⟩ : Room) #[(.ref b), (.ref x)] h0 (fun v h L => v = none ∧ Fr n0 L ∧ h = h0) := by
 refine Ctr.go (plainFor_of_name pn_484) fun p e s m below meth c s₁ Bd hx hby hml hZ hown hnm X0 e0 => ?_
 have hq := And.intro hx hby
 have N0 := Fr.nil n0
 have K0 := Keep.refl h0 []
 refine gs (S' := s₁.setTop (mkF m 0 #[rv b, rv x] [])) (fun tg kg => castTop (ef_16 m b x) kg) ?_
 refine gS X0 hx hZ hown (host := "") (Or.inl (ow hw 122 rfl)) Via.refl e0 (S0.ext O0.2) hby d29_0 fun T1 X1 e1 => ?_
 refine gs (fun _ k => jG X1 hq d29_3 ((if0 _ _).trans (feq hz).1) (jb X1 hq d29_6 rfl rfl k)) ?_
 refine gF X1 hx hZ hown (host := "") (Or.inl (ow hw 87 rfl)) Via.refl e1 F_c hby d29_7 fun T2 X2 e2 => ?_
 refine gs (fun _ k => jb X2 hq d29_10 rfl rfl k) ?_
 refine cV (rest := [(.int (0 : Int32))]) X2 hx hZ hown (ow hw 86 rfl) (ow hw 61 rfl) (nfs hZ (ow hw 63 rfl)) (ow hw 63 rfl) (ow hw 62 rfl) (ow hw 7 rfl) (ow hw 64 rfl) (rm_coder0 l Z a0 hw [] x ds z h0 n0 Z0 O0 S0 hz T_x) hby d29_11 e2 pd_52 1 (by rw [hml]; rfl) T_x.exa rfl rfl rfl rfl (by decide) (by decide) fun _ T3 Lc3 X3 hQ3 => ?_
 obtain ⟨rfl, N3q, e3q⟩ := hQ3
 have N3 := Fr.app N0 N3q
 refine gs (fun _ k => jh (pc' := 21) X3 hq d29_14 (teq (by decide : (0 : Int32) = (0 : Int32))).1 k) ?_
 refine gout (v := none) X3 Bd.notSynchronized (fun _ => rfl) (by decide) (by decide) ?_ (fun fs hr => X3.returnOut hx Bd.returns (hb hby d29_21) hr)
 rw [e3q]
 exact ⟨rfl, N3, rfl⟩
theorem d19_9 : decode oc19 9 = .ok (.iload_n 1, 1) := by decide +kernel
theorem rm_mxX (l : Launch) (Z : State) (a0 : Array Value) (hw : HW Z a0) (ws : List Jvm.Cond) (p1 : Int32) (p2 : Int32) (h0 : Heap) (n0 : Nat) (Z0 : n0 ≤ h0.size) (O0 : Old Z n0 h0)  :
  Ctr l Z my11 oc19 2 ((Option.some Jvm.ClassFile.FieldType.int)) ws (⟨0, 0, 0, 0⟩ : Room) #[(.int p1), (.int p2)] h0 (fun v h L => v = some (.int (if p1 < p2 then p2 else p1)) ∧ Fr n0 L ∧ h = h0) := by
 refine Ctr.go own_pf1 fun p e s m below meth c s₁ Bd hx hby hml hZ hown hnm X0 e0 => ?_
 have hq := And.intro hx hby
 have N0 := Fr.nil n0
 have K0 := Keep.refl h0 []
 refine gs (S' := s₁.setTop (mkF m 0 #[iv p1, iv p2] [])) (fun tg kg => castTop (ef_65 m p1 p2) kg) ?_
 refine gs (fun _ k => ji X0 hq d19_0 rfl (ji X0 hq d19_1 rfl k)) ?_
 by_cases hc1 : p1 < p2
 ·refine gs (fun _ k => jh (pc' := 9) X0 hq d19_2 (tlt hc1).1 (ji X0 hq d19_9 rfl k)) ?_
  refine gout (v := some (.int p2)) X0 Bd.notSynchronized (jA Bd.returns) (by decide) (by decide) ?_ (fun fs hr => retI X0 hx Bd.returns (hb hby d19_10) hr)
  rw [e0]
  exact ⟨by rw [if_pos hc1], N0, rfl⟩
 ·refine gs (fun _ k => jm X0 hq d19_2 (flt hc1).1 (ji X0 hq d19_5 rfl (jp (pc' := 10) X0 hq d19_6 k))) ?_
  refine gout (v := some (.int p1)) X0 Bd.notSynchronized (jA Bd.returns) (by decide) (by decide) ?_ (fun fs hr => retI X0 hx Bd.returns (hb hby d19_10) hr)
  rw [e0]
  exact ⟨by rw [if_neg hc1], N0, rfl⟩
abbrev oc30 := jdk_29_method_69_code
theorem d30_0 : decode oc30 0 = .ok (.iload_n 0, 1) := by decide +kernel
theorem d30_1 : decode oc30 1 = .ok (.iload_n 1, 1) := by decide +kernel
theorem d30_2 : decode oc30 2 = .ok (.if_icmp .gt 7, 3) := by decide +kernel
theorem d30_5 : decode oc30 5 = .ok (.iload_n 0, 1) := by decide +kernel
theorem d30_6 : decode oc30 6 = .ok (.goto 4, 3) := by decide +kernel
theorem d30_10 : decode oc30 10 = .ok (.ireturn, 1) := by decide +kernel
theorem rm_mnX (l : Launch) (Z : State) (a0 : Array Value) (hw : HW Z a0) (ws : List Jvm.Cond) (p1 : Int32) (p2 : Int32) (h0 : Heap) (n0 : Nat) (Z0 : n0 ≤ h0.size) (O0 : Old Z n0 h0) (hp : ¬ p2 < p1) :
  Ctr l Z my12 oc30 2 ((Option.some Jvm.ClassFile.FieldType.int)) ws (⟨0, 0, 0, 0⟩ : Room) #[(.int p1), (.int p2)] h0 (fun v h L => v = some (.int p1) ∧ Fr n0 L ∧ h = h0) := by
 refine Ctr.go own_pf2 fun p e s m below meth c s₁ Bd hx hby hml hZ hown hnm X0 e0 => ?_
 have hq := And.intro hx hby
 have N0 := Fr.nil n0
 have K0 := Keep.refl h0 []
 refine gs (S' := s₁.setTop (mkF m 0 #[iv p1, iv p2] [])) (fun tg kg => castTop (ef_65 m p1 p2) kg) ?_
 refine gs (fun _ k => ji X0 hq d30_0 rfl (ji X0 hq d30_1 rfl (jm X0 hq d30_2 (flt hp).2.2.1 (ji X0 hq d30_5 rfl (jp (pc' := 10) X0 hq d30_6 k))))) ?_
 refine gout (v := some (.int p1)) X0 Bd.notSynchronized (jA Bd.returns) (by decide) (by decide) ?_ (fun fs hr => retI X0 hx Bd.returns (hb hby d30_10) hr)
 rw [e0]
 exact ⟨rfl, N0, rfl⟩
theorem ef_495 (m : MethodId) (x0 : Int32) (x1 : Int32) (x2 : Int32) : entryFrame m #[(.int x0), (.int x1), (.int x2)] 4 = mkF m 0 #[.val (.int x0), .val (.int x1), .val (.int x2), .unset] [] := by first | (simp [entryFrame, mkF, argsToLocals, Value.category]; done) | rfl
abbrev oc31 := jdk_48_method_27_code
theorem d31_0 : decode oc31 0 = .ok (.iload_n 0, 1) := by decide +kernel
theorem d31_1 : decode oc31 1 = .ok (.iload_n 1, 1) := by decide +kernel
theorem d31_2 : decode oc31 2 = .ok (.iload_n 2, 1) := by decide +kernel
theorem d31_3 : decode oc31 3 = .ok (.invokestatic 194, 3) := by decide +kernel
theorem d31_6 : decode oc31 6 = .ok (.iadd, 1) := by decide +kernel
theorem d31_7 : decode oc31 7 = .ok (.istore_n 3, 1) := by decide +kernel
theorem d31_8 : decode oc31 8 = .ok (.iconst 0, 1) := by decide +kernel
theorem d31_9 : decode oc31 9 = .ok (.iload_n 3, 1) := by decide +kernel
theorem d31_10 : decode oc31 10 = .ok (.if_icmp .ge 11, 3) := by decide +kernel
theorem d31_13 : decode oc31 13 = .ok (.iload_n 3, 1) := by decide +kernel
theorem d31_14 : decode oc31 14 = .ok (.ldc 200, 2) := by decide +kernel
theorem d31_16 : decode oc31 16 = .ok (.if_icmp .gt 5, 3) := by decide +kernel
theorem d31_19 : decode oc31 19 = .ok (.iload_n 3, 1) := by decide +kernel
theorem d31_20 : decode oc31 20 = .ok (.ireturn, 1) := by decide +kernel
theorem pn_511 : plainName "jdk/internal/util/ArraysSupport" = true := by first | (simp [plainName, overriddenIn]; done) | decide +kernel
theorem rm_nlX (l : Launch) (Z : State) (a0 : Array Value) (hw : HW Z a0) (ws : List Jvm.Cond) (o : Int32) (gr : Int32) (pr : Int32) (N : Nat) (K : Nat) (h0 : Heap) (n0 : Nat) (Z0 : n0 ≤ h0.size) (O0 : Old Z n0 h0) (hKk : K ≤ 1000000) (hN : N ≤ 1000000) (eo : o = oI N) (eg : gr = oI (K - N)) (ep : pr = oI (N + 2)) :
  Ctr l Z (⟨"jdk/internal/util/ArraysSupport", "newLength", "(III)I"⟩ : MethodName) oc31 4 ((Option.some Jvm.ClassFile.FieldType.int)) ws (⟨1, 0, 0, 14⟩ : Room) #[(.int o), (.int gr), (.int pr)] h0 (fun v h L => v = some (.int (oI (jV N K))) ∧ Fr n0 L ∧ h = h0) := by
 refine Ctr.go (plainFor_of_name pn_511) fun p e s m below meth c s₁ Bd hx hby hml hZ hown hnm X0 e0 => ?_
 have hq := And.intro hx hby
 have N0 := Fr.nil n0
 have K0 := Keep.refl h0 []
 refine gs (S' := s₁.setTop (mkF m 0 #[iv o, iv gr, iv pr, uu] [])) (fun tg kg => castTop (ef_495 m o gr pr) kg) ?_
 refine gs (fun _ k => ji X0 hq d31_0 rfl (ji X0 hq d31_1 rfl (ji X0 hq d31_2 rfl k))) ?_
 refine cS (rest := [(.int o)]) X0 hx hZ hown (ow hw 326 rfl) (ow hw 296 rfl) (ow hw 226 rfl) (ow hw 297 rfl) (rm_mxX l Z a0 hw [] gr pr h0 n0 Z0 O0 ) hby d31_3 e0 pd_315 1 (by rw [hml]; rfl) rfl rfl rfl rfl (by decide) (by decide) fun _ T1 Lc1 X1 hQ1 => ?_
 obtain ⟨rfl, N1q, e1q⟩ := hQ1
 have N1 := Fr.app N0 N1q
 refine gs (fun _ k => jt X1 hq d31_6 (jT X1 hq d31_7 (jj rfl) (jf (v := (0 : Int32)) X1 hq d31_8 (ji X1 hq d31_9 rfl (jm X1 hq d31_10 (tlt (by rw [own_nlen hKk hN eo eg ep]; exact (own_grlt hKk hN).1)).2.1 (ji X1 hq d31_13 rfl (jac X1 hq hown (mvT hZ (ow hw 327 rfl)) d31_14 (jm X1 hq d31_16 (flt (by rw [own_nlen hKk hN eo eg ep]; exact (own_grlt hKk hN).2.1)).2.2.1 (ji X1 hq d31_19 rfl k))))))))) ?_
 refine gout (v := some (.int (o + (if gr < pr then pr else gr)))) X1 Bd.notSynchronized (jA Bd.returns) (by decide) (by decide) ?_ (fun fs hr => retI X1 hx Bd.returns (hb hby d31_20) hr)
 rw [e1q]
 exact ⟨congrArg (fun q => some (Value.int q)) (own_nlen hKk hN eo eg ep), N1, rfl⟩
theorem ef_512 (m : MethodId) (x0 : Addr) (x1 : Int32) : entryFrame m #[(.ref x0), (.int x1)] 6 = mkF m 0 #[.val (.ref x0), .val (.int x1), .unset, .unset, .unset, .unset] [] := by first | (simp [entryFrame, mkF, argsToLocals, Value.category]; done) | rfl
abbrev oc32 := jdk_68_method_10_code
theorem d32_0 : decode oc32 0 = .ok (.aload_n 0, 1) := by decide +kernel
theorem d32_1 : decode oc32 1 = .ok (.getfield 15, 3) := by decide +kernel
theorem d32_4 : decode oc32 4 = .ok (.arraylength, 1) := by decide +kernel
theorem d32_5 : decode oc32 5 = .ok (.istore_n 2, 1) := by decide +kernel
theorem d32_6 : decode oc32 6 = .ok (.iload_n 1, 1) := by decide +kernel
theorem d32_7 : decode oc32 7 = .ok (.aload_n 0, 1) := by decide +kernel
theorem d32_8 : decode oc32 8 = .ok (.getfield 22, 3) := by decide +kernel
theorem d32_11 : decode oc32 11 = .ok (.ishl, 1) := by decide +kernel
theorem d32_12 : decode oc32 12 = .ok (.istore_n 3, 1) := by decide +kernel
theorem d32_13 : decode oc32 13 = .ok (.iload_n 3, 1) := by decide +kernel
theorem d32_14 : decode oc32 14 = .ok (.iload_n 2, 1) := by decide +kernel
theorem d32_15 : decode oc32 15 = .ok (.isub, 1) := by decide +kernel
theorem d32_16 : decode oc32 16 = .ok (.istore 4, 2) := by decide +kernel
theorem d32_18 : decode oc32 18 = .ok (.iload_n 2, 1) := by decide +kernel
theorem d32_19 : decode oc32 19 = .ok (.iload 4, 2) := by decide +kernel
theorem d32_21 : decode oc32 21 = .ok (.iload_n 2, 1) := by decide +kernel
theorem d32_22 : decode oc32 22 = .ok (.iconst 2, 1) := by decide +kernel
theorem d32_23 : decode oc32 23 = .ok (.aload_n 0, 1) := by decide +kernel
theorem d32_24 : decode oc32 24 = .ok (.getfield 22, 3) := by decide +kernel
theorem d32_27 : decode oc32 27 = .ok (.ishl, 1) := by decide +kernel
theorem d32_28 : decode oc32 28 = .ok (.iadd, 1) := by decide +kernel
theorem d32_29 : decode oc32 29 = .ok (.invokestatic 114, 3) := by decide +kernel
theorem pd_536 : parseMethodDescriptor "(III)I" = some ⟨[.int, .int, .int], some .int⟩ := by decide +kernel
theorem d32_32 : decode oc32 32 = .ok (.istore 5, 2) := by decide +kernel
theorem d32_34 : decode oc32 34 = .ok (.iload 5, 2) := by decide +kernel
theorem d32_36 : decode oc32 36 = .ok (.ldc 39, 2) := by decide +kernel
theorem d32_38 : decode oc32 38 = .ok (.if_icmp .ne 13, 3) := by decide +kernel
theorem d32_51 : decode oc32 51 = .ok (.iload 5, 2) := by decide +kernel
theorem d32_53 : decode oc32 53 = .ok (.aload_n 0, 1) := by decide +kernel
theorem d32_54 : decode oc32 54 = .ok (.getfield 22, 3) := by decide +kernel
theorem d32_57 : decode oc32 57 = .ok (.ishr, 1) := by decide +kernel
theorem d32_58 : decode oc32 58 = .ok (.ireturn, 1) := by decide +kernel
theorem rm_ncX (l : Launch) (Z : State) (a0 : Array Value) (hw : HW Z a0) (ws : List Jvm.Cond) (b : Addr) (t : Addr) (kb : ClassId) (cs : List Int32) (N : Nat) (mi : Int32) (K : Nat) (h0 : Heap) (n0 : Nat) (Z0 : n0 ≤ h0.size) (O0 : Old Z n0 h0) (E_b : Exa Z h0 b "java/lang/StringBuilder") (F_v : Fld Z h0 b "java/lang/AbstractStringBuilder" "value" "[B" (.ref t)) (F_c : Fld Z h0 b "java/lang/AbstractStringBuilder" "coder" "B" (.int (0 : Int32))) (F_n : Fld Z h0 b "java/lang/AbstractStringBuilder" "count" "I" (.int (oI cs.length))) (E_t : Exa Z h0 t "[B") (V_t : Arv Z h0 t kb .byte (oI N) (jE cs) (.int (0 : Int32))) (hN : N ≤ 1000000) (hcN : cs.length ≤ N) (emi : mi = oI K) (hKk : K ≤ 1000000) (hKN : ¬ K ≤ N) :
  Ctr l Z (⟨"java/lang/AbstractStringBuilder", "newCapacity", "(I)I"⟩ : MethodName) oc32 6 ((Option.some Jvm.ClassFile.FieldType.int)) ws (⟨2, 0, 0, 29⟩ : Room) #[(.ref b), (.int mi)] h0 (fun v h L => v = some (.int (oI (jV N K))) ∧ Fr n0 L ∧ h = h0) := by
 refine Ctr.go (plainFor_of_name pn_484) fun p e s m below meth c s₁ Bd hx hby hml hZ hown hnm X0 e0 => ?_
 have hq := And.intro hx hby
 have N0 := Fr.nil n0
 have K0 := Keep.refl h0 []
 refine gs (S' := s₁.setTop (mkF m 0 #[rv b, iv mi, uu, uu, uu, uu] [])) (fun tg kg => castTop (ef_512 m b mi) kg) ?_
 refine gs (fun _ k => jb X0 hq d32_0 rfl rfl k) ?_
 refine gF X0 hx hZ hown (host := "") (Or.inl (ow hw 89 rfl)) Via.refl e0 F_v hby d32_1 fun T1 X1 e1 => ?_
 obtain ⟨cl2, A2, a2q, a2S, a2N, a2H, a2G⟩ := id V_t
 refine gs (S' := T1.setTop (mkF m 5 #[rv b, iv mi, uu, uu, uu, uu] [(.int (oI N))])) (fun _ k => by refine X1.arraylength hx (by rw [e1]; exact A2.1) (State.isArrayOf_alike hZ.alike A2.2.1) (g := (mkF m 4 #[rv b, iv mi, uu, uu, uu, uu] [(.ref t)])) rfl rfl (hb hby d32_4) _ ?_; rw [len_of a2S a2N]; exact k) ?_
 refine gs (fun _ k => jT X1 hq d32_5 (jj rfl) (ji X1 hq d32_6 rfl (jb X1 hq d32_7 rfl rfl k))) ?_
 refine gF X1 hx hZ hown (host := "") (Or.inl (ow hw 87 rfl)) Via.refl e1 F_c hby d32_8 fun T3 X3 e3 => ?_
 refine gs (fun _ k => o_ishl X3 hq d32_11 (jT X3 hq d32_12 (jj rfl) (ji X3 hq d32_13 rfl (ji X3 hq d32_14 rfl (o_isub X3 hq d32_15 (je X3 hq d32_16 (jj rfl) (ji X3 hq d32_18 rfl (ja X3 hq d32_19 rfl (ji X3 hq d32_21 rfl (jf (v := (2 : Int32)) X3 hq d32_22 (jb X3 hq d32_23 rfl rfl k))))))))))) ?_
 refine gF X3 hx hZ hown (host := "") (Or.inl (ow hw 87 rfl)) Via.refl e3 F_c hby d32_24 fun T4 X4 e4 => ?_
 refine gs (fun _ k => o_ishl X4 hq d32_27 (jt X4 hq d32_28 k)) ?_
 refine cS (rest := []) X4 hx hZ hown (ow hw 322 rfl) (ow hw 323 rfl) (ow hw 324 rfl) (ow hw 325 rfl) (rm_nlX l Z a0 hw [] (oI N) ((mi <<< ((0 : Int32) &&& 31)) - (oI N)) ((oI N) + (2 : Int32)) N K h0 n0 Z0 O0 hKk hN rfl (own_eg emi hKk hKN) (own_ep N)) hby d32_29 e4 pd_536 0 (by rw [hml]; rfl) rfl rfl rfl rfl (by decide) (by decide) fun _ T5 Lc5 X5 hQ5 => ?_
 obtain ⟨rfl, N5q, e5q⟩ := hQ5
 have N5 := Fr.app N0 N5q
 refine gs (fun _ k => je X5 hq d32_32 (jj rfl) (ja X5 hq d32_34 rfl (jac X5 hq hown (mvT hZ (ow hw 328 rfl)) d32_36 (jh (pc' := 51) X5 hq d32_38 (feq (own_grlt hKk hN).2.2.1).2 (ja X5 hq d32_51 rfl (jb X5 hq d32_53 rfl rfl k)))))) ?_
 refine gF X5 hx hZ hown (host := "") (Or.inl (ow hw 87 rfl)) Via.refl e5q F_c hby d32_54 fun T6 X6 e6 => ?_
 refine gs (fun _ k => o_ishr X6 hq d32_57 k) ?_
 refine gout (v := some (.int ((oI (jV N K)) >>> ((0 : Int32) &&& 31)))) X6 Bd.notSynchronized (jA Bd.returns) (by decide) (by decide) ?_ (fun fs hr => retI X6 hx Bd.returns (hb hby d32_58) hr)
 rw [e6]
 exact ⟨congrArg (fun q => some (Value.int q)) (own_shr0 _), N5, rfl⟩
theorem ef_546 (m : MethodId) (x0 : Addr) (x1 : Int32) : entryFrame m #[(.ref x0), (.int x1)] 3 = mkF m 0 #[.val (.ref x0), .val (.int x1), .unset] [] := by first | (simp [entryFrame, mkF, argsToLocals, Value.category]; done) | rfl
abbrev oc33 := jdk_65_method_121_code
theorem d33_0 : decode oc33 0 = .ok (.iload_n 1, 1) := by decide +kernel
theorem d33_1 : decode oc33 1 = .ok (.aload_n 0, 1) := by decide +kernel
theorem d33_2 : decode oc33 2 = .ok (.arraylength, 1) := by decide +kernel
theorem d33_3 : decode oc33 3 = .ok (.if_icmp .ne 11, 3) := by decide +kernel
theorem d33_14 : decode oc33 14 = .ok (.iload_n 1, 1) := by decide +kernel
theorem d33_15 : decode oc33 15 = .ok (.newarray .byte, 2) := by decide +kernel
theorem d33_17 : decode oc33 17 = .ok (.astore_n 2, 1) := by decide +kernel
theorem d33_18 : decode oc33 18 = .ok (.aload_n 0, 1) := by decide +kernel
theorem d33_19 : decode oc33 19 = .ok (.iconst 0, 1) := by decide +kernel
theorem d33_20 : decode oc33 20 = .ok (.aload_n 2, 1) := by decide +kernel
theorem d33_21 : decode oc33 21 = .ok (.iconst 0, 1) := by decide +kernel
theorem d33_22 : decode oc33 22 = .ok (.aload_n 0, 1) := by decide +kernel
theorem d33_23 : decode oc33 23 = .ok (.arraylength, 1) := by decide +kernel
theorem d33_24 : decode oc33 24 = .ok (.iload_n 1, 1) := by decide +kernel
theorem d33_25 : decode oc33 25 = .ok (.invokestatic 304, 3) := by decide +kernel
theorem d33_28 : decode oc33 28 = .ok (.invokestatic 150, 3) := by decide +kernel
theorem d33_31 : decode oc33 31 = .ok (.aload_n 2, 1) := by decide +kernel
theorem d33_32 : decode oc33 32 = .ok (.areturn, 1) := by decide +kernel
theorem rm_coX (l : Launch) (Z : State) (a0 : Array Value) (hw : HW Z a0) (ws : List Jvm.Cond) (t : Addr) (kb : ClassId) (cs : List Int32) (N : Nat) (G : Nat) (sl : Nat) (h0 : Heap) (n0 : Nat) (Z0 : n0 ≤ h0.size) (O0 : Old Z n0 h0) (V_t : Arv Z h0 t kb .byte (oI N) (jE cs) (.int (0 : Int32))) (hN : N ≤ 1000000) (hcN : cs.length ≤ N) (hGN : N < G) (hG : G ≤ 3000002) (hsl : G ≤ sl) (hs8 : sl * 8 ≤ 536870912) :
  Ctr l Z (⟨"java/util/Arrays", "copyOf", "([BI)[B"⟩ : MethodName) oc33 3 ((Option.some (Jvm.ClassFile.FieldType.array Jvm.ClassFile.FieldType.byte))) ws (⟨1, 1, sl, 18⟩ : Room) #[(.ref t), (.int (oI G))] h0 (fun v h L => ∃ (t1 : Addr) (k1 : ClassId), v = some (.ref t1) ∧ Fr n0 L ∧ Keep h0 h [] ∧ h0.size ≤ t1 ∧ Exa Z h t1 "[B" ∧ Arv Z h t1 k1 .byte (oI G) (jE cs) (.int (0 : Int32))) := by
 refine Ctr.go (plainFor_of_name pn_192) fun p e s m below meth c s₁ Bd hx hby hml hZ hown hnm X0 e0 => ?_
 have hq := And.intro hx hby
 have N0 := Fr.nil n0
 have K0 := Keep.refl h0 []
 refine gs (S' := s₁.setTop (mkF m 0 #[rv t, iv (oI G), uu] [])) (fun tg kg => castTop (ef_546 m t (oI G)) kg) ?_
 refine gs (fun _ k => ji X0 hq d33_0 rfl (jb X0 hq d33_1 rfl rfl k)) ?_
 obtain ⟨cl1, A1, a1q, a1S, a1N, a1H, a1G⟩ := id V_t
 refine gs (S' := s₁.setTop (mkF m 3 #[rv t, iv (oI G), uu] [(.int (oI N)), (.int (oI G))])) (fun _ k => by refine X0.arraylength hx (by rw [e0]; exact A1.1) (State.isArrayOf_alike hZ.alike A1.2.1) (g := (mkF m 2 #[rv t, iv (oI G), uu] [(.ref t), (.int (oI G))])) rfl rfl (hb hby d33_2) _ ?_; rw [len_of a1S a1N]; exact k) ?_
 refine gs (fun _ k => jh (pc' := 14) X0 hq d33_3 (feq (jaf (by omega) (by omega) (by omega))).2 (ji X0 hq d33_14 rfl k)) ?_
 obtain ⟨T2, h2, k2, X2, e2, E2, A2, Ex2, st2⟩ := newPE X0 hx hZ (ow hw 19 rfl) e0 (g := (mkF m 15 #[rv t, iv (oI G), uu] [(.int (oI G))])) rfl (hb hby d33_15) rfl (jM (by omega)) (cap := sl) (own_nc hsl (by omega)) hs8 (by first | decide | exact nb rfl) (by dsimp only [Pt.cells, Pt.slots]; omega) (ad := "[B") rfl
 obtain ⟨b2, q2⟩ : ∃ z, z = h0.size := ⟨_, rfl⟩
 rw [← q2] at A2 st2 Ex2
 have g_b2 : n0 ≤ b2 := nt Z0 (Nat.le_of_eq q2.symm)
 have sz_b2 : h0.size ≤ b2 := nt K0.1 (Nat.le_of_eq q2.symm)
 have Z3 := nt Z0 E2.1
 have O3 := O0.ext E2
 have K3 := K0.ext E2
 have V2 : Arv Z h2 b2 k2 .byte (oI G) [] (.int (0 : Int32)) := Arv.new A2 (jM (by omega))
 refine gs (S' := T2.setTop (mkF m 17 #[rv t, iv (oI G), uu] [(.ref b2)])) st2 ?_
 refine gs (fun _ k => jR X2 hq d33_17 rfl (jj rfl) (jb X2 hq d33_18 rfl rfl (jf (v := (0 : Int32)) X2 hq d33_19 (jb X2 hq d33_20 rfl rfl (jf (v := (0 : Int32)) X2 hq d33_21 (jb X2 hq d33_22 rfl rfl k)))))) ?_
 have f4 := (V_t.ext E2)
 obtain ⟨cl5, A5, a5q, a5S, a5N, a5H, a5G⟩ := id f4
 refine gs (S' := T2.setTop (mkF m 24 #[rv t, iv (oI G), rv b2] [(.int (oI N)), (.int (0 : Int32)), (.ref b2), (.int (0 : Int32)), (.ref t)])) (fun _ k => by refine X2.arraylength hx (by rw [e2]; exact A5.1) (State.isArrayOf_alike hZ.alike A5.2.1) (g := (mkF m 23 #[rv t, iv (oI G), rv b2] [(.ref t), (.int (0 : Int32)), (.ref b2), (.int (0 : Int32)), (.ref t)])) rfl rfl (hb hby d33_23) _ ?_; rw [len_of a5S a5N]; exact k) ?_
 refine gs (fun _ k => ji X2 hq d33_24 rfl k) ?_
 refine cS (rest := [(.int (0 : Int32)), (.ref b2), (.int (0 : Int32)), (.ref t)]) X2 hx hZ hown (ow hw 224 rfl) (ow hw 225 rfl) (ow hw 226 rfl) (ow hw 227 rfl) (rm_mnX l Z a0 hw [] (oI N) (oI G) h2 n0 Z3 O3 (own_nlt32 (by omega) (by omega))) hby d33_25 e2 pd_315 4 (by rw [hml]; rfl) rfl rfl rfl rfl ⟨by decide, nb rfl, nb rfl, nb rfl⟩ (by dsimp only; omega) fun _ T6 Lc6 X6 hQ6 => ?_
 obtain ⟨rfl, N6q, e6q⟩ := hQ6
 have N6 := Fr.app N0 N6q
 obtain ⟨T7, h7, L7, X7, e7, N7, K7q, V7, st7⟩ := own_cp X6 hx hZ hown (ow hw 228 rfl) (ow hw 131 rfl) (ow hw 129 rfl) (ow hw 130 rfl) e6q (cs := cs) (ds := []) f4 V2 N G N rfl rfl rfl rfl (by omega) (by omega) hcN (Nat.le_refl _) (by show 0 + N ≤ G; omega) N6 g_b2 (g := (mkF m 28 #[rv t, iv (oI G), rv b2] [(.int (oI N)), (.int (0 : Int32)), (.ref b2), (.int (0 : Int32)), (.ref t)])) rfl (by rw [hml]; rfl) rfl (hb hby d33_28) (by first | decide | exact nb rfl) (W := 0) (jL rfl) (by first | decide | exact nb rfl)
 have Z8 := nt Z3 K7q.1
 have O8 := O3.keep K7q (allS g_b2 all0)
 have K8 := K3.trans K7q (allS (Or.inr sz_b2) all0)
 refine gs (S' := T7.setTop (mkF m 31 #[rv t, iv (oI G), rv b2] [])) st7 ?_
 refine gs (fun _ k => jb X7 hq d33_31 rfl rfl k) ?_
 have f9 := (Ex2.keep K7q)
 refine gout (v := some (.ref b2)) X7 Bd.notSynchronized (jA Bd.returns) (by first | decide | exact nb rfl) (by dsimp only [Pt.cells, Pt.slots]; omega) ?_ (fun fs hr => retOut X7 hx Bd.returns rfl (Or.inr (Or.inr (Or.inr (Or.inr ⟨rfl, rfl, rfl⟩)))) (hb hby d33_32) hr)
 rw [e7]
 exact ⟨_, _, rfl, N7, K8, sz_b2, f9, V7⟩
abbrev oc34 := jdk_68_method_9_code
theorem d34_0 : decode oc34 0 = .ok (.aload_n 0, 1) := by decide +kernel
theorem d34_1 : decode oc34 1 = .ok (.getfield 15, 3) := by decide +kernel
theorem d34_4 : decode oc34 4 = .ok (.arraylength, 1) := by decide +kernel
theorem d34_5 : decode oc34 5 = .ok (.aload_n 0, 1) := by decide +kernel
theorem d34_6 : decode oc34 6 = .ok (.getfield 22, 3) := by decide +kernel
theorem d34_9 : decode oc34 9 = .ok (.ishr, 1) := by decide +kernel
theorem d34_10 : decode oc34 10 = .ok (.istore_n 2, 1) := by decide +kernel
theorem d34_11 : decode oc34 11 = .ok (.iload_n 1, 1) := by decide +kernel
theorem d34_12 : decode oc34 12 = .ok (.iload_n 2, 1) := by decide +kernel
theorem d34_13 : decode oc34 13 = .ok (.isub, 1) := by decide +kernel
theorem d34_14 : decode oc34 14 = .ok (.ifCond .le 24, 3) := by decide +kernel
theorem d34_38 : decode oc34 38 = .ok (.return_, 1) := by decide +kernel
theorem rm_enR (l : Launch) (Z : State) (a0 : Array Value) (hw : HW Z a0) (ws : List Jvm.Cond) (b : Addr) (t : Addr) (kb : ClassId) (cs : List Int32) (N : Nat) (mi : Int32) (K : Nat) (h0 : Heap) (n0 : Nat) (Z0 : n0 ≤ h0.size) (O0 : Old Z n0 h0) (E_b : Exa Z h0 b "java/lang/StringBuilder") (F_v : Fld Z h0 b "java/lang/AbstractStringBuilder" "value" "[B" (.ref t)) (F_c : Fld Z h0 b "java/lang/AbstractStringBuilder" "coder" "B" (.int (0 : Int32))) (F_n : Fld Z h0 b "java/lang/AbstractStringBuilder" "count" "I" (.int (oI cs.length))) (E_t : Exa Z h0 t "[B") (V_t : Arv Z h0 t kb .byte (oI N) (jE cs) (.int (0 : Int32))) (hN : N ≤ 1000000) (hcN : cs.length ≤ N) (emi : mi = oI K) (hKk : K ≤ 1000000) (hKN : K ≤ N) :
  Ctr l Z my17 oc34 3 ((Option.none : Option Jvm.ClassFile.FieldType)) ws (⟨0, 0, 0, 0⟩ : Room) #[(.ref b), (.int mi)] h0 (fun v h L => v = none ∧ Fr n0 L ∧ h = h0) := by
 refine Ctr.go (plainFor_of_name pn_484) fun p e s m below meth c s₁ Bd hx hby hml hZ hown hnm X0 e0 => ?_
 have hq := And.intro hx hby
 have N0 := Fr.nil n0
 have K0 := Keep.refl h0 []
 refine gs (S' := s₁.setTop (mkF m 0 #[rv b, iv mi, uu] [])) (fun tg kg => castTop (ef_546 m b mi) kg) ?_
 refine gs (fun _ k => jb X0 hq d34_0 rfl rfl k) ?_
 refine gF X0 hx hZ hown (host := "") (Or.inl (ow hw 89 rfl)) Via.refl e0 F_v hby d34_1 fun T1 X1 e1 => ?_
 obtain ⟨cl2, A2, a2q, a2S, a2N, a2H, a2G⟩ := id V_t
 refine gs (S' := T1.setTop (mkF m 5 #[rv b, iv mi, uu] [(.int (oI N))])) (fun _ k => by refine X1.arraylength hx (by rw [e1]; exact A2.1) (State.isArrayOf_alike hZ.alike A2.2.1) (g := (mkF m 4 #[rv b, iv mi, uu] [(.ref t)])) rfl rfl (hb hby d34_4) _ ?_; rw [len_of a2S a2N]; exact k) ?_
 refine gs (fun _ k => jb X1 hq d34_5 rfl rfl k) ?_
 refine gF X1 hx hZ hown (host := "") (Or.inl (ow hw 87 rfl)) Via.refl e1 F_c hby d34_6 fun T3 X3 e3 => ?_
 refine gs (fun _ k => o_ishr X3 hq d34_9 (jT X3 hq d34_10 (jj rfl) (ji X3 hq d34_11 rfl (ji X3 hq d34_12 rfl (o_isub X3 hq d34_13 (jI (pc' := 38) X3 hq d34_14 ((if0 _ _).trans (flt (fun q => (own_c1 emi hKk hN).mp q hKN)).2.2.2) k)))))) ?_
 refine gout (v := none) X3 Bd.notSynchronized (fun _ => rfl) (by decide) (by decide) ?_ (fun fs hr => X3.returnOut hx Bd.returns (hb hby d34_38) hr)
 rw [e3]
 exact ⟨rfl, N0, rfl⟩
theorem d34_17 : decode oc34 17 = .ok (.aload_n 0, 1) := by decide +kernel
theorem d34_18 : decode oc34 18 = .ok (.aload_n 0, 1) := by decide +kernel
theorem d34_19 : decode oc34 19 = .ok (.getfield 15, 3) := by decide +kernel
theorem d34_22 : decode oc34 22 = .ok (.aload_n 0, 1) := by decide +kernel
theorem d34_23 : decode oc34 23 = .ok (.iload_n 1, 1) := by decide +kernel
theorem d34_24 : decode oc34 24 = .ok (.invokevirtual 104, 3) := by decide +kernel
theorem pd_587 : parseMethodDescriptor "(I)I" = some ⟨[.int], some .int⟩ := by decide +kernel
theorem d34_27 : decode oc34 27 = .ok (.aload_n 0, 1) := by decide +kernel
theorem d34_28 : decode oc34 28 = .ok (.getfield 22, 3) := by decide +kernel
theorem d34_31 : decode oc34 31 = .ok (.ishl, 1) := by decide +kernel
theorem d34_32 : decode oc34 32 = .ok (.invokestatic 108, 3) := by decide +kernel
theorem pd_592 : parseMethodDescriptor "([BI)[B" = some ⟨[(.array .byte), .int], some (.array .byte)⟩ := by decide +kernel
theorem d34_35 : decode oc34 35 = .ok (.putfield 15, 3) := by decide +kernel
theorem rm_enG (l : Launch) (Z : State) (a0 : Array Value) (hw : HW Z a0) (ws : List Jvm.Cond) (b : Addr) (t : Addr) (kb : ClassId) (cs : List Int32) (N : Nat) (mi : Int32) (K : Nat) (sl : Nat) (h0 : Heap) (n0 : Nat) (Z0 : n0 ≤ h0.size) (O0 : Old Z n0 h0) (E_b : Exa Z h0 b "java/lang/StringBuilder") (F_v : Fld Z h0 b "java/lang/AbstractStringBuilder" "value" "[B" (.ref t)) (F_c : Fld Z h0 b "java/lang/AbstractStringBuilder" "coder" "B" (.int (0 : Int32))) (F_n : Fld Z h0 b "java/lang/AbstractStringBuilder" "count" "I" (.int (oI cs.length))) (E_t : Exa Z h0 t "[B") (V_t : Arv Z h0 t kb .byte (oI N) (jE cs) (.int (0 : Int32))) (hN : N ≤ 1000000) (hcN : cs.length ≤ N) (emi : mi = oI K) (hKk : K ≤ 1000000) (hKN : ¬ K ≤ N) (g_b : n0 ≤ b) (hsl : jV N K ≤ sl) (hs8 : sl * 8 ≤ 536870912) :
  Ctr l Z my17 oc34 3 ((Option.none : Option Jvm.ClassFile.FieldType)) ws (⟨3, 1, sl, 48⟩ : Room) #[(.ref b), (.int mi)] h0 (fun v h L => ∃ (t1 : Addr) (k1 : ClassId), v = none ∧ Fr n0 L ∧ Keep h0 h [b] ∧ h0.size ≤ t1 ∧ Fld Z h b "java/lang/AbstractStringBuilder" "value" "[B" (.ref t1) ∧ Fld Z h b "java/lang/AbstractStringBuilder" "coder" "B" (.int (0 : Int32)) ∧ Fld Z h b "java/lang/AbstractStringBuilder" "count" "I" (.int (oI cs.length)) ∧ Exa Z h t1 "[B" ∧ Arv Z h t1 k1 .byte (oI (jV N K)) (jE cs) (.int (0 : Int32))) := by
 refine Ctr.go (plainFor_of_name pn_484) fun p e s m below meth c s₁ Bd hx hby hml hZ hown hnm X0 e0 => ?_
 have hq := And.intro hx hby
 have N0 := Fr.nil n0
 have K0 := Keep.refl h0 [b]
 refine gs (S' := s₁.setTop (mkF m 0 #[rv b, iv mi, uu] [])) (fun tg kg => castTop (ef_546 m b mi) kg) ?_
 have gb := own_grb hKk hN
 refine gs (fun _ k => jb X0 hq d34_0 rfl rfl k) ?_
 refine gF X0 hx hZ hown (host := "") (Or.inl (ow hw 89 rfl)) Via.refl e0 F_v hby d34_1 fun T1 X1 e1 => ?_
 obtain ⟨cl2, A2, a2q, a2S, a2N, a2H, a2G⟩ := id V_t
 refine gs (S' := T1.setTop (mkF m 5 #[rv b, iv mi, uu] [(.int (oI N))])) (fun _ k => by refine X1.arraylength hx (by rw [e1]; exact A2.1) (State.isArrayOf_alike hZ.alike A2.2.1) (g := (mkF m 4 #[rv b, iv mi, uu] [(.ref t)])) rfl rfl (hb hby d34_4) _ ?_; rw [len_of a2S a2N]; exact k) ?_
 refine gs (fun _ k => jb X1 hq d34_5 rfl rfl k) ?_
 refine gF X1 hx hZ hown (host := "") (Or.inl (ow hw 87 rfl)) Via.refl e1 F_c hby d34_6 fun T3 X3 e3 => ?_
 refine gs (fun _ k => o_ishr X3 hq d34_9 (jT X3 hq d34_10 (jj rfl) (ji X3 hq d34_11 rfl (ji X3 hq d34_12 rfl (o_isub X3 hq d34_13 (jG X3 hq d34_14 ((if0 _ _).trans (tlt ((own_c1 emi hKk hN).mpr hKN)).2.2.2) (jb X3 hq d34_17 rfl rfl (jb X3 hq d34_18 rfl rfl k)))))))) ?_
 refine gF X3 hx hZ hown (host := "") (Or.inl (ow hw 89 rfl)) Via.refl e3 F_v hby d34_19 fun T4 X4 e4 => ?_
 refine gs (fun _ k => jb X4 hq d34_22 rfl rfl (ji X4 hq d34_23 rfl k)) ?_
 refine cV (rest := [(.ref t), (.ref b)]) X4 hx hZ hown (ow hw 317 rfl) (jY (ow hw 318 rfl) (ow hw 321 rfl)) (nfs hZ (ow hw 320 rfl)) (ow hw 320 rfl) (ow hw 318 rfl) (ow hw 81 rfl) (ow hw 321 rfl) (rm_ncX l Z a0 hw [] b t kb cs N mi K h0 n0 Z0 O0 E_b F_v F_c F_n E_t V_t hN hcN emi hKk hKN) hby d34_24 e4 pd_587 2 (by rw [hml]; rfl) E_b rfl rfl rfl rfl ⟨by decide, nb rfl, nb rfl, nb rfl⟩ (by dsimp only; omega) fun _ T5 Lc5 X5 hQ5 => ?_
 obtain ⟨rfl, N5q, e5q⟩ := hQ5
 have N5 := Fr.app N0 N5q
 refine gs (fun _ k => jb X5 hq d34_27 rfl rfl k) ?_
 refine gF X5 hx hZ hown (host := "") (Or.inl (ow hw 87 rfl)) Via.refl e5q F_c hby d34_28 fun T6 X6 e6 => ?_
 refine gs (fun _ k => o_ishl X6 hq d34_31 k) ?_
 rw [own_shl0]
 refine cS (rest := [(.ref b)]) X6 hx hZ hown (ow hw 329 rfl) (ow hw 330 rfl) (ow hw 216 rfl) (ow hw 331 rfl) (rm_coX l Z a0 hw [] t kb cs N (jV N K) sl h0 n0 Z0 O0 V_t hN hcN gb.2.1 gb.1 hsl hs8) hby d34_32 e6 pd_592 1 (by rw [hml]; rfl) rfl rfl rfl rfl ⟨by decide, nb rfl, nb rfl, nb rfl⟩ (by dsimp only; omega) fun _ T7 Lc7 X7 hQ7 => ?_
 obtain ⟨t7, kb7, rfl, N7q, K7q, g7t, E7t, V7q⟩ := hQ7
 have N7 := Fr.app N5 N7q
 have g_t7 : n0 ≤ t7 := nt Z0 g7t
 have sz_t7 : h0.size ≤ t7 := nt K0.1 g7t
 have Z8 := nt Z0 K7q.1
 have O8 := O0.keep K7q all0
 have K8 := K0.trans K7q all0
 have f9 := (F_v.keep K7q nin0)
 have f10 := (E_b.keep K7q)
 obtain ⟨T11, h11, X11, e11, W11, st11⟩ := putF X7 hx hZ hown (host := "") (Or.inl (ow hw 89 rfl)) Via.refl rfl f9 f10 (Or.inl (ow hw 90 rfl)) (ow hw 72 rfl) (ty := (.array .byte)) (by first | decide | exact nb rfl) rfl rfl (g := (mkF m 35 #[rv b, iv mi, iv (((oI N) >>> ((0 : Int32) &&& 31)))] [(.ref t7), (.ref b)])) rfl rfl (hb hby d34_35)
 have N11 := Fr.snoc X11 N7 g_b
 have Fw11 := f9.same W11
 have Z12 := nt Z8 (Keep.of_wr W11).1
 have O12 := O8.wr W11 g_b
 have K12 := K8.wr W11 (Or.inl (List.mem_of_getElem? (i := 0) rfl))
 refine gs (S' := T11.setTop (mkF m 38 #[rv b, iv mi, iv (((oI N) >>> ((0 : Int32) &&& 31)))] [])) st11 ?_
 have f13 := ((F_c.keep K7q nin0).other W11 (Or.inr (slot_ne (Or.inl (ow hw 88 rfl)) (Or.inl (ow hw 90 rfl)) (by first | decide | exact nb rfl) (t := .byte) (t' := (.array .byte)) (by first | decide | exact nb rfl) (by first | decide | exact nb rfl))))
 have f14 := ((F_n.keep K7q nin0).other W11 (Or.inr (slot_ne (Or.inl (ow hw 106 rfl)) (Or.inl (ow hw 90 rfl)) (by first | decide | exact nb rfl) (t := .int) (t' := (.array .byte)) (by first | decide | exact nb rfl) (by first | decide | exact nb rfl))))
 have f15 := (E7t.wr W11)
 have f16 := (V7q.other W11 (Ne.symm (nw (nu (nu E_b.lt (Nat.le_refl _)) g7t))))
 refine gout (v := none) X11 Bd.notSynchronized (fun _ => rfl) (by first | decide | exact nb rfl) (by dsimp only [Pt.cells, Pt.slots]; omega) ?_ (fun fs hr => X11.returnOut hx Bd.returns (hb hby d34_38) hr)
 rw [e11]
 exact ⟨_, _, rfl, N11, K12, sz_t7, Fw11, f13, f14, f15, f16⟩
theorem ef_594 (m : MethodId) (x0 : Addr) (x1 : Addr) (x2 : Int32) (x3 : Int32) : entryFrame m #[(.ref x0), (.ref x1), (.int x2), (.int x3)] 4 = mkF m 0 #[.val (.ref x0), .val (.ref x1), .val (.int x2), .val (.int x3)] [] := by first | (simp [entryFrame, mkF, argsToLocals, Value.category]; done) | rfl
abbrev oc35 := jdk_42_method_147_code
theorem d35_0 : decode oc35 0 = .ok (.aload_n 0, 1) := by decide +kernel
theorem d35_1 : decode oc35 1 = .ok (.invokevirtual 335, 3) := by decide +kernel
theorem d35_4 : decode oc35 4 = .ok (.iload_n 3, 1) := by decide +kernel
theorem d35_5 : decode oc35 5 = .ok (.if_icmp .ne 23, 3) := by decide +kernel
theorem d35_8 : decode oc35 8 = .ok (.aload_n 0, 1) := by decide +kernel
theorem d35_9 : decode oc35 9 = .ok (.getfield 9, 3) := by decide +kernel
theorem d35_12 : decode oc35 12 = .ok (.iconst 0, 1) := by decide +kernel
theorem d35_13 : decode oc35 13 = .ok (.aload_n 1, 1) := by decide +kernel
theorem d35_14 : decode oc35 14 = .ok (.iload_n 2, 1) := by decide +kernel
theorem d35_15 : decode oc35 15 = .ok (.iload_n 3, 1) := by decide +kernel
theorem d35_16 : decode oc35 16 = .ok (.ishl, 1) := by decide +kernel
theorem d35_17 : decode oc35 17 = .ok (.aload_n 0, 1) := by decide +kernel
theorem d35_18 : decode oc35 18 = .ok (.getfield 9, 3) := by decide +kernel
theorem d35_21 : decode oc35 21 = .ok (.arraylength, 1) := by decide +kernel
theorem d35_22 : decode oc35 22 = .ok (.invokestatic 212, 3) := by decide +kernel
theorem d35_25 : decode oc35 25 = .ok (.goto 18, 3) := by decide +kernel
theorem d35_43 : decode oc35 43 = .ok (.return_, 1) := by decide +kernel
theorem rm_gbX (l : Launch) (Z : State) (a0 : Array Value) (hw : HW Z a0) (ws : List Jvm.Cond) (t : Addr) (kb : ClassId) (cs : List Int32) (N : Nat) (x : Addr) (ds : List Int32) (z : Int32) (h0 : Heap) (n0 : Nat) (Z0 : n0 ≤ h0.size) (O0 : Old Z n0 h0) (S0 : PS0 Z (.int z)) (hz : ¬ z = 0) (T_x : Str Z h0 x ds) (V_t : Arv Z h0 t kb .byte (oI N) (jE cs) (.int (0 : Int32))) (g_t : n0 ≤ t) (hN : N ≤ 10000000) (hfit : cs.length + ds.length ≤ N) :
  Ctr l Z (⟨"java/lang/String", "getBytes", "([BIB)V"⟩ : MethodName) oc35 4 ((Option.none : Option Jvm.ClassFile.FieldType)) ws (⟨1, 0, 0, 18⟩ : Room) #[(.ref x), (.ref t), (.int (oI cs.length)), (.int (0 : Int32))] h0 (fun v h L => v = none ∧ Fr n0 L ∧ Keep h0 h [t] ∧ Arv Z h t kb .byte (oI N) (jE (cs ++ ds)) (.int (0 : Int32))) := by
 refine Ctr.go (plainFor_of_name pn_15) fun p e s m below meth c s₁ Bd hx hby hml hZ hown hnm X0 e0 => ?_
 have hq := And.intro hx hby
 have N0 := Fr.nil n0
 have K0 := Keep.refl h0 [t]
 refine gs (S' := s₁.setTop (mkF m 0 #[rv x, rv t, iv (oI cs.length), iv (0 : Int32)] [])) (fun tg kg => castTop (ef_594 m x t (oI cs.length) (0 : Int32)) kg) ?_
 obtain ⟨u, ku, E_x, F_cx, F_vx, V_u⟩ := id T_x
 refine gs (fun _ k => jb X0 hq d35_0 rfl rfl k) ?_
 refine cV (rest := []) X0 hx hZ hown (ow hw 60 rfl) (ow hw 61 rfl) (nfs hZ (ow hw 63 rfl)) (ow hw 63 rfl) (ow hw 62 rfl) (ow hw 7 rfl) (ow hw 64 rfl) (rm_coder0 l Z a0 hw [] x ds z h0 n0 Z0 O0 S0 hz T_x) hby d35_1 e0 pd_52 0 (by rw [hml]; rfl) E_x rfl rfl rfl rfl (by decide) (by decide) fun _ T1 Lc1 X1 hQ1 => ?_
 obtain ⟨rfl, N1q, e1q⟩ := hQ1
 have N1 := Fr.app N0 N1q
 refine gs (fun _ k => ji X1 hq d35_4 rfl (jm X1 hq d35_5 (teq (by decide : (0 : Int32) = (0 : Int32))).2 (jb X1 hq d35_8 rfl rfl k))) ?_
 refine gF X1 hx hZ hown (host := "") (Or.inl (ow hw 24 rfl)) Via.refl e1q F_vx hby d35_9 fun T2 X2 e2 => ?_
 refine gs (fun _ k => jf (v := (0 : Int32)) X2 hq d35_12 (jb X2 hq d35_13 rfl rfl (ji X2 hq d35_14 rfl (ji X2 hq d35_15 rfl (o_ishl X2 hq d35_16 (jb X2 hq d35_17 rfl rfl k)))))) ?_
 refine gF X2 hx hZ hown (host := "") (Or.inl (ow hw 24 rfl)) Via.refl e2 F_vx hby d35_18 fun T3 X3 e3 => ?_
 obtain ⟨cl4, A4, a4q, a4S, a4N, a4H, a4G⟩ := id V_u
 refine gs (S' := T3.setTop (mkF m 22 #[rv x, rv t, iv (oI cs.length), iv (0 : Int32)] [(.int (oI ds.length)), (.int ((oI cs.length) <<< ((0 : Int32) &&& 31))), (.ref t), (.int (0 : Int32)), (.ref u)])) (fun _ k => by refine X3.arraylength hx (by rw [e3]; exact A4.1) (State.isArrayOf_alike hZ.alike A4.2.1) (g := (mkF m 21 #[rv x, rv t, iv (oI cs.length), iv (0 : Int32)] [(.ref u), (.int ((oI cs.length) <<< ((0 : Int32) &&& 31))), (.ref t), (.int (0 : Int32)), (.ref u)])) rfl rfl (hb hby d35_21) _ ?_; rw [len_of a4S a4N]; exact k) ?_
 obtain ⟨T5, h5, L5, X5, e5, N5, K5q, V5, st5⟩ := own_cp X3 hx hZ hown (ow hw 128 rfl) (ow hw 131 rfl) (ow hw 129 rfl) (ow hw 130 rfl) e3 (cs := ds) (ds := cs) V_u V_t ds.length N ds.length rfl rfl rfl (own_shl0 _) (by omega) (by omega) (Nat.le_refl _) (Nat.le_refl _) hfit N1 g_t (g := (mkF m 22 #[rv x, rv t, iv (oI cs.length), iv (0 : Int32)] [(.int (oI ds.length)), (.int ((oI cs.length) <<< ((0 : Int32) &&& 31))), (.ref t), (.int (0 : Int32)), (.ref u)])) rfl (by rw [hml]; rfl) rfl (hb hby d35_22) (by decide) (W := 0) (jL rfl) (by decide)
 have Z6 := nt Z0 K5q.1
 have O6 := O0.keep K5q (allS g_t all0)
 have K6 := K0.trans K5q (allS (Or.inl (List.mem_of_getElem? (i := 0) rfl)) all0)
 refine gs (S' := T5.setTop (mkF m 25 #[rv x, rv t, iv (oI cs.length), iv (0 : Int32)] [])) st5 ?_
 refine gs (fun _ k => jp (pc' := 43) X5 hq d35_25 k) ?_
 refine gout (v := none) X5 Bd.notSynchronized (fun _ => rfl) (by decide) (by decide) ?_ (fun fs hr => X5.returnOut hx Bd.returns (hb hby d35_43) hr)
 rw [e5]
 exact ⟨rfl, N5, K6, V5⟩
theorem ef_613 (m : MethodId) (x0 : Addr) (x1 : Int32) (x2 : Addr) : entryFrame m #[(.ref x0), (.int x1), (.ref x2)] 3 = mkF m 0 #[.val (.ref x0), .val (.int x1), .val (.ref x2)] [] := by first | (simp [entryFrame, mkF, argsToLocals, Value.category]; done) | rfl
abbrev oc36 := jdk_68_method_73_code
theorem d36_0 : decode oc36 0 = .ok (.aload_n 0, 1) := by decide +kernel
theorem d36_1 : decode oc36 1 = .ok (.aload_n 2, 1) := by decide +kernel
theorem d36_2 : decode oc36 2 = .ok (.invokevirtual 397, 3) := by decide +kernel
theorem pd_618 : parseMethodDescriptor "(Ljava/lang/String;)V" = some ⟨[(.object "java/lang/String")], none⟩ := by decide +kernel
theorem d36_5 : decode oc36 5 = .ok (.aload_n 2, 1) := by decide +kernel
theorem d36_6 : decode oc36 6 = .ok (.aload_n 0, 1) := by decide +kernel
theorem d36_7 : decode oc36 7 = .ok (.getfield 15, 3) := by decide +kernel
theorem d36_10 : decode oc36 10 = .ok (.iload_n 1, 1) := by decide +kernel
theorem d36_11 : decode oc36 11 = .ok (.aload_n 0, 1) := by decide +kernel
theorem d36_12 : decode oc36 12 = .ok (.getfield 22, 3) := by decide +kernel
theorem d36_15 : decode oc36 15 = .ok (.invokevirtual 399, 3) := by decide +kernel
theorem pd_626 : parseMethodDescriptor "([BIB)V" = some ⟨[(.array .byte), .int, .byte], none⟩ := by decide +kernel
theorem d36_18 : decode oc36 18 = .ok (.return_, 1) := by decide +kernel
theorem rm_paX (l : Launch) (Z : State) (a0 : Array Value) (hw : HW Z a0) (ws : List Jvm.Cond) (b : Addr) (t : Addr) (kb : ClassId) (cs : List Int32) (N : Nat) (x : Addr) (ds : List Int32) (z : Int32) (h0 : Heap) (n0 : Nat) (Z0 : n0 ≤ h0.size) (O0 : Old Z n0 h0) (E_b : Exa Z h0 b "java/lang/StringBuilder") (F_v : Fld Z h0 b "java/lang/AbstractStringBuilder" "value" "[B" (.ref t)) (F_c : Fld Z h0 b "java/lang/AbstractStringBuilder" "coder" "B" (.int (0 : Int32))) (F_n : Fld Z h0 b "java/lang/AbstractStringBuilder" "count" "I" (.int (oI cs.length))) (E_t : Exa Z h0 t "[B") (V_t : Arv Z h0 t kb .byte (oI N) (jE cs) (.int (0 : Int32))) (hN : N ≤ 10000000) (hcN : cs.length ≤ N) (g_t : n0 ≤ t) (S0 : PS0 Z (.int z)) (hz : ¬ z = 0) (T_x : Str Z h0 x ds) (hfit : cs.length + ds.length ≤ N) :
  Ctr l Z (⟨"java/lang/AbstractStringBuilder", "putStringAt", "(ILjava/lang/String;)V"⟩ : MethodName) oc36 3 ((Option.none : Option Jvm.ClassFile.FieldType)) ws (⟨2, 0, 0, 33⟩ : Room) #[(.ref b), (.int (oI cs.length)), (.ref x)] h0 (fun v h L => v = none ∧ Fr n0 L ∧ Keep h0 h [t] ∧ Arv Z h t kb .byte (oI N) (jE (cs ++ ds)) (.int (0 : Int32))) := by
 refine Ctr.go (plainFor_of_name pn_484) fun p e s m below meth c s₁ Bd hx hby hml hZ hown hnm X0 e0 => ?_
 have hq := And.intro hx hby
 have N0 := Fr.nil n0
 have K0 := Keep.refl h0 [t]
 refine gs (S' := s₁.setTop (mkF m 0 #[rv b, iv (oI cs.length), rv x] [])) (fun tg kg => castTop (ef_613 m b (oI cs.length) x) kg) ?_
 refine gs (fun _ k => jb X0 hq d36_0 rfl rfl (jb X0 hq d36_1 rfl rfl k)) ?_
 refine cV (rest := []) X0 hx hZ hown (ow hw 117 rfl) (jY (ow hw 118 rfl) (ow hw 121 rfl)) (nfs hZ (ow hw 120 rfl)) (ow hw 120 rfl) (ow hw 118 rfl) (ow hw 81 rfl) (ow hw 121 rfl) (rm_inf l Z a0 hw [] b x ds z h0 n0 Z0 O0 S0 hz F_c T_x) hby d36_2 e0 pd_618 0 (by rw [hml]; rfl) E_b rfl rfl rfl rfl (by decide) (by decide) fun _ T1 Lc1 X1 hQ1 => ?_
 obtain ⟨rfl, N1q, e1q⟩ := hQ1
 have N1 := Fr.app N0 N1q
 refine gs (fun _ k => jb X1 hq d36_5 rfl rfl (jb X1 hq d36_6 rfl rfl k)) ?_
 refine gF X1 hx hZ hown (host := "") (Or.inl (ow hw 89 rfl)) Via.refl e1q F_v hby d36_7 fun T2 X2 e2 => ?_
 refine gs (fun _ k => ji X2 hq d36_10 rfl (jb X2 hq d36_11 rfl rfl k)) ?_
 refine gF X2 hx hZ hown (host := "") (Or.inl (ow hw 87 rfl)) Via.refl e2 F_c hby d36_12 fun T3 X3 e3 => ?_
 refine cV (rest := []) X3 hx hZ hown (ow hw 123 rfl) (ow hw 124 rfl) (nfs hZ (ow hw 126 rfl)) (ow hw 126 rfl) (ow hw 125 rfl) (ow hw 7 rfl) (ow hw 127 rfl) (rm_gbX l Z a0 hw [] t kb cs N x ds z h0 n0 Z0 O0 S0 hz T_x V_t g_t hN hfit) hby d36_15 e3 pd_626 0 (by rw [hml]; rfl) T_x.exa rfl rfl rfl rfl (by decide) (by decide) fun _ T4 Lc4 X4 hQ4 => ?_
 obtain ⟨rfl, N4q, K4q, V4q⟩ := hQ4
 have N4 := Fr.app N1 N4q
 have Z5 := nt Z0 K4q.1
 have O5 := O0.keep K4q (allS g_t all0)
 have K5 := K0.trans K4q (allS (Or.inl (List.mem_of_getElem? (i := 0) rfl)) all0)
 refine gout (v := none) X4 Bd.notSynchronized (fun _ => rfl) (by decide) (by decide) ?_ (fun fs hr => X4.returnOut hx Bd.returns (hb hby d36_18) hr)
 exact ⟨rfl, N4, K5, V4q⟩
abbrev oc37 := jdk_68_method_68_code
theorem d37_0 : decode oc37 0 = .ok (.getstatic 18, 3) := by decide +kernel
theorem d37_3 : decode oc37 3 = .ok (.ifCond .eq 14, 3) := by decide +kernel
theorem d37_6 : decode oc37 6 = .ok (.aload_n 0, 1) := by decide +kernel
theorem d37_7 : decode oc37 7 = .ok (.getfield 22, 3) := by decide +kernel
theorem d37_10 : decode oc37 10 = .ok (.ifCond .ne 7, 3) := by decide +kernel
theorem d37_13 : decode oc37 13 = .ok (.iconst 1, 1) := by decide +kernel
theorem d37_14 : decode oc37 14 = .ok (.goto 4, 3) := by decide +kernel
theorem d37_18 : decode oc37 18 = .ok (.ireturn, 1) := by decide +kernel
theorem rm_ilX (l : Launch) (Z : State) (a0 : Array Value) (hw : HW Z a0) (ws : List Jvm.Cond) (b : Addr) (z : Int32) (h0 : Heap) (n0 : Nat) (Z0 : n0 ≤ h0.size) (O0 : Old Z n0 h0) (E_b : Exa Z h0 b "java/lang/StringBuilder") (F_c : Fld Z h0 b "java/lang/AbstractStringBuilder" "coder" "B" (.int (0 : Int32))) (S0 : PS0 Z (.int z)) (hz : ¬ z = 0) :
  Ctr l Z (⟨"java/lang/AbstractStringBuilder", "isLatin1", "()Z"⟩ : MethodName) oc37 1 ((Option.some Jvm.ClassFile.FieldType.boolean)) ws (⟨0, 0, 0, 0⟩ : Room) #[(.ref b)] h0 (fun v h L => v = some (.int (1 : Int32)) ∧ Fr n0 L ∧ h = h0) := by
 refine Ctr.go (plainFor_of_name pn_484) fun p e s m below meth c s₁ Bd hx hby hml hZ hown hnm X0 e0 => ?_
 have hq := And.intro hx hby
 have N0 := Fr.nil n0
 have K0 := Keep.refl h0 []
 refine gs (S' := s₁.setTop (mkF m 0 #[rv b] [])) (fun tg kg => castTop (ef_27 m b) kg) ?_
 refine gS X0 hx hZ hown (host := "") (Or.inl (ow hw 122 rfl)) Via.refl e0 (S0.ext O0.2) hby d37_0 fun T1 X1 e1 => ?_
 refine gs (fun _ k => jG X1 hq d37_3 ((if0 _ _).trans (feq hz).1) (jb X1 hq d37_6 rfl rfl k)) ?_
 refine gF X1 hx hZ hown (host := "") (Or.inl (ow hw 87 rfl)) Via.refl e1 F_c hby d37_7 fun T2 X2 e2 => ?_
 refine gs (fun _ k => jG X2 hq d37_10 ((if0 _ _).trans (teq (by decide : (0 : Int32) = (0 : Int32))).2) (jf (v := (1 : Int32)) X2 hq d37_13 (jp (pc' := 18) X2 hq d37_14 k))) ?_
 refine gout (v := some (.int (1 : Int32))) X2 Bd.notSynchronized (jA Bd.returns) (by decide) (by decide) ?_ (fun fs hr => retN X2 hx (t := .boolean) Bd.returns (by simp) (hb hby d37_18) hr)
 rw [e2]
 exact ⟨rfl, N0, rfl⟩
theorem ef_638 (m : MethodId) (x0 : Addr) (x1 : Addr) : entryFrame m #[(.ref x0), (.ref x1)] 3 = mkF m 0 #[.val (.ref x0), .val (.ref x1), .unset] [] := by first | (simp [entryFrame, mkF, argsToLocals, Value.category]; done) | rfl
abbrev oc38 := jdk_68_method_22_code
theorem d38_0 : decode oc38 0 = .ok (.aload_n 1, 1) := by decide +kernel
theorem d38_1 : decode oc38 1 = .ok (.ifnonnull 8, 3) := by decide +kernel
theorem d38_9 : decode oc38 9 = .ok (.aload_n 1, 1) := by decide +kernel
theorem d38_10 : decode oc38 10 = .ok (.invokevirtual 32, 3) := by decide +kernel
theorem pd_644 : parseMethodDescriptor "()I" = some ⟨[], some .int⟩ := by decide +kernel
theorem d38_13 : decode oc38 13 = .ok (.istore_n 2, 1) := by decide +kernel
theorem d38_14 : decode oc38 14 = .ok (.aload_n 0, 1) := by decide +kernel
theorem d38_15 : decode oc38 15 = .ok (.aload_n 0, 1) := by decide +kernel
theorem d38_16 : decode oc38 16 = .ok (.getfield 79, 3) := by decide +kernel
theorem d38_19 : decode oc38 19 = .ok (.iload_n 2, 1) := by decide +kernel
theorem d38_20 : decode oc38 20 = .ok (.iadd, 1) := by decide +kernel
theorem d38_21 : decode oc38 21 = .ok (.invokevirtual 100, 3) := by decide +kernel
theorem pd_652 : parseMethodDescriptor "(I)V" = some ⟨[.int], none⟩ := by decide +kernel
theorem d38_24 : decode oc38 24 = .ok (.aload_n 0, 1) := by decide +kernel
theorem d38_25 : decode oc38 25 = .ok (.aload_n 0, 1) := by decide +kernel
theorem d38_26 : decode oc38 26 = .ok (.getfield 79, 3) := by decide +kernel
theorem d38_29 : decode oc38 29 = .ok (.aload_n 1, 1) := by decide +kernel
theorem d38_30 : decode oc38 30 = .ok (.invokevirtual 208, 3) := by decide +kernel
theorem pd_658 : parseMethodDescriptor "(ILjava/lang/String;)V" = some ⟨[.int, (.object "java/lang/String")], none⟩ := by decide +kernel
theorem d38_33 : decode oc38 33 = .ok (.aload_n 0, 1) := by decide +kernel
theorem d38_34 : decode oc38 34 = .ok (.dup, 1) := by decide +kernel
theorem d38_35 : decode oc38 35 = .ok (.getfield 79, 3) := by decide +kernel
theorem d38_38 : decode oc38 38 = .ok (.iload_n 2, 1) := by decide +kernel
theorem d38_39 : decode oc38 39 = .ok (.iadd, 1) := by decide +kernel
theorem d38_40 : decode oc38 40 = .ok (.putfield 79, 3) := by decide +kernel
theorem d38_43 : decode oc38 43 = .ok (.aload_n 0, 1) := by decide +kernel
theorem d38_44 : decode oc38 44 = .ok (.areturn, 1) := by decide +kernel
theorem rm_aaX (l : Launch) (Z : State) (a0 : Array Value) (hw : HW Z a0) (ws : List Jvm.Cond) (b : Addr) (t : Addr) (kb : ClassId) (cs : List Int32) (N : Nat) (x : Addr) (ds : List Int32) (z : Int32) (sl : Nat) (h0 : Heap) (n0 : Nat) (Z0 : n0 ≤ h0.size) (O0 : Old Z n0 h0) (E_b : Exa Z h0 b "java/lang/StringBuilder") (F_v : Fld Z h0 b "java/lang/AbstractStringBuilder" "value" "[B" (.ref t)) (F_c : Fld Z h0 b "java/lang/AbstractStringBuilder" "coder" "B" (.int (0 : Int32))) (F_n : Fld Z h0 b "java/lang/AbstractStringBuilder" "count" "I" (.int (oI cs.length))) (E_t : Exa Z h0 t "[B") (V_t : Arv Z h0 t kb .byte (oI N) (jE cs) (.int (0 : Int32))) (hN : N ≤ 1000000) (hcN : cs.length ≤ N) (g_b : n0 ≤ b) (g_t : n0 ≤ t) (S0 : PS0 Z (.int z)) (hz : ¬ z = 0) (T_x : Str Z h0 x ds) (hbx : ∀ c ∈ ds, ¬ c < 0 ∧ ¬ (255 : Int32) < c) (l2x : ds.length ≤ 4000) (hKb : (cs.length + ds.length) ≤ 1000000) (hsl : jS N (cs.length + ds.length) ≤ sl) (hs8 : sl * 8 ≤ 536870912) :
  Ctr l Z (⟨"java/lang/AbstractStringBuilder", "append", "(Ljava/lang/String;)Ljava/lang/AbstractStringBuilder;"⟩ : MethodName) oc38 3 ((Option.some (Jvm.ClassFile.FieldType.object "java/lang/AbstractStringBuilder"))) ws (⟨4, 1, sl, 62⟩ : Room) #[(.ref b), (.ref x)] h0 (fun v h L => ∃ (t1 : Addr) (k1 : ClassId), v = some (.ref b) ∧ Fr n0 L ∧ Keep h0 h [b, t] ∧ (t1 = t ∨ h0.size ≤ t1) ∧ Fld Z h b "java/lang/AbstractStringBuilder" "value" "[B" (.ref t1) ∧ Fld Z h b "java/lang/AbstractStringBuilder" "coder" "B" (.int (0 : Int32)) ∧ Fld Z h b "java/lang/AbstractStringBuilder" "count" "I" (.int (oI (cs ++ ds).length)) ∧ Exa Z h t1 "[B" ∧ Arv Z h t1 k1 .byte (oI (jw N (cs.length + ds.length))) (jE (cs ++ ds)) (.int (0 : Int32))) := by
 refine Ctr.go (plainFor_of_name pn_484) fun p e s m below meth c s₁ Bd hx hby hml hZ hown hnm X0 e0 => ?_
 have hq := And.intro hx hby
 have N0 := Fr.nil n0
 have K0 := Keep.refl h0 [b, t]
 refine gs (S' := s₁.setTop (mkF m 0 #[rv b, rv x, uu] [])) (fun tg kg => castTop (ef_638 m b x) kg) ?_
 have gb := own_grb hKb hN
 refine gs (fun _ k => jb X0 hq d38_0 rfl rfl (o_ifnonnullYes (pc' := 9) X0 hq d38_1 (jb X0 hq d38_9 rfl rfl k))) ?_
 refine cV (rest := []) X0 hx hZ hown (ow hw 84 rfl) (ow hw 56 rfl) (nfs hZ (ow hw 58 rfl)) (ow hw 58 rfl) (ow hw 57 rfl) (ow hw 7 rfl) (ow hw 59 rfl) (rm_lenL l Z a0 hw [] x ds z h0 n0 Z0 O0 T_x S0 hz) hby d38_10 e0 pd_644 0 (by rw [hml]; rfl) T_x.exa rfl rfl rfl rfl ⟨by decide, nb rfl, nb rfl, nb rfl⟩ (by dsimp only; omega) fun _ T1 Lc1 X1 hQ1 => ?_
 obtain ⟨rfl, N1q, e1q⟩ := hQ1
 have N1 := Fr.app N0 N1q
 refine gs (fun _ k => jT X1 hq d38_13 (jj rfl) (jb X1 hq d38_14 rfl rfl (jb X1 hq d38_15 rfl rfl k))) ?_
 refine gF X1 hx hZ hown (host := "") (Or.inl (ow hw 105 rfl)) Via.refl e1q F_n hby d38_16 fun T2 X2 e2 => ?_
 refine gs (fun _ k => ji X2 hq d38_19 rfl (jt X2 hq d38_20 k)) ?_
 by_cases hc3 : (cs.length + ds.length) ≤ N
 ·refine cV (rest := []) X2 hx hZ hown (ow hw 107 rfl) (jY (ow hw 108 rfl) (ow hw 111 rfl)) (nfs hZ (ow hw 110 rfl)) (ow hw 110 rfl) (ow hw 108 rfl) (ow hw 81 rfl) (ow hw 111 rfl) (rm_enR l Z a0 hw [] b t kb cs N ((oI cs.length) + (oI ds.length)) (cs.length + ds.length) h0 n0 Z0 O0 E_b F_v F_c F_n E_t V_t hN hcN (jd _ _) hKb hc3) hby d38_21 e2 pd_652 0 (by rw [hml]; rfl) E_b rfl rfl rfl rfl ⟨by decide, nb rfl, nb rfl, nb rfl⟩ (by dsimp only; omega) fun _ T4 Lc4 X4 hQ4 => ?_
  obtain ⟨rfl, N4q, e4q⟩ := hQ4
  have N4 := Fr.app N1 N4q
  refine gs (fun _ k => jb X4 hq d38_24 rfl rfl (jb X4 hq d38_25 rfl rfl k)) ?_
  refine gF X4 hx hZ hown (host := "") (Or.inl (ow hw 105 rfl)) Via.refl e4q F_n hby d38_26 fun T5 X5 e5 => ?_
  refine gs (fun _ k => jb X5 hq d38_29 rfl rfl k) ?_
  refine cV (rest := []) X5 hx hZ hown (ow hw 112 rfl) (jY (ow hw 113 rfl) (ow hw 116 rfl)) (nfs hZ (ow hw 115 rfl)) (ow hw 115 rfl) (ow hw 113 rfl) (ow hw 81 rfl) (ow hw 116 rfl) (rm_paX l Z a0 hw [] b t kb cs N x ds z h0 n0 Z0 O0 E_b F_v F_c F_n E_t V_t (nt hN (by first | decide | exact nb rfl)) hcN g_t S0 hz T_x hc3) hby d38_30 e5 pd_658 0 (by rw [hml]; rfl) E_b rfl rfl rfl rfl ⟨by decide, nb rfl, nb rfl, nb rfl⟩ (by dsimp only; omega) fun _ T6 Lc6 X6 hQ6 => ?_
  obtain ⟨rfl, N6q, K6q, V6q⟩ := hQ6
  have N6 := Fr.app N4 N6q
  have Z7 := nt Z0 K6q.1
  have O7 := O0.keep K6q (allS g_t all0)
  have K7 := K0.trans K6q (allS (Or.inl (List.mem_of_getElem? (i := 1) rfl)) all0)
  refine gs (fun _ k => jb X6 hq d38_33 rfl rfl (jad X6 hq d38_34 rfl k)) ?_
  have f8 := (F_n.keep K6q (ninS (Exa.ne E_b E_t (by first | decide | exact nb rfl)) nin0))
  refine gF X6 hx hZ hown (host := "") (Or.inl (ow hw 105 rfl)) Via.refl rfl f8 hby d38_35 fun T9 X9 e9 => ?_
  refine gs (fun _ k => ji X9 hq d38_38 rfl (jt X9 hq d38_39 k)) ?_
  have f10 := (E_b.keep K6q)
  obtain ⟨T11, h11, X11, e11, W11, st11⟩ := putF X9 hx hZ hown (host := "") (Or.inl (ow hw 105 rfl)) Via.refl e9 f8 f10 (Or.inl (ow hw 106 rfl)) (ow hw 72 rfl) (ty := .int) (by first | decide | exact nb rfl) rfl rfl (g := (mkF m 40 #[rv b, rv x, iv (oI ds.length)] [(.int ((oI cs.length) + (oI ds.length))), (.ref b)])) rfl rfl (hb hby d38_40)
  have N11 := Fr.snoc X11 N6 g_b
  have Fw11 := f8.same W11
  have Z12 := nt Z7 (Keep.of_wr W11).1
  have O12 := O7.wr W11 g_b
  have K12 := K7.wr W11 (Or.inl (List.mem_of_getElem? (i := 0) rfl))
  refine gs (S' := T11.setTop (mkF m 43 #[rv b, rv x, iv (oI ds.length)] [])) st11 ?_
  refine gs (fun _ k => jb X11 hq d38_43 rfl rfl k) ?_
  have Fn := Fw11
  rw [own_lenapp] at Fn
  have f13 := ((F_v.keep K6q (ninS (Exa.ne E_b E_t (by first | decide | exact nb rfl)) nin0)).other W11 (Or.inr (slot_ne (Or.inl (ow hw 90 rfl)) (Or.inl (ow hw 106 rfl)) (by first | decide | exact nb rfl) (t := (.array .byte)) (t' := .int) (by first | decide | exact nb rfl) (by first | decide | exact nb rfl))))
  have f14 := ((F_c.keep K6q (ninS (Exa.ne E_b E_t (by first | decide | exact nb rfl)) nin0)).other W11 (Or.inr (slot_ne (Or.inl (ow hw 88 rfl)) (Or.inl (ow hw 106 rfl)) (by first | decide | exact nb rfl) (t := .byte) (t' := .int) (by first | decide | exact nb rfl) (by first | decide | exact nb rfl))))
  have f15 := ((E_t.keep K6q).wr W11)
  have f16 := (V6q.other W11 (Ne.symm (Exa.ne E_b E_t (by first | decide | exact nb rfl))))
  refine gout (v := some (.ref b)) X11 Bd.notSynchronized (jA Bd.returns) (by first | decide | exact nb rfl) (by dsimp only [Pt.cells, Pt.slots]; omega) ?_ (fun fs hr => retOut X11 hx Bd.returns rfl (Or.inr (Or.inr (Or.inr (Or.inr ⟨rfl, rfl, rfl⟩)))) (hb hby d38_44) hr)
  rw [e11]
  exact ⟨_, _, rfl, N11, K12, Or.inl rfl, f13, f14, Fn, f15, by unfold jw; rw [if_pos hc3]; exact f16⟩
 ·have hal := hsl
  unfold jS at hal
  rw [if_neg hc3] at hal
  refine cV (rest := []) X2 hx hZ hown (ow hw 107 rfl) (jY (ow hw 108 rfl) (ow hw 111 rfl)) (nfs hZ (ow hw 110 rfl)) (ow hw 110 rfl) (ow hw 108 rfl) (ow hw 81 rfl) (ow hw 111 rfl) (rm_enG l Z a0 hw [] b t kb cs N ((oI cs.length) + (oI ds.length)) (cs.length + ds.length) sl h0 n0 Z0 O0 E_b F_v F_c F_n E_t V_t hN hcN (jd _ _) hKb hc3 g_b hal hs8) hby d38_21 e2 pd_652 0 (by rw [hml]; rfl) E_b rfl rfl rfl rfl ⟨by decide, nb rfl, nb rfl, nb rfl⟩ (by dsimp only; omega) fun _ T17 Lc17 X17 hQ17 => ?_
  obtain ⟨t17, kb17, rfl, N17q, K17q, g17t, F17v, F17c, F17n, E17t, V17q⟩ := hQ17
  have N17 := Fr.app N1 N17q
  have g_t17 : n0 ≤ t17 := nt Z0 g17t
  have sz_t17 : h0.size ≤ t17 := nt K0.1 g17t
  have Z18 := nt Z0 K17q.1
  have O18 := O0.keep K17q (allS g_b all0)
  have K18 := K0.trans K17q (allS (Or.inl (List.mem_of_getElem? (i := 0) rfl)) all0)
  refine gs (fun _ k => jb X17 hq d38_24 rfl rfl (jb X17 hq d38_25 rfl rfl k)) ?_
  refine gF X17 hx hZ hown (host := "") (Or.inl (ow hw 105 rfl)) Via.refl rfl F17n hby d38_26 fun T19 X19 e19 => ?_
  refine gs (fun _ k => jb X19 hq d38_29 rfl rfl k) ?_
  have f20 := (E_b.keep K17q)
  have f21 := (T_x.keepE K17q E_b (by first | decide | exact nb rfl) (ow hw 72 rfl))
  refine cV (rest := []) X19 hx hZ hown (ow hw 112 rfl) (jY (ow hw 113 rfl) (ow hw 116 rfl)) (nfs hZ (ow hw 115 rfl)) (ow hw 115 rfl) (ow hw 113 rfl) (ow hw 81 rfl) (ow hw 116 rfl) (rm_paX l Z a0 hw [] b t17 kb17 cs (jV N (cs.length + ds.length)) x ds z T17.heap n0 Z18 O18 f20 F17v F17c F17n E17t V17q (nt gb.1 (by first | decide | exact nb rfl)) (nt hcN (Nat.le_of_lt gb.2.1)) g_t17 S0 hz f21 gb.2.2.1) hby d38_30 e19 pd_658 0 (by rw [hml]; rfl) f20 rfl rfl rfl rfl ⟨by decide, nb rfl, nb rfl, nb rfl⟩ (by dsimp only; omega) fun _ T22 Lc22 X22 hQ22 => ?_
  obtain ⟨rfl, N22q, K22q, V22q⟩ := hQ22
  have N22 := Fr.app N17 N22q
  have Z23 := nt Z18 K22q.1
  have O23 := O18.keep K22q (allS g_t17 all0)
  have K23 := K18.trans K22q (allS (Or.inr sz_t17) all0)
  refine gs (fun _ k => jb X22 hq d38_33 rfl rfl (jad X22 hq d38_34 rfl k)) ?_
  have f24 := (F17n.keep K22q (ninS (nw (nu (nu E_b.lt (Nat.le_refl _)) g17t)) nin0))
  refine gF X22 hx hZ hown (host := "") (Or.inl (ow hw 105 rfl)) Via.refl rfl f24 hby d38_35 fun T25 X25 e25 => ?_
  refine gs (fun _ k => ji X25 hq d38_38 rfl (jt X25 hq d38_39 k)) ?_
  have f26 := (f20.keep K22q)
  obtain ⟨T27, h27, X27, e27, W27, st27⟩ := putF X25 hx hZ hown (host := "") (Or.inl (ow hw 105 rfl)) Via.refl e25 f24 f26 (Or.inl (ow hw 106 rfl)) (ow hw 72 rfl) (ty := .int) (by first | decide | exact nb rfl) rfl rfl (g := (mkF m 40 #[rv b, rv x, iv (oI ds.length)] [(.int ((oI cs.length) + (oI ds.length))), (.ref b)])) rfl rfl (hb hby d38_40)
  have N27 := Fr.snoc X27 N22 g_b
  have Fw27 := f24.same W27
  have Z28 := nt Z23 (Keep.of_wr W27).1
  have O28 := O23.wr W27 g_b
  have K28 := K23.wr W27 (Or.inl (List.mem_of_getElem? (i := 0) rfl))
  refine gs (S' := T27.setTop (mkF m 43 #[rv b, rv x, iv (oI ds.length)] [])) st27 ?_
  refine gs (fun _ k => jb X27 hq d38_43 rfl rfl k) ?_
  have Fn := Fw27
  rw [own_lenapp] at Fn
  have f29 := ((F17v.keep K22q (ninS (nw (nu (nu E_b.lt (Nat.le_refl _)) g17t)) nin0)).other W27 (Or.inr (slot_ne (Or.inl (ow hw 90 rfl)) (Or.inl (ow hw 106 rfl)) (by first | decide | exact nb rfl) (t := (.array .byte)) (t' := .int) (by first | decide | exact nb rfl) (by first | decide | exact nb rfl))))
  have f30 := ((F17c.keep K22q (ninS (nw (nu (nu E_b.lt (Nat.le_refl _)) g17t)) nin0)).other W27 (Or.inr (slot_ne (Or.inl (ow hw 88 rfl)) (Or.inl (ow hw 106 rfl)) (by first | decide | exact nb rfl) (t := .byte) (t' := .int) (by first | decide | exact nb rfl) (by first | decide | exact nb rfl))))
  have f31 := ((E17t.keep K22q).wr W27)
  have f32 := (V22q.other W27 (Ne.symm (nw (nu (nu E_b.lt (Nat.le_refl _)) g17t))))
  refine gout (v := some (.ref b)) X27 Bd.notSynchronized (jA Bd.returns) (by first | decide | exact nb rfl) (by dsimp only [Pt.cells, Pt.slots]; omega) ?_ (fun fs hr => retOut X27 hx Bd.returns rfl (Or.inr (Or.inr (Or.inr (Or.inr ⟨rfl, rfl, rfl⟩)))) (hb hby d38_44) hr)
  rw [e27]
  exact ⟨_, _, rfl, N27, K28, Or.inr sz_t17, f29, f30, Fn, f31, by unfold jw; rw [if_neg hc3]; exact f32⟩
abbrev oc39 := jdk_67_method_7_code
theorem d39_0 : decode oc39 0 = .ok (.aload_n 0, 1) := by decide +kernel
theorem d39_1 : decode oc39 1 = .ok (.aload_n 1, 1) := by decide +kernel
theorem d39_2 : decode oc39 2 = .ok (.invokespecial 29, 3) := by decide +kernel
theorem pd_672 : parseMethodDescriptor "(Ljava/lang/String;)Ljava/lang/AbstractStringBuilder;" = some ⟨[(.object "java/lang/String")], some (.object "java/lang/AbstractStringBuilder")⟩ := by decide +kernel
theorem d39_5 : decode oc39 5 = .ok (.pop, 1) := by decide +kernel
theorem d39_6 : decode oc39 6 = .ok (.aload_n 0, 1) := by decide +kernel
theorem d39_7 : decode oc39 7 = .ok (.areturn, 1) := by decide +kernel
theorem pn_676 : plainName "java/lang/StringBuilder" = true := by first | (simp [plainName, overriddenIn]; done) | decide +kernel
theorem rm_saX (l : Launch) (Z : State) (a0 : Array Value) (hw : HW Z a0) (ws : List Jvm.Cond) (b : Addr) (t : Addr) (kb : ClassId) (cs : List Int32) (N : Nat) (x : Addr) (ds : List Int32) (z : Int32) (sl : Nat) (h0 : Heap) (n0 : Nat) (Z0 : n0 ≤ h0.size) (O0 : Old Z n0 h0) (E_b : Exa Z h0 b "java/lang/StringBuilder") (F_v : Fld Z h0 b "java/lang/AbstractStringBuilder" "value" "[B" (.ref t)) (F_c : Fld Z h0 b "java/lang/AbstractStringBuilder" "coder" "B" (.int (0 : Int32))) (F_n : Fld Z h0 b "java/lang/AbstractStringBuilder" "count" "I" (.int (oI cs.length))) (E_t : Exa Z h0 t "[B") (V_t : Arv Z h0 t kb .byte (oI N) (jE cs) (.int (0 : Int32))) (hN : N ≤ 1000000) (hcN : cs.length ≤ N) (g_b : n0 ≤ b) (g_t : n0 ≤ t) (S0 : PS0 Z (.int z)) (hz : ¬ z = 0) (T_x : Str Z h0 x ds) (hbx : ∀ c ∈ ds, ¬ c < 0 ∧ ¬ (255 : Int32) < c) (l2x : ds.length ≤ 4000) (hKb : (cs.length + ds.length) ≤ 1000000) (hsl : jS N (cs.length + ds.length) ≤ sl) (hs8 : sl * 8 ≤ 536870912) :
  Ctr l Z (⟨"java/lang/StringBuilder", "append", "(Ljava/lang/String;)Ljava/lang/StringBuilder;"⟩ : MethodName) oc39 2 ((Option.some (Jvm.ClassFile.FieldType.object "java/lang/StringBuilder"))) ws (⟨5, 1, sl, 76⟩ : Room) #[(.ref b), (.ref x)] h0 (fun v h L => ∃ (t1 : Addr) (k1 : ClassId), v = some (.ref b) ∧ Fr n0 L ∧ Keep h0 h [b, t] ∧ (t1 = t ∨ h0.size ≤ t1) ∧ Fld Z h b "java/lang/AbstractStringBuilder" "value" "[B" (.ref t1) ∧ Fld Z h b "java/lang/AbstractStringBuilder" "coder" "B" (.int (0 : Int32)) ∧ Fld Z h b "java/lang/AbstractStringBuilder" "count" "I" (.int (oI (cs ++ ds).length)) ∧ Exa Z h t1 "[B" ∧ Arv Z h t1 k1 .byte (oI (jw N (cs.length + ds.length))) (jE (cs ++ ds)) (.int (0 : Int32))) := by
 refine Ctr.go (plainFor_of_name pn_676) fun p e s m below meth c s₁ Bd hx hby hml hZ hown hnm X0 e0 => ?_
 have hq := And.intro hx hby
 have N0 := Fr.nil n0
 have K0 := Keep.refl h0 [b, t]
 refine gs (S' := s₁.setTop (mkF m 0 #[rv b, rv x] [])) (fun tg kg => castTop (ef_16 m b x) kg) ?_
 refine gs (fun _ k => jb X0 hq d39_0 rfl rfl (jb X0 hq d39_1 rfl rfl k)) ?_
 refine cP (rest := []) X0 hx hZ hown (ow hw 102 rfl) (own_same (ow hw 110 rfl) (ow hw 93 rfl) (by first | decide | exact nb rfl) rfl) (ow hw 93 rfl) (ow hw 103 rfl) (ow hw 81 rfl) (ow hw 104 rfl) (rm_aaX l Z a0 hw [] b t kb cs N x ds z sl h0 n0 Z0 O0 E_b F_v F_c F_n E_t V_t hN hcN g_b g_t S0 hz T_x hbx l2x hKb hsl hs8) hby d39_2 e0 pd_672 0 (by rw [hml]; rfl) E_b rfl rfl rfl rfl ⟨by decide, nb rfl, nb rfl, nb rfl⟩ (by dsimp only; omega) fun _ T1 Lc1 X1 hQ1 => ?_
 obtain ⟨t1, kb1, rfl, N1q, K1q, o1t, F1v, F1c, F1n, E1t, V1q⟩ := hQ1
 have N1 := Fr.app N0 N1q
 have Z2 := nt Z0 K1q.1
 have O2 := O0.keep K1q (allS g_b (allS g_t all0))
 have K2 := K0.trans K1q (allS (Or.inl (List.mem_of_getElem? (i := 0) rfl)) (allS (Or.inl (List.mem_of_getElem? (i := 1) rfl)) all0))
 refine gs (fun _ k => jW X1 hq d39_5 rfl (jb X1 hq d39_6 rfl rfl k)) ?_
 refine gout (v := some (.ref b)) X1 Bd.notSynchronized (jA Bd.returns) (by first | decide | exact nb rfl) (by dsimp only [Pt.cells, Pt.slots]; omega) ?_ (fun fs hr => retOut X1 hx Bd.returns rfl (Or.inr (Or.inr (Or.inr (Or.inr ⟨rfl, rfl, rfl⟩)))) (hb hby d39_7) hr)
 exact ⟨_, _, rfl, N1, K2, o1t, F1v, F1c, F1n, E1t, V1q⟩
theorem ef_677 (m : MethodId) (x0 : Int32) : entryFrame m #[(.int x0)] 1 = mkF m 0 #[.val (.int x0)] [] := by first | (simp [entryFrame, mkF, argsToLocals, Value.category]; done) | rfl
abbrev oc40 := jdk_43_method_3_code
theorem d40_0 : decode oc40 0 = .ok (.iload_n 0, 1) := by decide +kernel
theorem d40_1 : decode oc40 1 = .ok (.sipush 255, 3) := by decide +kernel
theorem d40_4 : decode oc40 4 = .ok (.if_icmp .gt 7, 3) := by decide +kernel
theorem d40_7 : decode oc40 7 = .ok (.iconst 1, 1) := by decide +kernel
theorem d40_8 : decode oc40 8 = .ok (.goto 4, 3) := by decide +kernel
theorem d40_12 : decode oc40 12 = .ok (.ireturn, 1) := by decide +kernel
theorem rm_ceX (l : Launch) (Z : State) (a0 : Array Value) (hw : HW Z a0) (ws : List Jvm.Cond) (p1 : Int32) (h0 : Heap) (n0 : Nat) (Z0 : n0 ≤ h0.size) (O0 : Old Z n0 h0) (hp : ¬ (255 : Int32) < p1) :
  Ctr l Z (⟨"java/lang/StringLatin1", "canEncode", "(C)Z"⟩ : MethodName) oc40 1 ((Option.some Jvm.ClassFile.FieldType.boolean)) ws (⟨0, 0, 0, 0⟩ : Room) #[(.int p1)] h0 (fun v h L => v = some (.int (1 : Int32)) ∧ Fr n0 L ∧ h = h0) := by
 refine Ctr.go (plainFor_of_name pn_88) fun p e s m below meth c s₁ Bd hx hby hml hZ hown hnm X0 e0 => ?_
 have hq := And.intro hx hby
 have N0 := Fr.nil n0
 have K0 := Keep.refl h0 []
 refine gs (S' := s₁.setTop (mkF m 0 #[iv p1] [])) (fun tg kg => castTop (ef_677 m p1) kg) ?_
 refine gs (fun _ k => ji X0 hq d40_0 rfl (o_sipush (v := (255 : Int32)) X0 hq d40_1 (jm X0 hq d40_4 (flt hp).2.2.1 (jf (v := (1 : Int32)) X0 hq d40_7 (jp (pc' := 12) X0 hq d40_8 k))))) ?_
 refine gout (v := some (.int (1 : Int32))) X0 Bd.notSynchronized (jA Bd.returns) (by decide) (by decide) ?_ (fun fs hr => retN X0 hx (t := .boolean) Bd.returns (by simp) (hb hby d40_12) hr)
 rw [e0]
 exact ⟨rfl, N0, rfl⟩
abbrev oc41 := jdk_68_method_31_code
theorem d41_0 : decode oc41 0 = .ok (.aload_n 0, 1) := by decide +kernel
theorem d41_1 : decode oc41 1 = .ok (.aload_n 0, 1) := by decide +kernel
theorem d41_2 : decode oc41 2 = .ok (.getfield 79, 3) := by decide +kernel
theorem d41_5 : decode oc41 5 = .ok (.iconst 1, 1) := by decide +kernel
theorem d41_6 : decode oc41 6 = .ok (.iadd, 1) := by decide +kernel
theorem d41_7 : decode oc41 7 = .ok (.invokevirtual 100, 3) := by decide +kernel
theorem d41_10 : decode oc41 10 = .ok (.aload_n 0, 1) := by decide +kernel
theorem d41_11 : decode oc41 11 = .ok (.invokevirtual 83, 3) := by decide +kernel
theorem d41_14 : decode oc41 14 = .ok (.ifCond .eq 31, 3) := by decide +kernel
theorem d41_17 : decode oc41 17 = .ok (.iload_n 1, 1) := by decide +kernel
theorem d41_18 : decode oc41 18 = .ok (.invokestatic 191, 3) := by decide +kernel
theorem pd_698 : parseMethodDescriptor "(C)Z" = some ⟨[.char], some .boolean⟩ := by decide +kernel
theorem d41_21 : decode oc41 21 = .ok (.ifCond .eq 24, 3) := by decide +kernel
theorem d41_24 : decode oc41 24 = .ok (.aload_n 0, 1) := by decide +kernel
theorem d41_25 : decode oc41 25 = .ok (.getfield 15, 3) := by decide +kernel
theorem d41_28 : decode oc41 28 = .ok (.aload_n 0, 1) := by decide +kernel
theorem d41_29 : decode oc41 29 = .ok (.dup, 1) := by decide +kernel
theorem d41_30 : decode oc41 30 = .ok (.getfield 79, 3) := by decide +kernel
theorem d41_33 : decode oc41 33 = .ok (.dup_x1, 1) := by decide +kernel
theorem d41_34 : decode oc41 34 = .ok (.iconst 1, 1) := by decide +kernel
theorem d41_35 : decode oc41 35 = .ok (.iadd, 1) := by decide +kernel
theorem d41_36 : decode oc41 36 = .ok (.putfield 79, 3) := by decide +kernel
theorem d41_39 : decode oc41 39 = .ok (.iload_n 1, 1) := by decide +kernel
theorem d41_40 : decode oc41 40 = .ok (.i2b, 1) := by decide +kernel
theorem d41_41 : decode oc41 41 = .ok (.bastore, 1) := by decide +kernel
theorem d41_42 : decode oc41 42 = .ok (.goto 33, 3) := by decide +kernel
theorem d41_75 : decode oc41 75 = .ok (.aload_n 0, 1) := by decide +kernel
theorem d41_76 : decode oc41 76 = .ok (.areturn, 1) := by decide +kernel
theorem rm_acX (l : Launch) (Z : State) (a0 : Array Value) (hw : HW Z a0) (ws : List Jvm.Cond) (b : Addr) (t : Addr) (kb : ClassId) (cs : List Int32) (N : Nat) (cc : Int32) (z : Int32) (sl : Nat) (h0 : Heap) (n0 : Nat) (Z0 : n0 ≤ h0.size) (O0 : Old Z n0 h0) (E_b : Exa Z h0 b "java/lang/StringBuilder") (F_v : Fld Z h0 b "java/lang/AbstractStringBuilder" "value" "[B" (.ref t)) (F_c : Fld Z h0 b "java/lang/AbstractStringBuilder" "coder" "B" (.int (0 : Int32))) (F_n : Fld Z h0 b "java/lang/AbstractStringBuilder" "count" "I" (.int (oI cs.length))) (E_t : Exa Z h0 t "[B") (V_t : Arv Z h0 t kb .byte (oI N) (jE cs) (.int (0 : Int32))) (hN : N ≤ 1000000) (hcN : cs.length ≤ N) (g_b : n0 ≤ b) (g_t : n0 ≤ t) (S0 : PS0 Z (.int z)) (hz : ¬ z = 0) (hcc : ¬ (255 : Int32) < cc) (hKb : (cs.length + 1) ≤ 1000000) (hsl : jS N (cs.length + 1) ≤ sl) (hs8 : sl * 8 ≤ 536870912) :
  Ctr l Z (⟨"java/lang/AbstractStringBuilder", "append", "(C)Ljava/lang/AbstractStringBuilder;"⟩ : MethodName) oc41 2 ((Option.some (Jvm.ClassFile.FieldType.object "java/lang/AbstractStringBuilder"))) ws (⟨4, 1, sl, 62⟩ : Room) #[(.ref b), (.int cc)] h0 (fun v h L => ∃ (t1 : Addr) (k1 : ClassId), v = some (.ref b) ∧ Fr n0 L ∧ Keep h0 h [b, t] ∧ (t1 = t ∨ h0.size ≤ t1) ∧ Fld Z h b "java/lang/AbstractStringBuilder" "value" "[B" (.ref t1) ∧ Fld Z h b "java/lang/AbstractStringBuilder" "coder" "B" (.int (0 : Int32)) ∧ Fld Z h b "java/lang/AbstractStringBuilder" "count" "I" (.int (oI (cs ++ [cc]).length)) ∧ Exa Z h t1 "[B" ∧ Arv Z h t1 k1 .byte (oI (jw N (cs.length + 1))) (jE (cs ++ [cc])) (.int (0 : Int32))) := by
 refine Ctr.go (plainFor_of_name pn_484) fun p e s m below meth c s₁ Bd hx hby hml hZ hown hnm X0 e0 => ?_
 have hq := And.intro hx hby
 have N0 := Fr.nil n0
 have K0 := Keep.refl h0 [b, t]
 refine gs (S' := s₁.setTop (mkF m 0 #[rv b, iv cc] [])) (fun tg kg => castTop (ef_74 m b cc) kg) ?_
 have gb := own_grb hKb hN
 refine gs (fun _ k => jb X0 hq d41_0 rfl rfl (jb X0 hq d41_1 rfl rfl k)) ?_
 refine gF X0 hx hZ hown (host := "") (Or.inl (ow hw 105 rfl)) Via.refl e0 F_n hby d41_2 fun T1 X1 e1 => ?_
 refine gs (fun _ k => jf (v := (1 : Int32)) X1 hq d41_5 (jt X1 hq d41_6 k)) ?_
 by_cases hc2 : (cs.length + 1) ≤ N
 ·refine cV (rest := []) X1 hx hZ hown (ow hw 107 rfl) (jY (ow hw 108 rfl) (ow hw 111 rfl)) (nfs hZ (ow hw 110 rfl)) (ow hw 110 rfl) (ow hw 108 rfl) (ow hw 81 rfl) (ow hw 111 rfl) (rm_enR l Z a0 hw [] b t kb cs N ((oI cs.length) + (1 : Int32)) (cs.length + 1) h0 n0 Z0 O0 E_b F_v F_c F_n E_t V_t hN hcN (jk _) hKb hc2) hby d41_7 e1 pd_652 0 (by rw [hml]; rfl) E_b rfl rfl rfl rfl ⟨by decide, nb rfl, nb rfl, nb rfl⟩ (by dsimp only; omega) fun _ T3 Lc3 X3 hQ3 => ?_
  obtain ⟨rfl, N3q, e3q⟩ := hQ3
  have N3 := Fr.app N0 N3q
  refine gs (fun _ k => jb X3 hq d41_10 rfl rfl k) ?_
  refine cV (rest := []) X3 hx hZ hown (ow hw 179 rfl) (ow hw 180 rfl) (nfs hZ (ow hw 182 rfl)) (ow hw 182 rfl) (ow hw 181 rfl) (ow hw 81 rfl) (ow hw 183 rfl) (rm_ilX l Z a0 hw [] b z h0 n0 Z0 O0 E_b F_c S0 hz) hby d41_11 e3q pd_93 0 (by rw [hml]; rfl) E_b rfl rfl rfl rfl ⟨by decide, nb rfl, nb rfl, nb rfl⟩ (by dsimp only; omega) fun _ T4 Lc4 X4 hQ4 => ?_
  obtain ⟨rfl, N4q, e4q⟩ := hQ4
  have N4 := Fr.app N3 N4q
  refine gs (fun _ k => jG X4 hq d41_14 ((if0 _ _).trans (feq (by decide : ¬ ((1 : Int32) = (0 : Int32)))).1) (ji X4 hq d41_17 rfl k)) ?_
  refine cS (rest := []) X4 hx hZ hown (ow hw 184 rfl) (ow hw 185 rfl) (ow hw 186 rfl) (ow hw 187 rfl) (rm_ceX l Z a0 hw [] cc h0 n0 Z0 O0 hcc) hby d41_18 e4q pd_698 0 (by rw [hml]; rfl) rfl rfl rfl rfl ⟨by decide, nb rfl, nb rfl, nb rfl⟩ (by dsimp only; omega) fun _ T5 Lc5 X5 hQ5 => ?_
  obtain ⟨rfl, N5q, e5q⟩ := hQ5
  have N5 := Fr.app N4 N5q
  refine gs (fun _ k => jG X5 hq d41_21 ((if0 _ _).trans (feq (by decide : ¬ ((1 : Int32) = (0 : Int32)))).1) (jb X5 hq d41_24 rfl rfl k)) ?_
  refine gF X5 hx hZ hown (host := "") (Or.inl (ow hw 89 rfl)) Via.refl e5q F_v hby d41_25 fun T6 X6 e6 => ?_
  refine gs (fun _ k => jb X6 hq d41_28 rfl rfl (jad X6 hq d41_29 rfl k)) ?_
  refine gF X6 hx hZ hown (host := "") (Or.inl (ow hw 105 rfl)) Via.refl e6 F_n hby d41_30 fun T7 X7 e7 => ?_
  refine gs (fun _ k => o_dupX1 X7 hq d41_33 rfl rfl (jf (v := (1 : Int32)) X7 hq d41_34 (jt X7 hq d41_35 k))) ?_
  obtain ⟨T8, h8, X8, e8, W8, st8⟩ := putF X7 hx hZ hown (host := "") (Or.inl (ow hw 105 rfl)) Via.refl e7 F_n E_b (Or.inl (ow hw 106 rfl)) (ow hw 72 rfl) (ty := .int) (by first | decide | exact nb rfl) rfl rfl (g := (mkF m 36 #[rv b, iv cc] [(.int ((oI cs.length) + (1 : Int32))), (.ref b), (.int (oI cs.length)), (.ref t)])) rfl rfl (hb hby d41_36)
  have N8 := Fr.snoc X8 N5 g_b
  have Fw8 := F_n.same W8
  have Z9 := nt Z0 (Keep.of_wr W8).1
  have O9 := O0.wr W8 g_b
  have K9 := K0.wr W8 (Or.inl (List.mem_of_getElem? (i := 0) rfl))
  refine gs (S' := T8.setTop (mkF m 39 #[rv b, iv cc] [(.int (oI cs.length)), (.ref t)])) st8 ?_
  refine gs (fun _ k => ji X8 hq d41_39 rfl (o_i2b X8 hq d41_40 k)) ?_
  have f10 := (V_t.other W8 (Ne.symm (Exa.ne E_b E_t (by first | decide | exact nb rfl))))
  have hlt11 : cs.length < N := by omega
  have hbd11 : N ≤ 10000000 := by omega
  obtain ⟨cl11, A11, a11q, a11S, a11N, a11H, a11G⟩ := f10.pad (vs' := jE cs ++ [Value.int 0]) (own_pad1 cs)
  obtain ⟨T11, h11, X11, e11, W11, st11⟩ := stB X8 hx hZ e8 A11 (j := (oI cs.length)) (inb_of a11S ⟨jM (by omega), jX (by omega) hlt11⟩) (g := (mkF m 41 #[rv b, iv cc] [(.int (cc.toInt8.toInt32)), (.int (oI cs.length)), (.ref t)])) rfl rfl (hb hby d41_41)
  have q11 := Arv.set A11 a11q a11S a11N a11H a11G (fits_nar_byte _) W11 cs.length (jae (by omega)) (by simp)
  rw [show cc.toInt8.toInt32.toInt8.toInt32 = cc.toInt8.toInt32 from own_narb cc, own_setlast] at q11
  have N11 := Fr.snoc X11 N8 g_t
  have Z12 := nt Z9 (Keep.of_wr W11).1
  have O12 := O9.wr W11 g_t
  have K12 := K9.wr W11 (Or.inl (List.mem_of_getElem? (i := 1) rfl))
  refine gs (S' := T11.setTop (mkF m 42 #[rv b, iv cc] [])) st11 ?_
  refine gs (fun _ k => jp (pc' := 75) X11 hq d41_42 (jb X11 hq d41_75 rfl rfl k)) ?_
  have f13 := (Fw8.other W11 (Or.inl (Exa.ne E_b E_t (by first | decide | exact nb rfl))))
  have Fn := f13
  rw [own_len1 cs cc] at Fn
  have f14 := ((F_v.other W8 (Or.inr (slot_ne (Or.inl (ow hw 90 rfl)) (Or.inl (ow hw 106 rfl)) (by first | decide | exact nb rfl) (t := (.array .byte)) (t' := .int) (by first | decide | exact nb rfl) (by first | decide | exact nb rfl)))).other W11 (Or.inl (Exa.ne E_b E_t (by first | decide | exact nb rfl))))
  have f15 := ((F_c.other W8 (Or.inr (slot_ne (Or.inl (ow hw 88 rfl)) (Or.inl (ow hw 106 rfl)) (by first | decide | exact nb rfl) (t := .byte) (t' := .int) (by first | decide | exact nb rfl) (by first | decide | exact nb rfl)))).other W11 (Or.inl (Exa.ne E_b E_t (by first | decide | exact nb rfl))))
  have f16 := ((E_t.wr W8).wr W11)
  refine gout (v := some (.ref b)) X11 Bd.notSynchronized (jA Bd.returns) (by first | decide | exact nb rfl) (by dsimp only [Pt.cells, Pt.slots]; omega) ?_ (fun fs hr => retOut X11 hx Bd.returns rfl (Or.inr (Or.inr (Or.inr (Or.inr ⟨rfl, rfl, rfl⟩)))) (hb hby d41_76) hr)
  rw [e11]
  exact ⟨_, _, rfl, N11, K12, Or.inl rfl, f14, f15, Fn, f16, by unfold jw; rw [if_pos hc2]; exact q11⟩
 ·have hal := hsl
  unfold jS at hal
  rw [if_neg hc2] at hal
  refine cV (rest := []) X1 hx hZ hown (ow hw 107 rfl) (jY (ow hw 108 rfl) (ow hw 111 rfl)) (nfs hZ (ow hw 110 rfl)) (ow hw 110 rfl) (ow hw 108 rfl) (ow hw 81 rfl) (ow hw 111 rfl) (rm_enG l Z a0 hw [] b t kb cs N ((oI cs.length) + (1 : Int32)) (cs.length + 1) sl h0 n0 Z0 O0 E_b F_v F_c F_n E_t V_t hN hcN (jk _) hKb hc2 g_b hal hs8) hby d41_7 e1 pd_652 0 (by rw [hml]; rfl) E_b rfl rfl rfl rfl ⟨by decide, nb rfl, nb rfl, nb rfl⟩ (by dsimp only; omega) fun _ T17 Lc17 X17 hQ17 => ?_
  obtain ⟨t17, kb17, rfl, N17q, K17q, g17t, F17v, F17c, F17n, E17t, V17q⟩ := hQ17
  have N17 := Fr.app N0 N17q
  have g_t17 : n0 ≤ t17 := nt Z0 g17t
  have sz_t17 : h0.size ≤ t17 := nt K0.1 g17t
  have Z18 := nt Z0 K17q.1
  have O18 := O0.keep K17q (allS g_b all0)
  have K18 := K0.trans K17q (allS (Or.inl (List.mem_of_getElem? (i := 0) rfl)) all0)
  refine gs (fun _ k => jb X17 hq d41_10 rfl rfl k) ?_
  have f19 := (E_b.keep K17q)
  refine cV (rest := []) X17 hx hZ hown (ow hw 179 rfl) (ow hw 180 rfl) (nfs hZ (ow hw 182 rfl)) (ow hw 182 rfl) (ow hw 181 rfl) (ow hw 81 rfl) (ow hw 183 rfl) (rm_ilX l Z a0 hw [] b z T17.heap n0 Z18 O18 f19 F17c S0 hz) hby d41_11 rfl pd_93 0 (by rw [hml]; rfl) f19 rfl rfl rfl rfl ⟨by decide, nb rfl, nb rfl, nb rfl⟩ (by dsimp only; omega) fun _ T20 Lc20 X20 hQ20 => ?_
  obtain ⟨rfl, N20q, e20q⟩ := hQ20
  have N20 := Fr.app N17 N20q
  refine gs (fun _ k => jG X20 hq d41_14 ((if0 _ _).trans (feq (by decide : ¬ ((1 : Int32) = (0 : Int32)))).1) (ji X20 hq d41_17 rfl k)) ?_
  refine cS (rest := []) X20 hx hZ hown (ow hw 184 rfl) (ow hw 185 rfl) (ow hw 186 rfl) (ow hw 187 rfl) (rm_ceX l Z a0 hw [] cc T17.heap n0 Z18 O18 hcc) hby d41_18 e20q pd_698 0 (by rw [hml]; rfl) rfl rfl rfl rfl ⟨by decide, nb rfl, nb rfl, nb rfl⟩ (by dsimp only; omega) fun _ T21 Lc21 X21 hQ21 => ?_
  obtain ⟨rfl, N21q, e21q⟩ := hQ21
  have N21 := Fr.app N20 N21q
  refine gs (fun _ k => jG X21 hq d41_21 ((if0 _ _).trans (feq (by decide : ¬ ((1 : Int32) = (0 : Int32)))).1) (jb X21 hq d41_24 rfl rfl k)) ?_
  refine gF X21 hx hZ hown (host := "") (Or.inl (ow hw 89 rfl)) Via.refl e21q F17v hby d41_25 fun T22 X22 e22 => ?_
  refine gs (fun _ k => jb X22 hq d41_28 rfl rfl (jad X22 hq d41_29 rfl k)) ?_
  refine gF X22 hx hZ hown (host := "") (Or.inl (ow hw 105 rfl)) Via.refl e22 F17n hby d41_30 fun T23 X23 e23 => ?_
  refine gs (fun _ k => o_dupX1 X23 hq d41_33 rfl rfl (jf (v := (1 : Int32)) X23 hq d41_34 (jt X23 hq d41_35 k))) ?_
  obtain ⟨T24, h24, X24, e24, W24, st24⟩ := putF X23 hx hZ hown (host := "") (Or.inl (ow hw 105 rfl)) Via.refl e23 F17n f19 (Or.inl (ow hw 106 rfl)) (ow hw 72 rfl) (ty := .int) (by first | decide | exact nb rfl) rfl rfl (g := (mkF m 36 #[rv b, iv cc] [(.int ((oI cs.length) + (1 : Int32))), (.ref b), (.int (oI cs.length)), (.ref t17)])) rfl rfl (hb hby d41_36)
  have N24 := Fr.snoc X24 N21 g_b
  have Fw24 := F17n.same W24
  have Z25 := nt Z18 (Keep.of_wr W24).1
  have O25 := O18.wr W24 g_b
  have K25 := K18.wr W24 (Or.inl (List.mem_of_getElem? (i := 0) rfl))
  refine gs (S' := T24.setTop (mkF m 39 #[rv b, iv cc] [(.int (oI cs.length)), (.ref t17)])) st24 ?_
  refine gs (fun _ k => ji X24 hq d41_39 rfl (o_i2b X24 hq d41_40 k)) ?_
  have f26 := (V17q.other W24 (Ne.symm (nw (nu (nu E_b.lt (Nat.le_refl _)) g17t))))
  have hlt27 : cs.length < (jV N (cs.length + 1)) := by have q := gb.2.2.1; omega
  have hbd27 : (jV N (cs.length + 1)) ≤ 10000000 := by have q := gb.1; omega
  obtain ⟨cl27, A27, a27q, a27S, a27N, a27H, a27G⟩ := f26.pad (vs' := jE cs ++ [Value.int 0]) (own_pad1 cs)
  obtain ⟨T27, h27, X27, e27, W27, st27⟩ := stB X24 hx hZ e24 A27 (j := (oI cs.length)) (inb_of a27S ⟨jM (by omega), jX (by omega) hlt27⟩) (g := (mkF m 41 #[rv b, iv cc] [(.int (cc.toInt8.toInt32)), (.int (oI cs.length)), (.ref t17)])) rfl rfl (hb hby d41_41)
  have q27 := Arv.set A27 a27q a27S a27N a27H a27G (fits_nar_byte _) W27 cs.length (jae (by omega)) (by simp)
  rw [show cc.toInt8.toInt32.toInt8.toInt32 = cc.toInt8.toInt32 from own_narb cc, own_setlast] at q27
  have N27 := Fr.snoc X27 N24 g_t17
  have Z28 := nt Z25 (Keep.of_wr W27).1
  have O28 := O25.wr W27 g_t17
  have K28 := K25.wr W27 (Or.inr sz_t17)
  refine gs (S' := T27.setTop (mkF m 42 #[rv b, iv cc] [])) st27 ?_
  refine gs (fun _ k => jp (pc' := 75) X27 hq d41_42 (jb X27 hq d41_75 rfl rfl k)) ?_
  have f29 := (Fw24.other W27 (Or.inl (nw (nu (nu E_b.lt (Nat.le_refl _)) g17t))))
  have Fn := f29
  rw [own_len1 cs cc] at Fn
  have f30 := ((F17v.other W24 (Or.inr (slot_ne (Or.inl (ow hw 90 rfl)) (Or.inl (ow hw 106 rfl)) (by first | decide | exact nb rfl) (t := (.array .byte)) (t' := .int) (by first | decide | exact nb rfl) (by first | decide | exact nb rfl)))).other W27 (Or.inl (nw (nu (nu E_b.lt (Nat.le_refl _)) g17t))))
  have f31 := ((F17c.other W24 (Or.inr (slot_ne (Or.inl (ow hw 88 rfl)) (Or.inl (ow hw 106 rfl)) (by first | decide | exact nb rfl) (t := .byte) (t' := .int) (by first | decide | exact nb rfl) (by first | decide | exact nb rfl)))).other W27 (Or.inl (nw (nu (nu E_b.lt (Nat.le_refl _)) g17t))))
  have f32 := ((E17t.wr W24).wr W27)
  refine gout (v := some (.ref b)) X27 Bd.notSynchronized (jA Bd.returns) (by first | decide | exact nb rfl) (by dsimp only [Pt.cells, Pt.slots]; omega) ?_ (fun fs hr => retOut X27 hx Bd.returns rfl (Or.inr (Or.inr (Or.inr (Or.inr ⟨rfl, rfl, rfl⟩)))) (hb hby d41_76) hr)
  rw [e27]
  exact ⟨_, _, rfl, N27, K28, Or.inr sz_t17, f30, f31, Fn, f32, by unfold jw; rw [if_neg hc2]; exact q27⟩
abbrev oc42 := jdk_67_method_14_code
theorem d42_0 : decode oc42 0 = .ok (.aload_n 0, 1) := by decide +kernel
theorem d42_1 : decode oc42 1 = .ok (.iload_n 1, 1) := by decide +kernel
theorem d42_2 : decode oc42 2 = .ok (.invokespecial 50, 3) := by decide +kernel
theorem pd_720 : parseMethodDescriptor "(C)Ljava/lang/AbstractStringBuilder;" = some ⟨[.char], some (.object "java/lang/AbstractStringBuilder")⟩ := by decide +kernel
theorem d42_5 : decode oc42 5 = .ok (.pop, 1) := by decide +kernel
theorem d42_6 : decode oc42 6 = .ok (.aload_n 0, 1) := by decide +kernel
theorem d42_7 : decode oc42 7 = .ok (.areturn, 1) := by decide +kernel
theorem rm_scX (l : Launch) (Z : State) (a0 : Array Value) (hw : HW Z a0) (ws : List Jvm.Cond) (b : Addr) (t : Addr) (kb : ClassId) (cs : List Int32) (N : Nat) (cc : Int32) (z : Int32) (sl : Nat) (h0 : Heap) (n0 : Nat) (Z0 : n0 ≤ h0.size) (O0 : Old Z n0 h0) (E_b : Exa Z h0 b "java/lang/StringBuilder") (F_v : Fld Z h0 b "java/lang/AbstractStringBuilder" "value" "[B" (.ref t)) (F_c : Fld Z h0 b "java/lang/AbstractStringBuilder" "coder" "B" (.int (0 : Int32))) (F_n : Fld Z h0 b "java/lang/AbstractStringBuilder" "count" "I" (.int (oI cs.length))) (E_t : Exa Z h0 t "[B") (V_t : Arv Z h0 t kb .byte (oI N) (jE cs) (.int (0 : Int32))) (hN : N ≤ 1000000) (hcN : cs.length ≤ N) (g_b : n0 ≤ b) (g_t : n0 ≤ t) (S0 : PS0 Z (.int z)) (hz : ¬ z = 0) (hcc : ¬ (255 : Int32) < cc) (hKb : (cs.length + 1) ≤ 1000000) (hsl : jS N (cs.length + 1) ≤ sl) (hs8 : sl * 8 ≤ 536870912) :
  Ctr l Z (⟨"java/lang/StringBuilder", "append", "(C)Ljava/lang/StringBuilder;"⟩ : MethodName) oc42 2 ((Option.some (Jvm.ClassFile.FieldType.object "java/lang/StringBuilder"))) ws (⟨5, 1, sl, 75⟩ : Room) #[(.ref b), (.int cc)] h0 (fun v h L => ∃ (t1 : Addr) (k1 : ClassId), v = some (.ref b) ∧ Fr n0 L ∧ Keep h0 h [b, t] ∧ (t1 = t ∨ h0.size ≤ t1) ∧ Fld Z h b "java/lang/AbstractStringBuilder" "value" "[B" (.ref t1) ∧ Fld Z h b "java/lang/AbstractStringBuilder" "coder" "B" (.int (0 : Int32)) ∧ Fld Z h b "java/lang/AbstractStringBuilder" "count" "I" (.int (oI (cs ++ [cc]).length)) ∧ Exa Z h t1 "[B" ∧ Arv Z h t1 k1 .byte (oI (jw N (cs.length + 1))) (jE (cs ++ [cc])) (.int (0 : Int32))) := by
 refine Ctr.go (plainFor_of_name pn_676) fun p e s m below meth c s₁ Bd hx hby hml hZ hown hnm X0 e0 => ?_
 have hq := And.intro hx hby
 have N0 := Fr.nil n0
 have K0 := Keep.refl h0 [b, t]
 refine gs (S' := s₁.setTop (mkF m 0 #[rv b, iv cc] [])) (fun tg kg => castTop (ef_74 m b cc) kg) ?_
 refine gs (fun _ k => jb X0 hq d42_0 rfl rfl (ji X0 hq d42_1 rfl k)) ?_
 refine cP (rest := []) X0 hx hZ hown (ow hw 175 rfl) (own_same (ow hw 110 rfl) (ow hw 176 rfl) (by first | decide | exact nb rfl) rfl) (ow hw 176 rfl) (ow hw 103 rfl) (ow hw 81 rfl) (ow hw 178 rfl) (rm_acX l Z a0 hw [] b t kb cs N cc z sl h0 n0 Z0 O0 E_b F_v F_c F_n E_t V_t hN hcN g_b g_t S0 hz hcc hKb hsl hs8) hby d42_2 e0 pd_720 0 (by rw [hml]; rfl) E_b rfl rfl rfl rfl ⟨by decide, nb rfl, nb rfl, nb rfl⟩ (by dsimp only; omega) fun _ T1 Lc1 X1 hQ1 => ?_
 obtain ⟨t1, kb1, rfl, N1q, K1q, o1t, F1v, F1c, F1n, E1t, V1q⟩ := hQ1
 have N1 := Fr.app N0 N1q
 have Z2 := nt Z0 K1q.1
 have O2 := O0.keep K1q (allS g_b (allS g_t all0))
 have K2 := K0.trans K1q (allS (Or.inl (List.mem_of_getElem? (i := 0) rfl)) (allS (Or.inl (List.mem_of_getElem? (i := 1) rfl)) all0))
 refine gs (fun _ k => jW X1 hq d42_5 rfl (jb X1 hq d42_6 rfl rfl k)) ?_
 refine gout (v := some (.ref b)) X1 Bd.notSynchronized (jA Bd.returns) (by first | decide | exact nb rfl) (by dsimp only [Pt.cells, Pt.slots]; omega) ?_ (fun fs hr => retOut X1 hx Bd.returns rfl (Or.inr (Or.inr (Or.inr (Or.inr ⟨rfl, rfl, rfl⟩)))) (hb hby d42_7) hr)
 exact ⟨_, _, rfl, N1, K2, o1t, F1v, F1c, F1n, E1t, V1q⟩
abbrev oc43 := jdk_68_method_64_code
theorem d43_0 : decode oc43 0 = .ok (.aload_n 0, 1) := by decide +kernel
theorem d43_1 : decode oc43 1 = .ok (.getfield 15, 3) := by decide +kernel
theorem d43_4 : decode oc43 4 = .ok (.areturn, 1) := by decide +kernel
theorem rm_gvT (l : Launch) (Z : State) (a0 : Array Value) (hw : HW Z a0) (ws : List Jvm.Cond) (b : Addr) (t : Addr) (kb : ClassId) (cs : List Int32) (N : Nat) (h0 : Heap) (n0 : Nat) (Z0 : n0 ≤ h0.size) (O0 : Old Z n0 h0) (E_b : Exa Z h0 b "java/lang/StringBuilder") (F_v : Fld Z h0 b "java/lang/AbstractStringBuilder" "value" "[B" (.ref t)) (F_c : Fld Z h0 b "java/lang/AbstractStringBuilder" "coder" "B" (.int (0 : Int32))) (F_n : Fld Z h0 b "java/lang/AbstractStringBuilder" "count" "I" (.int (oI cs.length))) (E_t : Exa Z h0 t "[B") (V_t : Arv Z h0 t kb .byte (oI N) (jE cs) (.int (0 : Int32))) (hN : N ≤ 10000000) (hcN : cs.length ≤ N) :
  Ctr l Z (⟨"java/lang/AbstractStringBuilder", "getValue", "()[B"⟩ : MethodName) oc43 1 ((Option.some (Jvm.ClassFile.FieldType.array Jvm.ClassFile.FieldType.byte))) ws (⟨0, 0, 0, 0⟩ : Room) #[(.ref b)] h0 (fun v h L => v = some (.ref t) ∧ Fr n0 L ∧ h = h0) := by
 refine Ctr.go (plainFor_of_name pn_484) fun p e s m below meth c s₁ Bd hx hby hml hZ hown hnm X0 e0 => ?_
 have hq := And.intro hx hby
 have N0 := Fr.nil n0
 have K0 := Keep.refl h0 []
 refine gs (S' := s₁.setTop (mkF m 0 #[rv b] [])) (fun tg kg => castTop (ef_27 m b) kg) ?_
 refine gs (fun _ k => jb X0 hq d43_0 rfl rfl k) ?_
 refine gF X0 hx hZ hown (host := "") (Or.inl (ow hw 89 rfl)) Via.refl e0 F_v hby d43_1 fun T1 X1 e1 => ?_
 refine gout (v := some (.ref t)) X1 Bd.notSynchronized (jA Bd.returns) (by decide) (by decide) ?_ (fun fs hr => retOut X1 hx Bd.returns rfl (Or.inr (Or.inr (Or.inr (Or.inr ⟨rfl, rfl, rfl⟩)))) (hb hby d43_4) hr)
 rw [e1]
 exact ⟨rfl, N0, rfl⟩
abbrev oc44 := jdk_68_method_6_code
theorem d44_0 : decode oc44 0 = .ok (.aload_n 0, 1) := by decide +kernel
theorem d44_1 : decode oc44 1 = .ok (.getfield 79, 3) := by decide +kernel
theorem d44_4 : decode oc44 4 = .ok (.ireturn, 1) := by decide +kernel
theorem rm_alT (l : Launch) (Z : State) (a0 : Array Value) (hw : HW Z a0) (ws : List Jvm.Cond) (b : Addr) (t : Addr) (kb : ClassId) (cs : List Int32) (N : Nat) (h0 : Heap) (n0 : Nat) (Z0 : n0 ≤ h0.size) (O0 : Old Z n0 h0) (E_b : Exa Z h0 b "java/lang/StringBuilder") (F_v : Fld Z h0 b "java/lang/AbstractStringBuilder" "value" "[B" (.ref t)) (F_c : Fld Z h0 b "java/lang/AbstractStringBuilder" "coder" "B" (.int (0 : Int32))) (F_n : Fld Z h0 b "java/lang/AbstractStringBuilder" "count" "I" (.int (oI cs.length))) (E_t : Exa Z h0 t "[B") (V_t : Arv Z h0 t kb .byte (oI N) (jE cs) (.int (0 : Int32))) (hN : N ≤ 10000000) (hcN : cs.length ≤ N) :
  Ctr l Z (⟨"java/lang/AbstractStringBuilder", "length", "()I"⟩ : MethodName) oc44 1 ((Option.some Jvm.ClassFile.FieldType.int)) ws (⟨0, 0, 0, 0⟩ : Room) #[(.ref b)] h0 (fun v h L => v = some (.int (oI cs.length)) ∧ Fr n0 L ∧ h = h0) := by
 refine Ctr.go (plainFor_of_name pn_484) fun p e s m below meth c s₁ Bd hx hby hml hZ hown hnm X0 e0 => ?_
 have hq := And.intro hx hby
 have N0 := Fr.nil n0
 have K0 := Keep.refl h0 []
 refine gs (S' := s₁.setTop (mkF m 0 #[rv b] [])) (fun tg kg => castTop (ef_27 m b) kg) ?_
 refine gs (fun _ k => jb X0 hq d44_0 rfl rfl k) ?_
 refine gF X0 hx hZ hown (host := "") (Or.inl (ow hw 105 rfl)) Via.refl e0 F_n hby d44_1 fun T1 X1 e1 => ?_
 refine gout (v := some (.int (oI cs.length))) X1 Bd.notSynchronized (jA Bd.returns) (by decide) (by decide) ?_ (fun fs hr => retI X1 hx Bd.returns (hb hby d44_4) hr)
 rw [e1]
 exact ⟨rfl, N0, rfl⟩
abbrev oc45 := jdk_67_method_93_code
theorem d45_0 : decode oc45 0 = .ok (.aload_n 0, 1) := by decide +kernel
theorem d45_1 : decode oc45 1 = .ok (.invokespecial 343, 3) := by decide +kernel
theorem d45_4 : decode oc45 4 = .ok (.ireturn, 1) := by decide +kernel
theorem rm_slT (l : Launch) (Z : State) (a0 : Array Value) (hw : HW Z a0) (ws : List Jvm.Cond) (b : Addr) (t : Addr) (kb : ClassId) (cs : List Int32) (N : Nat) (h0 : Heap) (n0 : Nat) (Z0 : n0 ≤ h0.size) (O0 : Old Z n0 h0) (E_b : Exa Z h0 b "java/lang/StringBuilder") (F_v : Fld Z h0 b "java/lang/AbstractStringBuilder" "value" "[B" (.ref t)) (F_c : Fld Z h0 b "java/lang/AbstractStringBuilder" "coder" "B" (.int (0 : Int32))) (F_n : Fld Z h0 b "java/lang/AbstractStringBuilder" "count" "I" (.int (oI cs.length))) (E_t : Exa Z h0 t "[B") (V_t : Arv Z h0 t kb .byte (oI N) (jE cs) (.int (0 : Int32))) (hN : N ≤ 10000000) (hcN : cs.length ≤ N) :
  Ctr l Z (⟨"java/lang/StringBuilder", "length", "()I"⟩ : MethodName) oc45 1 ((Option.some Jvm.ClassFile.FieldType.int)) ws (⟨1, 0, 0, 12⟩ : Room) #[(.ref b)] h0 (fun v h L => v = some (.int (oI cs.length)) ∧ Fr n0 L ∧ h = h0) := by
 refine Ctr.go (plainFor_of_name pn_676) fun p e s m below meth c s₁ Bd hx hby hml hZ hown hnm X0 e0 => ?_
 have hq := And.intro hx hby
 have N0 := Fr.nil n0
 have K0 := Keep.refl h0 []
 refine gs (S' := s₁.setTop (mkF m 0 #[rv b] [])) (fun tg kg => castTop (ef_27 m b) kg) ?_
 refine gs (fun _ k => jb X0 hq d45_0 rfl rfl k) ?_
 refine cP (rest := []) X0 hx hZ hown (ow hw 211 rfl) (own_same (ow hw 110 rfl) (ow hw 207 rfl) (by decide) rfl) (ow hw 207 rfl) (ow hw 103 rfl) (ow hw 81 rfl) (ow hw 212 rfl) (rm_alT l Z a0 hw [] b t kb cs N h0 n0 Z0 O0 E_b F_v F_c F_n E_t V_t hN hcN) hby d45_1 e0 pd_644 0 (by rw [hml]; rfl) E_b rfl rfl rfl rfl (by decide) (by decide) fun _ T1 Lc1 X1 hQ1 => ?_
 obtain ⟨rfl, N1q, e1q⟩ := hQ1
 have N1 := Fr.app N0 N1q
 refine gout (v := some (.int (oI cs.length))) X1 Bd.notSynchronized (jA Bd.returns) (by decide) (by decide) ?_ (fun fs hr => retI X1 hx Bd.returns (hb hby d45_4) hr)
 rw [e1q]
 exact ⟨rfl, N1, rfl⟩
abbrev oc46 := jdk_65_method_131_code
theorem d46_0 : decode oc46 0 = .ok (.iload_n 1, 1) := by decide +kernel
theorem d46_1 : decode oc46 1 = .ok (.iload_n 0, 1) := by decide +kernel
theorem d46_2 : decode oc46 2 = .ok (.if_icmp .ge 35, 3) := by decide +kernel
theorem d46_37 : decode oc46 37 = .ok (.return_, 1) := by decide +kernel
theorem rm_clT (l : Launch) (Z : State) (a0 : Array Value) (hw : HW Z a0) (ws : List Jvm.Cond) (cs : List Int32) (h0 : Heap) (n0 : Nat) (Z0 : n0 ≤ h0.size) (O0 : Old Z n0 h0) (hcap : cs.length ≤ 800) :
  Ctr l Z (⟨"java/util/Arrays", "checkLength", "(II)V"⟩ : MethodName) oc46 2 ((Option.none : Option Jvm.ClassFile.FieldType)) ws (⟨0, 0, 0, 0⟩ : Room) #[(.int (0 : Int32)), (.int (oI cs.length))] h0 (fun v h L => v = none ∧ Fr n0 L ∧ h = h0) := by
 refine Ctr.go (plainFor_of_name pn_192) fun p e s m below meth c s₁ Bd hx hby hml hZ hown hnm X0 e0 => ?_
 have hq := And.intro hx hby
 have N0 := Fr.nil n0
 have K0 := Keep.refl h0 []
 refine gs (S' := s₁.setTop (mkF m 0 #[iv (0 : Int32), iv (oI cs.length)] [])) (fun tg kg => castTop (ef_65 m (0 : Int32) (oI cs.length)) kg) ?_
 refine gs (fun _ k => ji X0 hq d46_0 rfl (ji X0 hq d46_1 rfl (jh (pc' := 37) X0 hq d46_2 (flt (jM (by omega))).2.1 k))) ?_
 refine gout (v := none) X0 Bd.notSynchronized (fun _ => rfl) (by decide) (by decide) ?_ (fun fs hr => X0.returnOut hx Bd.returns (hb hby d46_37) hr)
 rw [e0]
 exact ⟨rfl, N0, rfl⟩
theorem d30_9 : decode oc30 9 = .ok (.iload_n 1, 1) := by decide +kernel
theorem rm_m2T (l : Launch) (Z : State) (a0 : Array Value) (hw : HW Z a0) (ws : List Jvm.Cond) (p1 : Int32) (p2 : Int32) (h0 : Heap) (n0 : Nat) (Z0 : n0 ≤ h0.size) (O0 : Old Z n0 h0) (hp : p2 < p1) :
  Ctr l Z my12 oc30 2 ((Option.some Jvm.ClassFile.FieldType.int)) ws (⟨0, 0, 0, 0⟩ : Room) #[(.int p1), (.int p2)] h0 (fun v h L => v = some (.int p2) ∧ Fr n0 L ∧ h = h0) := by
 refine Ctr.go own_pf2 fun p e s m below meth c s₁ Bd hx hby hml hZ hown hnm X0 e0 => ?_
 have hq := And.intro hx hby
 have N0 := Fr.nil n0
 have K0 := Keep.refl h0 []
 refine gs (S' := s₁.setTop (mkF m 0 #[iv p1, iv p2] [])) (fun tg kg => castTop (ef_65 m p1 p2) kg) ?_
 refine gs (fun _ k => ji X0 hq d30_0 rfl (ji X0 hq d30_1 rfl (jh (pc' := 9) X0 hq d30_2 (tlt hp).2.2.1 (ji X0 hq d30_9 rfl k)))) ?_
 refine gout (v := some (.int p2)) X0 Bd.notSynchronized (jA Bd.returns) (by decide) (by decide) ?_ (fun fs hr => retI X0 hx Bd.returns (hb hby d30_10) hr)
 rw [e0]
 exact ⟨rfl, N0, rfl⟩
theorem ef_747 (m : MethodId) (x0 : Addr) (x1 : Int32) (x2 : Int32) : entryFrame m #[(.ref x0), (.int x1), (.int x2)] 5 = mkF m 0 #[.val (.ref x0), .val (.int x1), .val (.int x2), .unset, .unset] [] := by first | (simp [entryFrame, mkF, argsToLocals, Value.category]; done) | rfl
abbrev oc47 := jdk_65_method_133_code
theorem d47_0 : decode oc47 0 = .ok (.iload_n 1, 1) := by decide +kernel
theorem d47_1 : decode oc47 1 = .ok (.iload_n 2, 1) := by decide +kernel
theorem d47_2 : decode oc47 2 = .ok (.invokestatic 343, 3) := by decide +kernel
theorem d47_5 : decode oc47 5 = .ok (.iload_n 2, 1) := by decide +kernel
theorem d47_6 : decode oc47 6 = .ok (.iload_n 1, 1) := by decide +kernel
theorem d47_7 : decode oc47 7 = .ok (.isub, 1) := by decide +kernel
theorem d47_8 : decode oc47 8 = .ok (.istore_n 3, 1) := by decide +kernel
theorem d47_9 : decode oc47 9 = .ok (.iload_n 3, 1) := by decide +kernel
theorem d47_10 : decode oc47 10 = .ok (.newarray .byte, 2) := by decide +kernel
theorem d47_12 : decode oc47 12 = .ok (.astore 4, 2) := by decide +kernel
theorem d47_14 : decode oc47 14 = .ok (.aload_n 0, 1) := by decide +kernel
theorem d47_15 : decode oc47 15 = .ok (.iload_n 1, 1) := by decide +kernel
theorem d47_16 : decode oc47 16 = .ok (.aload 4, 2) := by decide +kernel
theorem d47_18 : decode oc47 18 = .ok (.iconst 0, 1) := by decide +kernel
theorem d47_19 : decode oc47 19 = .ok (.aload_n 0, 1) := by decide +kernel
theorem d47_20 : decode oc47 20 = .ok (.arraylength, 1) := by decide +kernel
theorem d47_21 : decode oc47 21 = .ok (.iload_n 1, 1) := by decide +kernel
theorem d47_22 : decode oc47 22 = .ok (.isub, 1) := by decide +kernel
theorem d47_23 : decode oc47 23 = .ok (.iload_n 3, 1) := by decide +kernel
theorem d47_24 : decode oc47 24 = .ok (.invokestatic 304, 3) := by decide +kernel
theorem d47_27 : decode oc47 27 = .ok (.invokestatic 150, 3) := by decide +kernel
theorem d47_30 : decode oc47 30 = .ok (.aload 4, 2) := by decide +kernel
theorem d47_32 : decode oc47 32 = .ok (.areturn, 1) := by decide +kernel
theorem rm_cbT (l : Launch) (Z : State) (a0 : Array Value) (hw : HW Z a0) (ws : List Jvm.Cond) (t : Addr) (kb : ClassId) (cs : List Int32) (N : Nat) (h0 : Heap) (n0 : Nat) (Z0 : n0 ≤ h0.size) (O0 : Old Z n0 h0) (V_t : Arv Z h0 t kb .byte (oI N) (jE cs) (.int (0 : Int32))) (hN : N ≤ 10000000) (hcN : cs.length ≤ N) (hne : ¬ cs.length = N) (hcap : cs.length ≤ 800) :
  Ctr l Z (⟨"java/util/Arrays", "copyOfRangeByte", "([BII)[B"⟩ : MethodName) oc47 5 ((Option.some (Jvm.ClassFile.FieldType.array Jvm.ClassFile.FieldType.byte))) ws (⟨1, 1, 800, 18⟩ : Room) #[(.ref t), (.int (0 : Int32)), (.int (oI cs.length))] h0 (fun v h L => ∃ (t1 : Addr) (k1 : ClassId), v = some (.ref t1) ∧ Fr n0 L ∧ Keep h0 h [] ∧ h0.size ≤ t1 ∧ Arv Z h t1 k1 .byte (oI cs.length) (jE cs) (.int (0 : Int32))) := by
 refine Ctr.go (plainFor_of_name pn_192) fun p e s m below meth c s₁ Bd hx hby hml hZ hown hnm X0 e0 => ?_
 have hq := And.intro hx hby
 have N0 := Fr.nil n0
 have K0 := Keep.refl h0 []
 refine gs (S' := s₁.setTop (mkF m 0 #[rv t, iv (0 : Int32), iv (oI cs.length), uu, uu] [])) (fun tg kg => castTop (ef_747 m t (0 : Int32) (oI cs.length)) kg) ?_
 refine gs (fun _ k => ji X0 hq d47_0 rfl (ji X0 hq d47_1 rfl k)) ?_
 refine cS (rest := []) X0 hx hZ hown (ow hw 221 rfl) (ow hw 222 rfl) (ow hw 216 rfl) (ow hw 223 rfl) (rm_clT l Z a0 hw [] cs h0 n0 Z0 O0 hcap) hby d47_2 e0 pd_80 0 (by rw [hml]; rfl) rfl rfl rfl rfl (by decide) (by decide) fun _ T1 Lc1 X1 hQ1 => ?_
 obtain ⟨rfl, N1q, e1q⟩ := hQ1
 have N1 := Fr.app N0 N1q
 refine gs (fun _ k => ji X1 hq d47_5 rfl (ji X1 hq d47_6 rfl (o_isub X1 hq d47_7 k))) ?_
 rw [own_sub0]
 refine gs (fun _ k => jT X1 hq d47_8 (jj rfl) (ji X1 hq d47_9 rfl k)) ?_
 obtain ⟨T2, h2, k2, X2, e2, E2, A2, st2⟩ := newP X1 hx hZ (ow hw 19 rfl) e1q (g := (mkF m 10 #[rv t, iv (0 : Int32), iv (oI cs.length), iv (oI cs.length), uu] [(.int (oI cs.length))])) rfl (hb hby d47_10) rfl (jM (by omega)) (cap := 800) (own_nc hcap (by omega)) (by decide) (by decide) (by decide)
 obtain ⟨b2, q2⟩ : ∃ z, z = h0.size := ⟨_, rfl⟩
 rw [← q2] at A2 st2
 have g_b2 : n0 ≤ b2 := nt Z0 (Nat.le_of_eq q2.symm)
 have sz_b2 : h0.size ≤ b2 := nt K0.1 (Nat.le_of_eq q2.symm)
 have Z3 := nt Z0 E2.1
 have O3 := O0.ext E2
 have K3 := K0.ext E2
 have V2 : Arv Z h2 b2 k2 .byte (oI cs.length) [] (.int (0 : Int32)) := Arv.new A2 (jM (by omega))
 refine gs (S' := T2.setTop (mkF m 12 #[rv t, iv (0 : Int32), iv (oI cs.length), iv (oI cs.length), uu] [(.ref b2)])) st2 ?_
 refine gs (fun _ k => jQ X2 hq d47_12 rfl (jj rfl) (jb X2 hq d47_14 rfl rfl (ji X2 hq d47_15 rfl (jy X2 hq d47_16 rfl rfl (jf (v := (0 : Int32)) X2 hq d47_18 (jb X2 hq d47_19 rfl rfl k)))))) ?_
 have f4 := (V_t.ext E2)
 obtain ⟨cl5, A5, a5q, a5S, a5N, a5H, a5G⟩ := id f4
 refine gs (S' := T2.setTop (mkF m 21 #[rv t, iv (0 : Int32), iv (oI cs.length), iv (oI cs.length), rv b2] [(.int (oI N)), (.int (0 : Int32)), (.ref b2), (.int (0 : Int32)), (.ref t)])) (fun _ k => by refine X2.arraylength hx (by rw [e2]; exact A5.1) (State.isArrayOf_alike hZ.alike A5.2.1) (g := (mkF m 20 #[rv t, iv (0 : Int32), iv (oI cs.length), iv (oI cs.length), rv b2] [(.ref t), (.int (0 : Int32)), (.ref b2), (.int (0 : Int32)), (.ref t)])) rfl rfl (hb hby d47_20) _ ?_; rw [len_of a5S a5N]; exact k) ?_
 refine gs (fun _ k => ji X2 hq d47_21 rfl (o_isub X2 hq d47_22 k)) ?_
 rw [own_sub0]
 refine gs (fun _ k => ji X2 hq d47_23 rfl k) ?_
 refine cS (rest := [(.int (0 : Int32)), (.ref b2), (.int (0 : Int32)), (.ref t)]) X2 hx hZ hown (ow hw 224 rfl) (ow hw 225 rfl) (ow hw 226 rfl) (ow hw 227 rfl) (rm_m2T l Z a0 hw [] (oI N) (oI cs.length) h2 n0 Z3 O3 (jX (by omega) (by omega))) hby d47_24 e2 pd_315 4 (by rw [hml]; rfl) rfl rfl rfl rfl (by decide) (by decide) fun _ T6 Lc6 X6 hQ6 => ?_
 obtain ⟨rfl, N6q, e6q⟩ := hQ6
 have N6 := Fr.app N1 N6q
 obtain ⟨T7, h7, L7, X7, e7, N7, K7q, V7, st7⟩ := own_cp X6 hx hZ hown (ow hw 228 rfl) (ow hw 131 rfl) (ow hw 129 rfl) (ow hw 130 rfl) e6q (cs := cs) (ds := []) f4 V2 N cs.length cs.length rfl rfl rfl rfl (by omega) (by omega) (Nat.le_refl _) hcN (Nat.le_of_eq (Nat.zero_add _)) N6 g_b2 (g := (mkF m 27 #[rv t, iv (0 : Int32), iv (oI cs.length), iv (oI cs.length), rv b2] [(.int (oI cs.length)), (.int (0 : Int32)), (.ref b2), (.int (0 : Int32)), (.ref t)])) rfl (by rw [hml]; rfl) rfl (hb hby d47_27) (by decide) (W := 0) (jL rfl) (by decide)
 have Z8 := nt Z3 K7q.1
 have O8 := O3.keep K7q (allS g_b2 all0)
 have K8 := K3.trans K7q (allS (Or.inr sz_b2) all0)
 refine gs (S' := T7.setTop (mkF m 30 #[rv t, iv (0 : Int32), iv (oI cs.length), iv (oI cs.length), rv b2] [])) st7 ?_
 refine gs (fun _ k => jy X7 hq d47_30 rfl rfl k) ?_
 refine gout (v := some (.ref b2)) X7 Bd.notSynchronized (jA Bd.returns) (by decide) (by decide) ?_ (fun fs hr => retOut X7 hx Bd.returns rfl (Or.inr (Or.inr (Or.inr (Or.inr ⟨rfl, rfl, rfl⟩)))) (hb hby d47_32) hr)
 rw [e7]
 exact ⟨_, _, rfl, N7, K8, sz_b2, V7⟩
theorem ef_772 (m : MethodId) (x0 : Addr) (x1 : Int32) (x2 : Int32) : entryFrame m #[(.ref x0), (.int x1), (.int x2)] 3 = mkF m 0 #[.val (.ref x0), .val (.int x1), .val (.int x2)] [] := by first | (simp [entryFrame, mkF, argsToLocals, Value.category]; done) | rfl
abbrev oc48 := jdk_65_method_132_code
theorem d48_0 : decode oc48 0 = .ok (.iload_n 1, 1) := by decide +kernel
theorem d48_1 : decode oc48 1 = .ok (.ifCond .ne 9, 3) := by decide +kernel
theorem d48_4 : decode oc48 4 = .ok (.iload_n 2, 1) := by decide +kernel
theorem d48_5 : decode oc48 5 = .ok (.aload_n 0, 1) := by decide +kernel
theorem d48_6 : decode oc48 6 = .ok (.arraylength, 1) := by decide +kernel
theorem d48_7 : decode oc48 7 = .ok (.if_icmp .eq 10, 3) := by decide +kernel
theorem d48_17 : decode oc48 17 = .ok (.aload_n 0, 1) := by decide +kernel
theorem d48_18 : decode oc48 18 = .ok (.invokevirtual 310, 3) := by decide +kernel
theorem d48_21 : decode oc48 21 = .ok (.checkcast 311, 3) := by decide +kernel
theorem d48_24 : decode oc48 24 = .ok (.areturn, 1) := by decide +kernel
theorem d48_10 : decode oc48 10 = .ok (.aload_n 0, 1) := by decide +kernel
theorem d48_11 : decode oc48 11 = .ok (.iload_n 1, 1) := by decide +kernel
theorem d48_12 : decode oc48 12 = .ok (.iload_n 2, 1) := by decide +kernel
theorem d48_13 : decode oc48 13 = .ok (.invokestatic 339, 3) := by decide +kernel
theorem pd_788 : parseMethodDescriptor "([BII)[B" = some ⟨[(.array .byte), .int, .int], some (.array .byte)⟩ := by decide +kernel
theorem d48_16 : decode oc48 16 = .ok (.areturn, 1) := by decide +kernel
theorem rm_crT (l : Launch) (Z : State) (a0 : Array Value) (hw : HW Z a0) (ws : List Jvm.Cond) (t : Addr) (kb : ClassId) (cs : List Int32) (N : Nat) (h0 : Heap) (n0 : Nat) (Z0 : n0 ≤ h0.size) (O0 : Old Z n0 h0) (E_t : Exa Z h0 t "[B") (V_t : Arv Z h0 t kb .byte (oI N) (jE cs) (.int (0 : Int32))) (hN : N ≤ 10000000) (hcN : cs.length ≤ N) (hcap : cs.length ≤ 800) :
  Ctr l Z (⟨"java/util/Arrays", "copyOfRange", "([BII)[B"⟩ : MethodName) oc48 3 ((Option.some (Jvm.ClassFile.FieldType.array Jvm.ClassFile.FieldType.byte))) ws (⟨2, 1, 800, 34⟩ : Room) #[(.ref t), (.int (0 : Int32)), (.int (oI cs.length))] h0 (fun v h L => ∃ (t1 : Addr) (k1 : ClassId), v = some (.ref t1) ∧ Fr n0 L ∧ Keep h0 h [] ∧ h0.size ≤ t1 ∧ Arv Z h t1 k1 .byte (oI cs.length) (jE cs) (.int (0 : Int32))) := by
 refine Ctr.go (plainFor_of_name pn_192) fun p e s m below meth c s₁ Bd hx hby hml hZ hown hnm X0 e0 => ?_
 have hq := And.intro hx hby
 have N0 := Fr.nil n0
 have K0 := Keep.refl h0 []
 refine gs (S' := s₁.setTop (mkF m 0 #[rv t, iv (0 : Int32), iv (oI cs.length)] [])) (fun tg kg => castTop (ef_772 m t (0 : Int32) (oI cs.length)) kg) ?_
 refine gs (fun _ k => ji X0 hq d48_0 rfl (jG X0 hq d48_1 ((if0 _ _).trans (teq (by decide : (0 : Int32) = (0 : Int32))).2) (ji X0 hq d48_4 rfl (jb X0 hq d48_5 rfl rfl k)))) ?_
 obtain ⟨cl1, A1, a1q, a1S, a1N, a1H, a1G⟩ := id V_t
 refine gs (S' := s₁.setTop (mkF m 7 #[rv t, iv (0 : Int32), iv (oI cs.length)] [(.int (oI N)), (.int (oI cs.length))])) (fun _ k => by refine X0.arraylength hx (by rw [e0]; exact A1.1) (State.isArrayOf_alike hZ.alike A1.2.1) (g := (mkF m 6 #[rv t, iv (0 : Int32), iv (oI cs.length)] [(.ref t), (.int (oI cs.length))])) rfl rfl (hb hby d48_6) _ ?_; rw [len_of a1S a1N]; exact k) ?_
 by_cases hc2 : (oI cs.length) = (oI N)
 ·refine gs (fun _ k => jh (pc' := 17) X0 hq d48_7 (teq hc2).1 (jb X0 hq d48_17 rfl rfl k)) ?_
  obtain ⟨T3, h3, X3, e3, E3, V3, Ex3, st3⟩ := own_cl X0 hx hZ hown (ow hw 335 rfl) (ow hw 336 rfl) (ow hw 340 rfl) (ow hw 338 rfl) (ow hw 339 rfl) (ow hw 341 rfl) e0 V_t E_t (g := (mkF m 18 #[rv t, iv (0 : Int32), iv (oI cs.length)] [(.ref t)])) rfl (by rw [hml]; rfl) rfl (hb hby d48_18) (by decide) (W := 0) (cap := 800) (jL rfl) (by decide) (by rw [← hc2]; exact own_nc hcap (by omega)) (by decide) (by decide)
  obtain ⟨b3, q3⟩ : ∃ z, z = h0.size := ⟨_, rfl⟩
  rw [← q3] at V3 Ex3 st3
  have g_b3 : n0 ≤ b3 := nt Z0 (Nat.le_of_eq q3.symm)
  have sz_b3 : h0.size ≤ b3 := nt K0.1 (Nat.le_of_eq q3.symm)
  have Z4 := nt Z0 E3.1
  have O4 := O0.ext E3
  have K4 := K0.ext E3
  refine gs (S' := T3.setTop (mkF m 21 #[rv t, iv (0 : Int32), iv (oI cs.length)] [(.ref b3)])) st3 ?_
  obtain ⟨T5, X5, e5, st5⟩ := castY X3 hx hZ hown (ow hw 342 rfl) e3 (Ins.self Ex3) (g := (mkF m 21 #[rv t, iv (0 : Int32), iv (oI cs.length)] [(.ref b3)])) rfl rfl (hb hby d48_21)
  refine gs (S' := T5.setTop (mkF m 24 #[rv t, iv (0 : Int32), iv (oI cs.length)] [(.ref b3)])) st5 ?_
  refine gout (v := some (.ref b3)) X5 Bd.notSynchronized (jA Bd.returns) (by decide) (by decide) ?_ (fun fs hr => retOut X5 hx Bd.returns rfl (Or.inr (Or.inr (Or.inr (Or.inr ⟨rfl, rfl, rfl⟩)))) (hb hby d48_24) hr)
  rw [e5]
  exact ⟨_, _, rfl, N0, K4, sz_b3, by rw [hc2]; exact V3⟩
 ·refine gs (fun _ k => jm X0 hq d48_7 (feq hc2).1 (jb X0 hq d48_10 rfl rfl (ji X0 hq d48_11 rfl (ji X0 hq d48_12 rfl k)))) ?_
  refine cS (rest := []) X0 hx hZ hown (ow hw 218 rfl) (ow hw 219 rfl) (ow hw 216 rfl) (ow hw 220 rfl) (rm_cbT l Z a0 hw [] t kb cs N h0 n0 Z0 O0 V_t hN hcN (fun q => hc2 (congrArg oI q)) hcap) hby d48_13 e0 pd_788 0 (by rw [hml]; rfl) rfl rfl rfl rfl (by decide) (by decide) fun _ T6 Lc6 X6 hQ6 => ?_
  obtain ⟨t6, kb6, rfl, N6q, K6q, g6t, V6q⟩ := hQ6
  have N6 := Fr.app N0 N6q
  have g_t6 : n0 ≤ t6 := nt Z0 g6t
  have sz_t6 : h0.size ≤ t6 := nt K0.1 g6t
  have Z7 := nt Z0 K6q.1
  have O7 := O0.keep K6q all0
  have K7 := K0.trans K6q all0
  refine gout (v := some (.ref t6)) X6 Bd.notSynchronized (jA Bd.returns) (by decide) (by decide) ?_ (fun fs hr => retOut X6 hx Bd.returns rfl (Or.inr (Or.inr (Or.inr (Or.inr ⟨rfl, rfl, rfl⟩)))) (hb hby d48_16) hr)
  exact ⟨_, _, rfl, N6, K7, sz_t6, V6q⟩
theorem ef_790 (m : MethodId) (x0 : Addr) (x1 : Addr) : entryFrame m #[(.ref x0), (.ref x1), .null] 5 = mkF m 0 #[.val (.ref x0), .val (.ref x1), .val .null, .unset, .unset] [] := by first | (simp [entryFrame, mkF, argsToLocals, Value.category]; done) | rfl
abbrev oc49 := jdk_42_method_150_code
theorem d49_0 : decode oc49 0 = .ok (.aload_n 0, 1) := by decide +kernel
theorem d49_1 : decode oc49 1 = .ok (.invokespecial 1, 3) := by decide +kernel
theorem d49_4 : decode oc49 4 = .ok (.aload_n 1, 1) := by decide +kernel
theorem d49_5 : decode oc49 5 = .ok (.invokevirtual 552, 3) := by decide +kernel
theorem pd_796 : parseMethodDescriptor "()[B" = some ⟨[], some (.array .byte)⟩ := by decide +kernel
theorem d49_8 : decode oc49 8 = .ok (.astore_n 3, 1) := by decide +kernel
theorem d49_9 : decode oc49 9 = .ok (.aload_n 1, 1) := by decide +kernel
theorem d49_10 : decode oc49 10 = .ok (.invokevirtual 549, 3) := by decide +kernel
theorem d49_13 : decode oc49 13 = .ok (.istore 4, 2) := by decide +kernel
theorem d49_15 : decode oc49 15 = .ok (.aload_n 1, 1) := by decide +kernel
theorem d49_16 : decode oc49 16 = .ok (.invokevirtual 1047, 3) := by decide +kernel
theorem d49_19 : decode oc49 19 = .ok (.ifCond .eq 22, 3) := by decide +kernel
theorem d49_22 : decode oc49 22 = .ok (.aload_n 0, 1) := by decide +kernel
theorem d49_23 : decode oc49 23 = .ok (.iconst 0, 1) := by decide +kernel
theorem d49_24 : decode oc49 24 = .ok (.putfield 15, 3) := by decide +kernel
theorem d49_27 : decode oc49 27 = .ok (.aload_n 0, 1) := by decide +kernel
theorem d49_28 : decode oc49 28 = .ok (.aload_n 3, 1) := by decide +kernel
theorem d49_29 : decode oc49 29 = .ok (.iconst 0, 1) := by decide +kernel
theorem d49_30 : decode oc49 30 = .ok (.iload 4, 2) := by decide +kernel
theorem d49_32 : decode oc49 32 = .ok (.invokestatic 54, 3) := by decide +kernel
theorem d49_35 : decode oc49 35 = .ok (.putfield 9, 3) := by decide +kernel
theorem d49_38 : decode oc49 38 = .ok (.goto 59, 3) := by decide +kernel
theorem d49_97 : decode oc49 97 = .ok (.return_, 1) := by decide +kernel
theorem rm_iaT (l : Launch) (Z : State) (a0 : Array Value) (hw : HW Z a0) (ws : List Jvm.Cond) (a : Addr) (b : Addr) (t : Addr) (kb : ClassId) (cs : List Int32) (N : Nat) (z : Int32) (h0 : Heap) (n0 : Nat) (Z0 : n0 ≤ h0.size) (O0 : Old Z n0 h0) (E_a : Exa Z h0 a "java/lang/String") (F_va : Fld Z h0 a "java/lang/String" "value" "[B" .null) (F_ca : Fld Z h0 a "java/lang/String" "coder" "B" (.int (0 : Int32))) (g_a : n0 ≤ a) (E_b : Exa Z h0 b "java/lang/StringBuilder") (F_v : Fld Z h0 b "java/lang/AbstractStringBuilder" "value" "[B" (.ref t)) (F_c : Fld Z h0 b "java/lang/AbstractStringBuilder" "coder" "B" (.int (0 : Int32))) (F_n : Fld Z h0 b "java/lang/AbstractStringBuilder" "count" "I" (.int (oI cs.length))) (E_t : Exa Z h0 t "[B") (V_t : Arv Z h0 t kb .byte (oI N) (jE cs) (.int (0 : Int32))) (hN : N ≤ 10000000) (hcN : cs.length ≤ N) (S0 : PS0 Z (.int z)) (hz : ¬ z = 0) (hcap : cs.length ≤ 800) :
  Ctr l Z (⟨"java/lang/String", "<init>", "(Ljava/lang/AbstractStringBuilder;Ljava/lang/Void;)V"⟩ : MethodName) oc49 5 ((Option.none : Option Jvm.ClassFile.FieldType)) ws (⟨3, 1, 800, 49⟩ : Room) #[(.ref a), (.ref b), .null] h0 (fun v h L => v = none ∧ Fr n0 L ∧ Keep h0 h [a] ∧ Str Z h a cs) := by
 refine Ctr.go (plainFor_of_name pn_15) fun p e s m below meth c s₁ Bd hx hby hml hZ hown hnm X0 e0 => ?_
 have hq := And.intro hx hby
 have N0 := Fr.nil n0
 have K0 := Keep.refl h0 [a]
 refine gs (S' := s₁.setTop (mkF m 0 #[rv a, rv b, .val .null, uu, uu] [])) (fun tg kg => castTop (ef_790 m a b) kg) ?_
 refine gs (fun _ k => jb X0 hq d49_0 rfl rfl k) ?_
 obtain ⟨T1, X1, e1, st1⟩ := initO X0 hx hZ hown (ow hw 15 rfl) (ow hw 16 rfl) (ow hw 17 rfl) e0 (g := (mkF m 1 #[rv a, rv b, .val .null, uu, uu] [(.ref a)])) rfl (by rw [hml]; rfl) rfl (hb hby d49_1) (by decide) (W := 0) (jL rfl) (by decide)
 refine gs (S' := T1.setTop (mkF m 4 #[rv a, rv b, .val .null, uu, uu] [])) st1 ?_
 refine gs (fun _ k => jb X1 hq d49_4 rfl rfl k) ?_
 refine cV (rest := []) X1 hx hZ hown (ow hw 200 rfl) (ow hw 201 rfl) (nfs hZ (ow hw 203 rfl)) (ow hw 203 rfl) (ow hw 202 rfl) (ow hw 81 rfl) (ow hw 204 rfl) (rm_gvT l Z a0 hw [] b t kb cs N h0 n0 Z0 O0 E_b F_v F_c F_n E_t V_t hN hcN) hby d49_5 e1 pd_796 0 (by rw [hml]; rfl) E_b rfl rfl rfl rfl (by decide) (by decide) fun _ T2 Lc2 X2 hQ2 => ?_
 obtain ⟨rfl, N2q, e2q⟩ := hQ2
 have N2 := Fr.app N0 N2q
 refine gs (fun _ k => jR X2 hq d49_8 rfl (jj rfl) (jb X2 hq d49_9 rfl rfl k)) ?_
 refine cV (rest := []) X2 hx hZ hown (ow hw 205 rfl) (ow hw 206 rfl) (own_nf (a0 := #[]) (mvT hZ (ow hw 110 rfl)) rfl) (ow hw 208 rfl) (ow hw 209 rfl) (ow hw 73 rfl) (ow hw 210 rfl) (rm_slT l Z a0 hw [] b t kb cs N h0 n0 Z0 O0 E_b F_v F_c F_n E_t V_t hN hcN) hby d49_10 e2q pd_644 0 (by rw [hml]; rfl) E_b rfl rfl rfl rfl (by decide) (by decide) fun _ T3 Lc3 X3 hQ3 => ?_
 obtain ⟨rfl, N3q, e3q⟩ := hQ3
 have N3 := Fr.app N2 N3q
 refine gs (fun _ k => je X3 hq d49_13 (jj rfl) (jb X3 hq d49_15 rfl rfl k)) ?_
 refine cV (rest := []) X3 hx hZ hown (ow hw 213 rfl) (ow hw 180 rfl) (nfs hZ (ow hw 182 rfl)) (ow hw 182 rfl) (ow hw 181 rfl) (ow hw 81 rfl) (ow hw 183 rfl) (rm_ilX l Z a0 hw [] b z h0 n0 Z0 O0 E_b F_c S0 hz) hby d49_16 e3q pd_93 0 (by rw [hml]; rfl) E_b rfl rfl rfl rfl (by decide) (by decide) fun _ T4 Lc4 X4 hQ4 => ?_
 obtain ⟨rfl, N4q, e4q⟩ := hQ4
 have N4 := Fr.app N3 N4q
 refine gs (fun _ k => jG X4 hq d49_19 ((if0 _ _).trans (feq (by decide : ¬ ((1 : Int32) = (0 : Int32)))).1) (jb X4 hq d49_22 rfl rfl (jf (v := (0 : Int32)) X4 hq d49_23 k))) ?_
 obtain ⟨T5, h5, X5, e5, W5, st5⟩ := putFN X4 hx hZ hown (ow hw 25 rfl) Via.refl e4q F_ca E_a (Or.inr ⟨(ow hw 21 rfl), rfl, hnm⟩) (ow hw 6 rfl) (ty := .byte) (v' := (.int (0 : Int32))) (by decide) rfl rfl (g := (mkF m 24 #[rv a, rv b, .val .null, rv t, iv (oI cs.length)] [(.int (0 : Int32)), (.ref a)])) rfl rfl (hb hby d49_24)
 have N5 := Fr.snoc X5 N4 g_a
 have Fw5 := F_ca.same W5
 have Z6 := nt Z0 (Keep.of_wr W5).1
 have O6 := O0.wr W5 g_a
 have K6 := K0.wr W5 (Or.inl (List.mem_of_getElem? (i := 0) rfl))
 refine gs (S' := T5.setTop (mkF m 27 #[rv a, rv b, .val .null, rv t, iv (oI cs.length)] [])) st5 ?_
 refine gs (fun _ k => jb X5 hq d49_27 rfl rfl (jb X5 hq d49_28 rfl rfl (jf (v := (0 : Int32)) X5 hq d49_29 (ja X5 hq d49_30 rfl k)))) ?_
 have f7 := (E_t.wr W5)
 have f8 := (V_t.other W5 (Ne.symm (Exa.ne E_a E_t (by decide))))
 refine cS (rest := [(.ref a)]) X5 hx hZ hown (ow hw 214 rfl) (ow hw 215 rfl) (ow hw 216 rfl) (ow hw 217 rfl) (rm_crT l Z a0 hw [] t kb cs N h5 n0 Z6 O6 f7 f8 hN hcN hcap) hby d49_32 e5 pd_788 1 (by rw [hml]; rfl) rfl rfl rfl rfl (by decide) (by decide) fun _ T9 Lc9 X9 hQ9 => ?_
 obtain ⟨t9, kb9, rfl, N9q, K9q, g9t, V9q⟩ := hQ9
 have N9 := Fr.app N5 N9q
 have g_t9 : n0 ≤ t9 := nt Z6 g9t
 have sz_t9 : h0.size ≤ t9 := nt K6.1 g9t
 have Z10 := nt Z6 K9q.1
 have O10 := O6.keep K9q all0
 have K10 := K6.trans K9q all0
 have f11 := ((F_va.other W5 (Or.inr (slot_ne (Or.inr (ow hw 20 rfl)) (Or.inr (ow hw 21 rfl)) (by decide) (t := (.array .byte)) (t' := .byte) (by decide) (by decide)))).keep K9q nin0)
 have f12 := ((E_a.wr W5).keep K9q)
 obtain ⟨T13, h13, X13, e13, W13, st13⟩ := putF X9 hx hZ hown (host := "") (Or.inl (ow hw 24 rfl)) Via.refl rfl f11 f12 (Or.inr ⟨(ow hw 20 rfl), rfl, hnm⟩) (ow hw 6 rfl) (ty := (.array .byte)) (by decide) rfl rfl (g := (mkF m 35 #[rv a, rv b, .val .null, rv t, iv (oI cs.length)] [(.ref t9), (.ref a)])) rfl rfl (hb hby d49_35)
 have N13 := Fr.snoc X13 N9 g_a
 have Fw13 := f11.same W13
 have Z14 := nt Z10 (Keep.of_wr W13).1
 have O14 := O10.wr W13 g_a
 have K14 := K10.wr W13 (Or.inl (List.mem_of_getElem? (i := 0) rfl))
 refine gs (S' := T13.setTop (mkF m 38 #[rv a, rv b, .val .null, rv t, iv (oI cs.length)] [])) st13 ?_
 refine gs (fun _ k => jp (pc' := 97) X13 hq d49_38 k) ?_
 have f15 := (f12.wr W13)
 have f16 := ((Fw5.keep K9q nin0).other W13 (Or.inr (slot_ne (Or.inr (ow hw 21 rfl)) (Or.inr (ow hw 20 rfl)) (by decide) (t := .byte) (t' := (.array .byte)) (by decide) (by decide))))
 have f17 := (V9q.other W13 (Ne.symm (nw (nu (nu E_a.lt (Keep.of_wr W5).1) g9t))))
 refine gout (v := none) X13 Bd.notSynchronized (fun _ => rfl) (by decide) (by decide) ?_ (fun fs hr => X13.returnOut hx Bd.returns (hb hby d49_97) hr)
 rw [e13]
 exact ⟨rfl, N13, K14, _, _, f15, f16, Fw13, f17⟩
abbrev oc50 := jdk_42_method_53_code
theorem d50_0 : decode oc50 0 = .ok (.aload_n 0, 1) := by decide +kernel
theorem d50_1 : decode oc50 1 = .ok (.aload_n 1, 1) := by decide +kernel
theorem d50_2 : decode oc50 2 = .ok (.aconst_null, 1) := by decide +kernel
theorem d50_3 : decode oc50 3 = .ok (.invokespecial 489, 3) := by decide +kernel
theorem pd_821 : parseMethodDescriptor "(Ljava/lang/AbstractStringBuilder;Ljava/lang/Void;)V" = some ⟨[(.object "java/lang/AbstractStringBuilder"), (.object "java/lang/Void")], none⟩ := by decide +kernel
theorem d50_6 : decode oc50 6 = .ok (.return_, 1) := by decide +kernel
theorem rm_isT (l : Launch) (Z : State) (a0 : Array Value) (hw : HW Z a0) (ws : List Jvm.Cond) (a : Addr) (b : Addr) (t : Addr) (kb : ClassId) (cs : List Int32) (N : Nat) (z : Int32) (h0 : Heap) (n0 : Nat) (Z0 : n0 ≤ h0.size) (O0 : Old Z n0 h0) (E_a : Exa Z h0 a "java/lang/String") (F_va : Fld Z h0 a "java/lang/String" "value" "[B" .null) (F_ca : Fld Z h0 a "java/lang/String" "coder" "B" (.int (0 : Int32))) (g_a : n0 ≤ a) (E_b : Exa Z h0 b "java/lang/StringBuilder") (F_v : Fld Z h0 b "java/lang/AbstractStringBuilder" "value" "[B" (.ref t)) (F_c : Fld Z h0 b "java/lang/AbstractStringBuilder" "coder" "B" (.int (0 : Int32))) (F_n : Fld Z h0 b "java/lang/AbstractStringBuilder" "count" "I" (.int (oI cs.length))) (E_t : Exa Z h0 t "[B") (V_t : Arv Z h0 t kb .byte (oI N) (jE cs) (.int (0 : Int32))) (hN : N ≤ 10000000) (hcN : cs.length ≤ N) (S0 : PS0 Z (.int z)) (hz : ¬ z = 0) (hcap : cs.length ≤ 800) :
  Ctr l Z (⟨"java/lang/String", "<init>", "(Ljava/lang/StringBuilder;)V"⟩ : MethodName) oc50 2 ((Option.none : Option Jvm.ClassFile.FieldType)) ws (⟨4, 1, 800, 65⟩ : Room) #[(.ref a), (.ref b)] h0 (fun v h L => v = none ∧ Fr n0 L ∧ Keep h0 h [a] ∧ Str Z h a cs) := by
 refine Ctr.go (plainFor_of_name pn_15) fun p e s m below meth c s₁ Bd hx hby hml hZ hown hnm X0 e0 => ?_
 have hq := And.intro hx hby
 have N0 := Fr.nil n0
 have K0 := Keep.refl h0 [a]
 refine gs (S' := s₁.setTop (mkF m 0 #[rv a, rv b] [])) (fun tg kg => castTop (ef_16 m a b) kg) ?_
 refine gs (fun _ k => jb X0 hq d50_0 rfl rfl (jb X0 hq d50_1 rfl rfl (o_aconstNull X0 hq d50_2 k))) ?_
 refine cI (rest := []) X0 hx hZ hown rfl (ow hw 197 rfl) (ow hw 198 rfl) (ow hw 7 rfl) (ow hw 199 rfl) (rm_iaT l Z a0 hw [] a b t kb cs N z h0 n0 Z0 O0 E_a F_va F_ca g_a E_b F_v F_c F_n E_t V_t hN hcN S0 hz hcap) hby d50_3 e0 pd_821 0 (by rw [hml]; rfl) rfl rfl rfl rfl (by decide) (by decide) fun _ T1 Lc1 X1 hQ1 => ?_
 obtain ⟨rfl, N1q, K1q, T1q⟩ := hQ1
 have N1 := Fr.app N0 N1q
 have Z2 := nt Z0 K1q.1
 have O2 := O0.keep K1q (allS g_a all0)
 have K2 := K0.trans K1q (allS (Or.inl (List.mem_of_getElem? (i := 0) rfl)) all0)
 refine gout (v := none) X1 Bd.notSynchronized (fun _ => rfl) (by decide) (by decide) ?_ (fun fs hr => X1.returnOut hx Bd.returns (hb hby d50_6) hr)
 exact ⟨rfl, N1, K2, T1q⟩
abbrev oc51 := jdk_67_method_42_code
theorem d51_0 : decode oc51 0 = .ok (.new 18, 3) := by decide +kernel
theorem d51_3 : decode oc51 3 = .ok (.dup, 1) := by decide +kernel
theorem d51_4 : decode oc51 4 = .ok (.aload_n 0, 1) := by decide +kernel
theorem d51_5 : decode oc51 5 = .ok (.invokespecial 137, 3) := by decide +kernel
theorem pd_829 : parseMethodDescriptor "(Ljava/lang/StringBuilder;)V" = some ⟨[(.object "java/lang/StringBuilder")], none⟩ := by decide +kernel
theorem d51_8 : decode oc51 8 = .ok (.areturn, 1) := by decide +kernel
theorem rm_tsT (l : Launch) (Z : State) (a0 : Array Value) (hw : HW Z a0) (ws : List Jvm.Cond) (b : Addr) (t : Addr) (kb : ClassId) (cs : List Int32) (N : Nat) (z : Int32) (h0 : Heap) (n0 : Nat) (Z0 : n0 ≤ h0.size) (O0 : Old Z n0 h0) (E_b : Exa Z h0 b "java/lang/StringBuilder") (F_v : Fld Z h0 b "java/lang/AbstractStringBuilder" "value" "[B" (.ref t)) (F_c : Fld Z h0 b "java/lang/AbstractStringBuilder" "coder" "B" (.int (0 : Int32))) (F_n : Fld Z h0 b "java/lang/AbstractStringBuilder" "count" "I" (.int (oI cs.length))) (E_t : Exa Z h0 t "[B") (V_t : Arv Z h0 t kb .byte (oI N) (jE cs) (.int (0 : Int32))) (hN : N ≤ 10000000) (hcN : cs.length ≤ N) (S0 : PS0 Z (.int z)) (hz : ¬ z = 0) (hcap : cs.length ≤ 800) :
  Ctr l Z (⟨"java/lang/StringBuilder", "toString", "()Ljava/lang/String;"⟩ : MethodName) oc51 1 ((Option.some (Jvm.ClassFile.FieldType.object "java/lang/String"))) ws (⟨5, 2, 804, 79⟩ : Room) #[(.ref b)] h0 (fun v h L => ∃ a : Addr, v = some (.ref a) ∧ Fr n0 L ∧ Keep h0 h [] ∧ Str Z h a cs) := by
 refine Ctr.go (plainFor_of_name pn_676) fun p e s m below meth c s₁ Bd hx hby hml hZ hown hnm X0 e0 => ?_
 have hq := And.intro hx hby
 have N0 := Fr.nil n0
 have K0 := Keep.refl h0 []
 refine gs (S' := s₁.setTop (mkF m 0 #[rv b] [])) (fun tg kg => castTop (ef_27 m b) kg) ?_
 obtain ⟨T1, h1, X1, e1, E1, A1, D1, -, st1⟩ := newO X0 hx hZ hown (ow hw 193 rfl) (ow hw 6 rfl) (ow hw 7 rfl) e0 (g := (mkF m 0 #[rv b] [])) rfl (hb hby d51_0) (by decide) (by decide)
 obtain ⟨b1, q1⟩ : ∃ z, z = h0.size := ⟨_, rfl⟩
 rw [← q1] at A1 D1 st1
 have g_b1 : n0 ≤ b1 := nt Z0 (Nat.le_of_eq q1.symm)
 have sz_b1 : h0.size ≤ b1 := nt K0.1 (Nat.le_of_eq q1.symm)
 have Z2 := nt Z0 E1.1
 have O2 := O0.ext E1
 have K2 := K0.ext E1
 have F_value_b1 : Fld Z h1 b1 "java/lang/String" "value" "[B" .null := D1 (Or.inr (ow hw 20 rfl)) (ty := (.array .byte)) (by decide)
 have F_coder_b1 : Fld Z h1 b1 "java/lang/String" "coder" "B" (.int (0 : Int32)) := D1 (Or.inr (ow hw 21 rfl)) (ty := .byte) (by decide)
 refine gs (S' := T1.setTop (mkF m 3 #[rv b] [(.ref b1)])) st1 ?_
 refine gs (fun _ k => jad X1 hq d51_3 rfl (jb X1 hq d51_4 rfl rfl k)) ?_
 have f3 := (E_b.ext E1)
 have f4 := (F_v.ext E1)
 have f5 := (F_c.ext E1)
 have f6 := (F_n.ext E1)
 have f7 := (E_t.ext E1)
 have f8 := (V_t.ext E1)
 refine cI (rest := [(.ref b1)]) X1 hx hZ hown rfl (ow hw 194 rfl) (ow hw 195 rfl) (ow hw 7 rfl) (ow hw 196 rfl) (rm_isT l Z a0 hw [] b1 b t kb cs N z h1 n0 Z2 O2 A1 F_value_b1 F_coder_b1 g_b1 f3 f4 f5 f6 f7 f8 hN hcN S0 hz hcap) hby d51_5 e1 pd_829 1 (by rw [hml]; rfl) rfl rfl rfl rfl (by decide) (by decide) fun _ T9 Lc9 X9 hQ9 => ?_
 obtain ⟨rfl, N9q, K9q, T9q⟩ := hQ9
 have N9 := Fr.app N0 N9q
 have Z10 := nt Z2 K9q.1
 have O10 := O2.keep K9q (allS g_b1 all0)
 have K10 := K2.trans K9q (allS (Or.inr sz_b1) all0)
 refine gout (v := some (.ref b1)) X9 Bd.notSynchronized (jA Bd.returns) (by decide) (by decide) ?_ (fun fs hr => retOut X9 hx Bd.returns rfl (Or.inr (Or.inr (Or.inr (Or.inr ⟨rfl, rfl, rfl⟩)))) (hb hby d51_8) hr)
 exact ⟨_, rfl, N9, K10, T9q⟩
abbrev oc52 := jdk_67_method_80_code
theorem d52_0 : decode oc52 0 = .ok (.aload_n 0, 1) := by decide +kernel
theorem d52_1 : decode oc52 1 = .ok (.aload_n 1, 1) := by decide +kernel
theorem d52_2 : decode oc52 2 = .ok (.invokevirtual 23, 3) := by decide +kernel
theorem pd_836 : parseMethodDescriptor "(Ljava/lang/String;)Ljava/lang/StringBuilder;" = some ⟨[(.object "java/lang/String")], some (.object "java/lang/StringBuilder")⟩ := by decide +kernel
theorem d52_5 : decode oc52 5 = .ok (.areturn, 1) := by decide +kernel
theorem rm_brX (l : Launch) (Z : State) (a0 : Array Value) (hw : HW Z a0) (ws : List Jvm.Cond) (b : Addr) (t : Addr) (kb : ClassId) (cs : List Int32) (N : Nat) (x : Addr) (ds : List Int32) (z : Int32) (sl : Nat) (h0 : Heap) (n0 : Nat) (Z0 : n0 ≤ h0.size) (O0 : Old Z n0 h0) (E_b : Exa Z h0 b "java/lang/StringBuilder") (F_v : Fld Z h0 b "java/lang/AbstractStringBuilder" "value" "[B" (.ref t)) (F_c : Fld Z h0 b "java/lang/AbstractStringBuilder" "coder" "B" (.int (0 : Int32))) (F_n : Fld Z h0 b "java/lang/AbstractStringBuilder" "count" "I" (.int (oI cs.length))) (E_t : Exa Z h0 t "[B") (V_t : Arv Z h0 t kb .byte (oI N) (jE cs) (.int (0 : Int32))) (hN : N ≤ 1000000) (hcN : cs.length ≤ N) (g_b : n0 ≤ b) (g_t : n0 ≤ t) (S0 : PS0 Z (.int z)) (hz : ¬ z = 0) (T_x : Str Z h0 x ds) (hbx : ∀ c ∈ ds, ¬ c < 0 ∧ ¬ (255 : Int32) < c) (l2x : ds.length ≤ 4000) (hKb : (cs.length + ds.length) ≤ 1000000) (hsl : jS N (cs.length + ds.length) ≤ sl) (hs8 : sl * 8 ≤ 536870912) :
  Ctr l Z (⟨"java/lang/StringBuilder", "append", "(Ljava/lang/String;)Ljava/lang/AbstractStringBuilder;"⟩ : MethodName) oc52 2 ((Option.some (Jvm.ClassFile.FieldType.object "java/lang/AbstractStringBuilder"))) ws (⟨6, 1, sl, 89⟩ : Room) #[(.ref b), (.ref x)] h0 (fun v h L => ∃ (t1 : Addr) (k1 : ClassId), v = some (.ref b) ∧ Fr n0 L ∧ Keep h0 h [b, t] ∧ (t1 = t ∨ h0.size ≤ t1) ∧ Fld Z h b "java/lang/AbstractStringBuilder" "value" "[B" (.ref t1) ∧ Fld Z h b "java/lang/AbstractStringBuilder" "coder" "B" (.int (0 : Int32)) ∧ Fld Z h b "java/lang/AbstractStringBuilder" "count" "I" (.int (oI (cs ++ ds).length)) ∧ Exa Z h t1 "[B" ∧ Arv Z h t1 k1 .byte (oI (jw N (cs.length + ds.length))) (jE (cs ++ ds)) (.int (0 : Int32))) := by
 refine Ctr.go (plainFor_of_name pn_676) fun p e s m below meth c s₁ Bd hx hby hml hZ hown hnm X0 e0 => ?_
 have hq := And.intro hx hby
 have N0 := Fr.nil n0
 have K0 := Keep.refl h0 [b, t]
 refine gs (S' := s₁.setTop (mkF m 0 #[rv b, rv x] [])) (fun tg kg => castTop (ef_16 m b x) kg) ?_
 refine gs (fun _ k => jb X0 hq d52_0 rfl rfl (jb X0 hq d52_1 rfl rfl k)) ?_
 refine cV (rest := []) X0 hx hZ hown (ow hw 97 rfl) (ow hw 98 rfl) (nfs hZ (ow hw 100 rfl)) (ow hw 100 rfl) (ow hw 99 rfl) (ow hw 73 rfl) (ow hw 101 rfl) (rm_saX l Z a0 hw [] b t kb cs N x ds z sl h0 n0 Z0 O0 E_b F_v F_c F_n E_t V_t hN hcN g_b g_t S0 hz T_x hbx l2x hKb hsl hs8) hby d52_2 e0 pd_836 0 (by rw [hml]; rfl) E_b rfl rfl rfl rfl ⟨by decide, nb rfl, nb rfl, nb rfl⟩ (by dsimp only; omega) fun _ T1 Lc1 X1 hQ1 => ?_
 obtain ⟨t1, kb1, rfl, N1q, K1q, o1t, F1v, F1c, F1n, E1t, V1q⟩ := hQ1
 have N1 := Fr.app N0 N1q
 have Z2 := nt Z0 K1q.1
 have O2 := O0.keep K1q (allS g_b (allS g_t all0))
 have K2 := K0.trans K1q (allS (Or.inl (List.mem_of_getElem? (i := 0) rfl)) (allS (Or.inl (List.mem_of_getElem? (i := 1) rfl)) all0))
 refine gout (v := some (.ref b)) X1 Bd.notSynchronized (jA Bd.returns) (by first | decide | exact nb rfl) (by dsimp only [Pt.cells, Pt.slots]; omega) ?_ (fun fs hr => retOut X1 hx Bd.returns rfl (Or.inr (Or.inr (Or.inr (Or.inr ⟨rfl, rfl, rfl⟩)))) (hb hby d52_5) hr)
 exact ⟨_, _, rfl, N1, K2, o1t, F1v, F1c, F1n, E1t, V1q⟩
theorem ef_838 (m : MethodId) (x0 : Addr) (x1 : Addr) : entryFrame m #[(.ref x0), (.ref x1)] 5 = mkF m 0 #[.val (.ref x0), .val (.ref x1), .unset, .unset, .unset] [] := by first | (simp [entryFrame, mkF, argsToLocals, Value.category]; done) | rfl
abbrev oc53 := jdk_68_method_3_code
theorem d53_0 : decode oc53 0 = .ok (.aload_n 0, 1) := by decide +kernel
theorem d53_1 : decode oc53 1 = .ok (.invokespecial 3, 3) := by decide +kernel
theorem d53_4 : decode oc53 4 = .ok (.aload_n 1, 1) := by decide +kernel
theorem d53_5 : decode oc53 5 = .ok (.invokevirtual 32, 3) := by decide +kernel
theorem d53_8 : decode oc53 8 = .ok (.istore_n 2, 1) := by decide +kernel
theorem d53_9 : decode oc53 9 = .ok (.iload_n 2, 1) := by decide +kernel
theorem d53_10 : decode oc53 10 = .ok (.ldc 38, 2) := by decide +kernel
theorem d53_12 : decode oc53 12 = .ok (.if_icmp .ge 10, 3) := by decide +kernel
theorem d53_15 : decode oc53 15 = .ok (.iload_n 2, 1) := by decide +kernel
theorem d53_16 : decode oc53 16 = .ok (.bipush 16, 2) := by decide +kernel
theorem d53_18 : decode oc53 18 = .ok (.iadd, 1) := by decide +kernel
theorem d53_19 : decode oc53 19 = .ok (.goto 5, 3) := by decide +kernel
theorem d53_24 : decode oc53 24 = .ok (.istore_n 3, 1) := by decide +kernel
theorem d53_25 : decode oc53 25 = .ok (.aload_n 1, 1) := by decide +kernel
theorem d53_26 : decode oc53 26 = .ok (.invokevirtual 40, 3) := by decide +kernel
theorem d53_29 : decode oc53 29 = .ok (.istore 4, 2) := by decide +kernel
theorem d53_31 : decode oc53 31 = .ok (.aload_n 0, 1) := by decide +kernel
theorem d53_32 : decode oc53 32 = .ok (.iload 4, 2) := by decide +kernel
theorem d53_34 : decode oc53 34 = .ok (.putfield 22, 3) := by decide +kernel
theorem d53_37 : decode oc53 37 = .ok (.aload_n 0, 1) := by decide +kernel
theorem d53_38 : decode oc53 38 = .ok (.iload 4, 2) := by decide +kernel
theorem d53_40 : decode oc53 40 = .ok (.ifCond .ne 9, 3) := by decide +kernel
theorem d53_43 : decode oc53 43 = .ok (.iload_n 3, 1) := by decide +kernel
theorem d53_44 : decode oc53 44 = .ok (.newarray .byte, 2) := by decide +kernel
theorem d53_46 : decode oc53 46 = .ok (.goto 7, 3) := by decide +kernel
theorem d53_53 : decode oc53 53 = .ok (.putfield 15, 3) := by decide +kernel
theorem d53_56 : decode oc53 56 = .ok (.aload_n 0, 1) := by decide +kernel
theorem d53_57 : decode oc53 57 = .ok (.aload_n 1, 1) := by decide +kernel
theorem d53_58 : decode oc53 58 = .ok (.invokevirtual 43, 3) := by decide +kernel
theorem d53_61 : decode oc53 61 = .ok (.pop, 1) := by decide +kernel
theorem d53_62 : decode oc53 62 = .ok (.return_, 1) := by decide +kernel
theorem rm_asbI (l : Launch) (Z : State) (a0 : Array Value) (hw : HW Z a0) (ws : List Jvm.Cond) (b : Addr) (x : Addr) (ds : List Int32) (z : Int32) (h0 : Heap) (n0 : Nat) (Z0 : n0 ≤ h0.size) (O0 : Old Z n0 h0) (E_b : Exa Z h0 b "java/lang/StringBuilder") (F_v : Fld Z h0 b "java/lang/AbstractStringBuilder" "value" "[B" .null) (F_c : Fld Z h0 b "java/lang/AbstractStringBuilder" "coder" "B" (.int (0 : Int32))) (F_n : Fld Z h0 b "java/lang/AbstractStringBuilder" "count" "I" (.int (0 : Int32))) (g_b : n0 ≤ b) (S0 : PS0 Z (.int z)) (hz : ¬ z = 0) (T_x : Str Z h0 x ds) (hbx : ∀ c ∈ ds, ¬ c < 0 ∧ ¬ (255 : Int32) < c) (l2x : ds.length ≤ 4000) (hcap : ds.length + 16 ≤ 143) :
  Ctr l Z (⟨"java/lang/AbstractStringBuilder", "<init>", "(Ljava/lang/String;)V"⟩ : MethodName) oc53 5 ((Option.none : Option Jvm.ClassFile.FieldType)) ws (⟨7, 2, 143, 102⟩ : Room) #[(.ref b), (.ref x)] h0 (fun v h L => ∃ (t : Addr) (kb : ClassId), v = none ∧ Fr n0 L ∧ Keep h0 h [b] ∧ h0.size ≤ t ∧ Fld Z h b "java/lang/AbstractStringBuilder" "value" "[B" (.ref t) ∧ Fld Z h b "java/lang/AbstractStringBuilder" "coder" "B" (.int (0 : Int32)) ∧ Fld Z h b "java/lang/AbstractStringBuilder" "count" "I" (.int (oI ds.length)) ∧ Exa Z h t "[B" ∧ Arv Z h t kb .byte (oI (ds.length + 16)) (jE ds) (.int (0 : Int32))) := by
 refine Ctr.go (plainFor_of_name pn_484) fun p e s m below meth c s₁ Bd hx hby hml hZ hown hnm X0 e0 => ?_
 have hq := And.intro hx hby
 have N0 := Fr.nil n0
 have K0 := Keep.refl h0 [b]
 refine gs (S' := s₁.setTop (mkF m 0 #[rv b, rv x, uu, uu, uu] [])) (fun tg kg => castTop (ef_838 m b x) kg) ?_
 refine gs (fun _ k => jb X0 hq d53_0 rfl rfl k) ?_
 obtain ⟨T1, X1, e1, st1⟩ := initO X0 hx hZ hown (ow hw 83 rfl) (ow hw 16 rfl) (ow hw 17 rfl) e0 (g := (mkF m 1 #[rv b, rv x, uu, uu, uu] [(.ref b)])) rfl (by rw [hml]; rfl) rfl (hb hby d53_1) (by first | decide | exact nb rfl) (W := 0) (jL rfl) (by first | decide | exact nb rfl)
 refine gs (S' := T1.setTop (mkF m 4 #[rv b, rv x, uu, uu, uu] [])) st1 ?_
 refine gs (fun _ k => jb X1 hq d53_4 rfl rfl k) ?_
 refine cV (rest := []) X1 hx hZ hown (ow hw 84 rfl) (ow hw 56 rfl) (nfs hZ (ow hw 58 rfl)) (ow hw 58 rfl) (ow hw 57 rfl) (ow hw 7 rfl) (ow hw 59 rfl) (rm_lenL l Z a0 hw [] x ds z h0 n0 Z0 O0 T_x S0 hz) hby d53_5 e1 pd_644 0 (by rw [hml]; rfl) T_x.exa rfl rfl rfl rfl ⟨by decide, nb rfl, nb rfl, nb rfl⟩ (by dsimp only; omega) fun _ T2 Lc2 X2 hQ2 => ?_
 obtain ⟨rfl, N2q, e2q⟩ := hQ2
 have N2 := Fr.app N0 N2q
 refine gs (fun _ k => jT X2 hq d53_8 (jj rfl) (ji X2 hq d53_9 rfl (jac X2 hq hown (mvT hZ (ow hw 85 rfl)) d53_10 (jm X2 hq d53_12 (tlt (by have q := jH (k := ds.length) (by omega); have e : (2147483631 : Int32).toInt = 2147483631 := (by first | decide | exact nb rfl); rw [Int32.lt_iff_toInt_lt]; omega)).2.1 (ji X2 hq d53_15 rfl (jz (v := (16 : Int32)) X2 hq d53_16 (jt X2 hq d53_18 (jp (pc' := 24) X2 hq d53_19 k)))))))) ?_
 rw [own_e16]
 refine gs (fun _ k => jT X2 hq d53_24 (jj rfl) (jb X2 hq d53_25 rfl rfl k)) ?_
 refine cV (rest := []) X2 hx hZ hown (ow hw 86 rfl) (ow hw 61 rfl) (nfs hZ (ow hw 63 rfl)) (ow hw 63 rfl) (ow hw 62 rfl) (ow hw 7 rfl) (ow hw 64 rfl) (rm_coder0 l Z a0 hw [] x ds z h0 n0 Z0 O0 S0 hz T_x) hby d53_26 e2q pd_52 0 (by rw [hml]; rfl) T_x.exa rfl rfl rfl rfl ⟨by decide, nb rfl, nb rfl, nb rfl⟩ (by dsimp only; omega) fun _ T3 Lc3 X3 hQ3 => ?_
 obtain ⟨rfl, N3q, e3q⟩ := hQ3
 have N3 := Fr.app N2 N3q
 refine gs (fun _ k => je X3 hq d53_29 (jj rfl) (jb X3 hq d53_31 rfl rfl (ja X3 hq d53_32 rfl k))) ?_
 obtain ⟨T4, h4, X4, e4, W4, st4⟩ := putFN X3 hx hZ hown (ow hw 87 rfl) Via.refl e3q F_c E_b (Or.inl (ow hw 88 rfl)) (ow hw 72 rfl) (ty := .byte) (v' := (.int (0 : Int32))) (by first | decide | exact nb rfl) rfl rfl (g := (mkF m 34 #[rv b, rv x, iv (oI ds.length), iv ((oI (ds.length + 16))), iv (0 : Int32)] [(.int (0 : Int32)), (.ref b)])) rfl rfl (hb hby d53_34)
 have N4 := Fr.snoc X4 N3 g_b
 have Fw4 := F_c.same W4
 have Z5 := nt Z0 (Keep.of_wr W4).1
 have O5 := O0.wr W4 g_b
 have K5 := K0.wr W4 (Or.inl (List.mem_of_getElem? (i := 0) rfl))
 refine gs (S' := T4.setTop (mkF m 37 #[rv b, rv x, iv (oI ds.length), iv ((oI (ds.length + 16))), iv (0 : Int32)] [])) st4 ?_
 refine gs (fun _ k => jb X4 hq d53_37 rfl rfl (ja X4 hq d53_38 rfl (jG X4 hq d53_40 ((if0 _ _).trans (teq (show (0 : Int32) = (0 : Int32) from by first | decide | exact nb rfl)).2) (ji X4 hq d53_43 rfl k)))) ?_
 obtain ⟨T6, h6, k6, X6, e6, E6, A6, Ex6, st6⟩ := newPE X4 hx hZ (ow hw 19 rfl) e4 (g := (mkF m 44 #[rv b, rv x, iv (oI ds.length), iv ((oI (ds.length + 16))), iv (0 : Int32)] [(.int (oI (ds.length + 16))), (.ref b)])) rfl (hb hby d53_44) rfl (jM (by omega)) (cap := 143) (own_nc hcap (by omega)) (by first | decide | exact nb rfl) (by first | decide | exact nb rfl) (by dsimp only [Pt.cells, Pt.slots]; omega) (ad := "[B") rfl
 obtain ⟨b6, q6⟩ : ∃ z, z = h4.size := ⟨_, rfl⟩
 rw [← q6] at A6 st6 Ex6
 have g_b6 : n0 ≤ b6 := nt Z5 (Nat.le_of_eq q6.symm)
 have sz_b6 : h0.size ≤ b6 := nt K5.1 (Nat.le_of_eq q6.symm)
 have Z7 := nt Z5 E6.1
 have O7 := O5.ext E6
 have K7 := K5.ext E6
 have V6 : Arv Z h6 b6 k6 .byte (oI (ds.length + 16)) [] (.int (0 : Int32)) := Arv.new A6 (jM (by omega))
 refine gs (S' := T6.setTop (mkF m 46 #[rv b, rv x, iv (oI ds.length), iv ((oI (ds.length + 16))), iv (0 : Int32)] [(.ref b6), (.ref b)])) st6 ?_
 refine gs (fun _ k => jp (pc' := 53) X6 hq d53_46 k) ?_
 have f8 := ((F_v.other W4 (Or.inr (slot_ne (Or.inl (ow hw 90 rfl)) (Or.inl (ow hw 88 rfl)) (by first | decide | exact nb rfl) (t := (.array .byte)) (t' := .byte) (by first | decide | exact nb rfl) (by first | decide | exact nb rfl)))).ext E6)
 have f9 := ((E_b.wr W4).ext E6)
 obtain ⟨T10, h10, X10, e10, W10, st10⟩ := putF X6 hx hZ hown (host := "") (Or.inl (ow hw 89 rfl)) Via.refl e6 f8 f9 (Or.inl (ow hw 90 rfl)) (ow hw 72 rfl) (ty := (.array .byte)) (by first | decide | exact nb rfl) rfl rfl (g := (mkF m 53 #[rv b, rv x, iv (oI ds.length), iv ((oI (ds.length + 16))), iv (0 : Int32)] [(.ref b6), (.ref b)])) rfl rfl (hb hby d53_53)
 have N10 := Fr.snoc X10 N4 g_b
 have Fw10 := f8.same W10
 have Z11 := nt Z7 (Keep.of_wr W10).1
 have O11 := O7.wr W10 g_b
 have K11 := K7.wr W10 (Or.inl (List.mem_of_getElem? (i := 0) rfl))
 refine gs (S' := T10.setTop (mkF m 56 #[rv b, rv x, iv (oI ds.length), iv ((oI (ds.length + 16))), iv (0 : Int32)] [])) st10 ?_
 have al0 : jS (ds.length + 16) (([] : List Int32).length + ds.length) = 0 := by unfold jS; rw [if_pos (by show 0 + ds.length ≤ _; omega)]
 have cp0 : jw (ds.length + 16) (([] : List Int32).length + ds.length) = ds.length + 16 := by unfold jw; rw [if_pos (by show 0 + ds.length ≤ _; omega)]
 refine gs (fun _ k => jb X10 hq d53_56 rfl rfl (jb X10 hq d53_57 rfl rfl k)) ?_
 have f12 := (f9.wr W10)
 have f13 := ((Fw4.ext E6).other W10 (Or.inr (slot_ne (Or.inl (ow hw 88 rfl)) (Or.inl (ow hw 90 rfl)) (by first | decide | exact nb rfl) (t := .byte) (t' := (.array .byte)) (by first | decide | exact nb rfl) (by first | decide | exact nb rfl))))
 have f14 := (((F_n.other W4 (Or.inr (slot_ne (Or.inl (ow hw 106 rfl)) (Or.inl (ow hw 88 rfl)) (by first | decide | exact nb rfl) (t := .int) (t' := .byte) (by first | decide | exact nb rfl) (by first | decide | exact nb rfl)))).ext E6).other W10 (Or.inr (slot_ne (Or.inl (ow hw 106 rfl)) (Or.inl (ow hw 90 rfl)) (by first | decide | exact nb rfl) (t := .int) (t' := (.array .byte)) (by first | decide | exact nb rfl) (by first | decide | exact nb rfl))))
 have f15 := (Ex6.wr W10)
 have f16 := (V6.other W10 (Ne.symm (nw (nu (nu E_b.lt (Keep.of_wr W4).1) (Nat.le_of_eq q6.symm)))))
 have f17 := (((T_x.wrE W4 E_b (by first | decide | exact nb rfl) (ow hw 72 rfl)).ext E6).wrE W10 ((E_b.wr W4).ext E6) (by first | decide | exact nb rfl) (ow hw 72 rfl))
 refine cV (rest := []) X10 hx hZ hown (ow hw 91 rfl) (ow hw 92 rfl) (own_nf (a0 := #[]) (mvT hZ (ow hw 110 rfl)) rfl) (ow hw 94 rfl) (ow hw 95 rfl) (ow hw 73 rfl) (ow hw 96 rfl) (rm_brX l Z a0 hw [] b b6 k6 ([] : List Int32) (ds.length + 16) x ds z 0 h10 n0 Z11 O11 f12 Fw10 f13 f14 f15 f16 (by omega) (Nat.zero_le _) g_b g_b6 S0 hz f17 hbx l2x (by show 0 + ds.length ≤ _; omega) (Nat.le_of_eq al0) (by first | decide | exact nb rfl)) hby d53_58 e10 pd_672 0 (by rw [hml]; rfl) f12 rfl rfl rfl rfl ⟨by decide, nb rfl, nb rfl, nb rfl⟩ (by dsimp only; omega) fun _ T18 Lc18 X18 hQ18 => ?_
 obtain ⟨t18, kb18, rfl, N18q, K18q, o18t, F18v, F18c, F18n, E18t, V18q⟩ := hQ18
 have N18 := Fr.app N10 N18q
 have g_t18 : n0 ≤ t18 := o18t.elim (fun q => q ▸ g_b6) (fun q => nt Z11 q)
 have sz_t18 : h0.size ≤ t18 := o18t.elim (fun q => q ▸ sz_b6) (fun q => nt K11.1 q)
 have zs19 := nt E6.1 (Keep.of_wr W10).1
 have gb_t18 : h4.size ≤ t18 := o18t.elim (fun q => q ▸ (Nat.le_of_eq q6.symm)) (fun q => nt zs19 q)
 have Z20 := nt Z11 K18q.1
 have O20 := O11.keep K18q (allS g_b (allS g_b6 all0))
 have K20 := K11.trans K18q (allS (Or.inl (List.mem_of_getElem? (i := 0) rfl)) (allS (Or.inr sz_b6) all0))
 refine gs (fun _ k => jW X18 hq d53_61 rfl k) ?_
 have Vn := V18q
 rw [cp0] at Vn
 refine gout (v := none) X18 Bd.notSynchronized (fun _ => rfl) (by first | decide | exact nb rfl) (by dsimp only [Pt.cells, Pt.slots]; omega) ?_ (fun fs hr => X18.returnOut hx Bd.returns (hb hby d53_62) hr)
 exact ⟨_, _, rfl, N18, K20, sz_t18, F18v, F18c, F18n, E18t, Vn⟩
abbrev oc54 := jdk_67_method_3_code
theorem d54_0 : decode oc54 0 = .ok (.aload_n 0, 1) := by decide +kernel
theorem d54_1 : decode oc54 1 = .ok (.aload_n 1, 1) := by decide +kernel
theorem d54_2 : decode oc54 2 = .ok (.invokespecial 7, 3) := by decide +kernel
theorem d54_5 : decode oc54 5 = .ok (.return_, 1) := by decide +kernel
theorem rm_sbiI (l : Launch) (Z : State) (a0 : Array Value) (hw : HW Z a0) (ws : List Jvm.Cond) (b : Addr) (x : Addr) (ds : List Int32) (z : Int32) (h0 : Heap) (n0 : Nat) (Z0 : n0 ≤ h0.size) (O0 : Old Z n0 h0) (E_b : Exa Z h0 b "java/lang/StringBuilder") (F_v : Fld Z h0 b "java/lang/AbstractStringBuilder" "value" "[B" .null) (F_c : Fld Z h0 b "java/lang/AbstractStringBuilder" "coder" "B" (.int (0 : Int32))) (F_n : Fld Z h0 b "java/lang/AbstractStringBuilder" "count" "I" (.int (0 : Int32))) (g_b : n0 ≤ b) (S0 : PS0 Z (.int z)) (hz : ¬ z = 0) (T_x : Str Z h0 x ds) (hbx : ∀ c ∈ ds, ¬ c < 0 ∧ ¬ (255 : Int32) < c) (l2x : ds.length ≤ 4000) (hcap : ds.length + 16 ≤ 143) :
  Ctr l Z (⟨"java/lang/StringBuilder", "<init>", "(Ljava/lang/String;)V"⟩ : MethodName) oc54 2 ((Option.none : Option Jvm.ClassFile.FieldType)) ws (⟨8, 2, 143, 118⟩ : Room) #[(.ref b), (.ref x)] h0 (fun v h L => ∃ (t : Addr) (kb : ClassId), v = none ∧ Fr n0 L ∧ Keep h0 h [b] ∧ h0.size ≤ t ∧ Fld Z h b "java/lang/AbstractStringBuilder" "value" "[B" (.ref t) ∧ Fld Z h b "java/lang/AbstractStringBuilder" "coder" "B" (.int (0 : Int32)) ∧ Fld Z h b "java/lang/AbstractStringBuilder" "count" "I" (.int (oI ds.length)) ∧ Exa Z h t "[B" ∧ Arv Z h t kb .byte (oI (ds.length + 16)) (jE ds) (.int (0 : Int32))) := by
 refine Ctr.go (plainFor_of_name pn_676) fun p e s m below meth c s₁ Bd hx hby hml hZ hown hnm X0 e0 => ?_
 have hq := And.intro hx hby
 have N0 := Fr.nil n0
 have K0 := Keep.refl h0 [b]
 refine gs (S' := s₁.setTop (mkF m 0 #[rv b, rv x] [])) (fun tg kg => castTop (ef_16 m b x) kg) ?_
 refine gs (fun _ k => jb X0 hq d54_0 rfl rfl (jb X0 hq d54_1 rfl rfl k)) ?_
 refine cI (rest := []) X0 hx hZ hown rfl (ow hw 77 rfl) (ow hw 78 rfl) (ow hw 81 rfl) (ow hw 82 rfl) (rm_asbI l Z a0 hw [] b x ds z h0 n0 Z0 O0 E_b F_v F_c F_n g_b S0 hz T_x hbx l2x hcap) hby d54_2 e0 pd_618 0 (by rw [hml]; rfl) rfl rfl rfl rfl (by decide) (by decide) fun _ T1 Lc1 X1 hQ1 => ?_
 obtain ⟨t1, kb1, rfl, N1q, K1q, g1t, F1v, F1c, F1n, E1t, V1q⟩ := hQ1
 have N1 := Fr.app N0 N1q
 have g_t1 : n0 ≤ t1 := nt Z0 g1t
 have sz_t1 : h0.size ≤ t1 := nt K0.1 g1t
 have Z2 := nt Z0 K1q.1
 have O2 := O0.keep K1q (allS g_b all0)
 have K2 := K0.trans K1q (allS (Or.inl (List.mem_of_getElem? (i := 0) rfl)) all0)
 have f3 := (E_b.keep K1q)
 refine gout (v := none) X1 Bd.notSynchronized (fun _ => rfl) (by decide) (by decide) ?_ (fun fs hr => X1.returnOut hx Bd.returns (hb hby d54_5) hr)
 exact ⟨_, _, rfl, N1, K2, sz_t1, F1v, F1c, F1n, E1t, V1q⟩
theorem own_rpb (n : Nat) : ∀ c ∈ List.replicate n (32 : Int32), ¬ c < 0 ∧ ¬ (255 : Int32) < c := fun c hc => by rw [(List.mem_replicate.mp hc).2]; decide
theorem ef_877 (m : MethodId) (x0 : Addr) (x1 : Addr) : entryFrame m #[(.ref x0), (.ref x1)] 8 = mkF m 0 #[.val (.ref x0), .val (.ref x1), .unset, .unset, .unset, .unset, .unset, .unset] [] := by first | (simp [entryFrame, mkF, argsToLocals, Value.category]; done) | rfl
abbrev oc55 := prog_11_method_7_code
theorem d55_0 : decode oc55 0 = .ok (.ldc 212, 2) := by decide +kernel
theorem d55_2 : decode oc55 2 = .ok (.aload_n 0, 1) := by decide +kernel
theorem d55_3 : decode oc55 3 = .ok (.invokevirtual 200, 3) := by decide +kernel
theorem d55_6 : decode oc55 6 = .ok (.invokevirtual 214, 3) := by decide +kernel
theorem pd_883 : parseMethodDescriptor "(I)Ljava/lang/String;" = some ⟨[.int], some (.object "java/lang/String")⟩ := by decide +kernel
theorem d55_9 : decode oc55 9 = .ok (.astore_n 2, 1) := by decide +kernel
theorem d55_10 : decode oc55 10 = .ok (.new 209, 3) := by decide +kernel
theorem d55_13 : decode oc55 13 = .ok (.dup, 1) := by decide +kernel
theorem d55_14 : decode oc55 14 = .ok (.aload_n 0, 1) := by decide +kernel
theorem d55_15 : decode oc55 15 = .ok (.invokespecial 226, 3) := by decide +kernel
theorem d55_18 : decode oc55 18 = .ok (.astore_n 3, 1) := by decide +kernel
theorem d55_19 : decode oc55 19 = .ok (.iconst 0, 1) := by decide +kernel
theorem d55_20 : decode oc55 20 = .ok (.istore 4, 2) := by decide +kernel
theorem d55_22 : decode oc55 22 = .ok (.iconst 0, 1) := by decide +kernel
theorem d55_23 : decode oc55 23 = .ok (.istore 5, 2) := by decide +kernel
theorem d55_25 : decode oc55 25 = .ok (.aload_n 1, 1) := by decide +kernel
theorem d55_26 : decode oc55 26 = .ok (.invokeinterface 131 1, 5) := by decide +kernel
theorem pd_896 : parseMethodDescriptor "()Ljava/util/Iterator;" = some ⟨[], some (.object "java/util/Iterator")⟩ := by decide +kernel
theorem d55_31 : decode oc55 31 = .ok (.astore 6, 2) := by decide +kernel
theorem d55_33 : decode oc55 33 = .ok (.aload 6, 2) := by decide +kernel
theorem d55_35 : decode oc55 35 = .ok (.invokeinterface 135 1, 5) := by decide +kernel
theorem d55_40 : decode oc55 40 = .ok (.ifCond .eq 87, 3) := by decide +kernel
theorem d55_127 : decode oc55 127 = .ok (.aload_n 3, 1) := by decide +kernel
theorem d55_128 : decode oc55 128 = .ok (.bipush 10, 2) := by decide +kernel
theorem d55_130 : decode oc55 130 = .ok (.invokevirtual 228, 3) := by decide +kernel
theorem pd_904 : parseMethodDescriptor "(C)Ljava/lang/StringBuilder;" = some ⟨[.char], some (.object "java/lang/StringBuilder")⟩ := by decide +kernel
theorem d55_133 : decode oc55 133 = .ok (.invokevirtual 223, 3) := by decide +kernel
theorem pd_906 : parseMethodDescriptor "()Ljava/lang/String;" = some ⟨[], some (.object "java/lang/String")⟩ := by decide +kernel
theorem d55_136 : decode oc55 136 = .ok (.areturn, 1) := by decide +kernel
theorem pn_908 : plainName "com/example/caddisfly/caddisfly/Syntax" = true := by first | (simp [plainName, overriddenIn]; done) | decide +kernel
theorem rm_wrap0 (l : Launch) (Z : State) (a0 : Array Value) (hw : HW Z a0) (ws : List Jvm.Cond) (ld : Addr) (ls : List Int32) (a : Addr) (de : Addr) (ka : ClassId) (z : Int32) (h0 : Heap) (n0 : Nat) (Z0 : n0 ≤ h0.size) (O0 : Old Z n0 h0) (S0 : PS0 Z (.int z)) (hz : ¬ z = 0) (E_a : Exa Z h0 a "java/util/ArrayList") (F_m : Fld Z h0 a "java/util/AbstractList" "modCount" "I" (.int (0 : Int32))) (F_s : Fld Z h0 a "java/util/ArrayList" "size" "I" (.int (0 : Int32))) (F_e : Fld Z h0 a "java/util/ArrayList" "elementData" "[Ljava/lang/Object;" (.ref de)) (T_l : Str Z h0 ld ls) (hb_l : ∀ c ∈ ls, ¬ c < 0 ∧ ¬ (255 : Int32) < c) (hl_l : ls.length ≤ 127) :
  CtrW l Z jo my9 oc55 8 ((Option.some (Jvm.ClassFile.FieldType.object "java/lang/String"))) ws (⟨9, 11, 4600, 132⟩ : Room) #[(.ref ld), (.ref a)] h0 (fun v h L => ∃ r : Addr, v = some (.ref r) ∧ Fr n0 L ∧ Keep h0 h [] ∧ Str Z h r (ls ++ [10])) := by
 refine CtrW.of (MetFree.of_bodySF (plainFor_of_name pn_908) hisR ?_)
 intro p e s m args below meth c s₁ Bd hml0 hP hK
 obtain ⟨rfl, hZ0, hh, hC⟩ := hP
 have hx := Bd.exec
 have hby := Bd.bytes
 have hq := And.intro hx hby
 have hml : c.maxLocals = 8 := hml0
 have hZ : Z.Warmed39 (s.setVm s.vm).vm := hZ0
 have hown : (s.setVm s.vm).vm.findClass "com/example/caddisfly/caddisfly/Syntax" = some m.cls := findClass_of_methodNamed Bd.named
 have hnm := (name_of_methodNamed Bd.named Bd.method).1
 have X0 : Stand p l e (⟨9, 11, 4600, 132⟩ : Room) (s.setVm s.vm) m #[(.ref ld), (.ref a)] below meth c s₁ [] 0 0 := Stand.of_body Bd
 have e0 : s₁.heap = h0 := by rw [← hh, Bd.state]; rfl
 have N0 := Fr.nil n0
 have K0 : Keep h0 h0 [] := Keep.refl h0 []
 have hS : s.Since s.vm 0 := (State.WarmedH.refl s).since 0
 have hk : 0 ≤ h0.size := Nat.zero_le _
 have R0 : CHr Z jo s.vm h0 s.vm h0 := CHr.refl hC
 show OwnGoW p e below s Z jo (fun v h L => ∃ r : Addr, v = some (.ref r) ∧ Fr n0 L ∧ Keep h0 h [] ∧ Str Z h r (ls ++ [10])) (⟨9, 11, 4600, 132⟩ : Room).cells (⟨9, 11, 4600, 132⟩ : Room).slots _
 refine gsW (S' := s₁.setTop (mkF m 0 #[rv ld, rv a, uu, uu, uu, uu, uu, uu] [])) (fun tg kg => castTop (ef_877 m ld a) kg) ?_
 obtain ⟨uL, kuL, EpL, CpL, VpL, ApL⟩ := id T_l
 obtain ⟨a1, T1, h1, k1, t1, kb1, X1, e1, E1, hS, hk1, hZ, hown, g1e, g1c, g1v, g1a, -, -, r1x, -, ne1, st1⟩ := ldcCH X0 hx hZ hown (ow hw 54 rfl) (own_wS hw) e0 hS hk (jJ hw) (List.mem_of_getElem? (i := 0) rfl) R0.1 (vs := ((([32] : List Int32).map (fun c => c.toInt8.toInt32)).map Value.int)) (z := (1 : Int32)) ⟨by decide, by rfl⟩ (by first | decide | exact nb rfl) rfl (g := (mkF m 0 #[rv ld, rv a, uu, uu, uu, uu, uu, uu] [])) rfl (hb hby d55_0) (n := 4) (by first | decide | exact nb rfl) (by first | decide | exact nb rfl) (by first | decide | exact nb rfl) (by dsimp only [Pt.cells, Pt.slots]; omega)
 have r2 : CHr Z jo s.vm h0 T1.vm h1 := r1x
 have R2 := R0.trans r2
 have Z2 := nt Z0 E1.1
 have O2 := O0.ext E1
 have K2 := K0.ext E1
 have T1q : Str Z h1 a1 ([32] : List Int32) := ⟨_, _, g1e, g1c, g1v, g1a⟩
 refine gsW (S' := T1.setTop (mkF m 2 #[rv ld, rv a, uu, uu, uu, uu, uu, uu] [(.ref a1)])) st1 ?_
 have f3 := (EpL.ext E1)
 have f4 := (CpL.ext E1)
 have f5 := (VpL.ext E1)
 have f6 := (ApL.ext E1)
 have Ts7 : Str Z h1 ld ls := ⟨_, _, f3, f4, f5, f6⟩
 refine gsW (fun _ k => jb X1 hq d55_2 rfl rfl k) ?_
 refine cVW (rest := [(.ref a1)]) X1 hx hZ hown (ow hw 55 rfl) (ow hw 56 rfl) (nfs hZ (ow hw 58 rfl)) (ow hw 58 rfl) (ow hw 57 rfl) (ow hw 7 rfl) (ow hw 59 rfl) (rm_lenL l Z a0 hw [] ld ls z h1 n0 Z2 O2 Ts7 S0 hz) hby d55_3 e1 pd_644 1 (by rw [hml]; rfl) Ts7.exa rfl rfl rfl rfl ⟨by decide, nb rfl, nb rfl, nb rfl⟩ (by dsimp only; omega) fun _ T8 Lc8 X8 hQ8 => ?_
 obtain ⟨rfl, N8q, e8q⟩ := hQ8
 have N8 := Fr.app N0 N8q
 refine cVS (rest := []) X8 hx hS hk1 hZ hown (ow hw 66 rfl) (ow hw 67 rfl) (nfs hZ (ow hw 69 rfl)) (ow hw 69 rfl) (ow hw 68 rfl) (ow hw 7 rfl) (ow hw 70 rfl) (rm_rep l Z a0 hw [] a1 ls.length h1 n0 Z2 O2 T1q hl_l) (jJ hw) R2.1 hby d55_6 e8q pd_883 0 (by rw [hml]; rfl) g1e rfl rfl rfl rfl ⟨by decide, nb rfl, nb rfl, nb rfl⟩ (by dsimp only; omega) fun _ T9 Lc9 X9 hS hZ hown hQ9 rq9 => ?_
 obtain ⟨a9, rfl, N9q, K9q, T9q⟩ := hQ9
 have N9 := Fr.app N8 N9q
 have r10 : CHr Z jo T1.vm h1 T9.vm T9.heap := rq9
 have R10 := R2.trans r10
 have Z10 := nt Z2 K9q.1
 have O10 := O2.keep K9q all0
 have K10 := K2.trans K9q all0
 obtain ⟨ur9, kur9, Epr9, Cpr9, Vpr9, Apr9⟩ := id T9q
 have lr9 : (List.replicate ls.length (32 : Int32)).length = ls.length := own_rplen _ _
 refine gsW (fun _ k => jR X9 hq d55_9 rfl (jj rfl) k) ?_
 obtain ⟨T11, h11, X11, e11, E11, A11, D11, -, st11⟩ := newO X9 hx hZ hown (ow hw 71 rfl) (ow hw 72 rfl) (ow hw 73 rfl) rfl (g := (mkF m 10 #[rv ld, rv a, rv a9, uu, uu, uu, uu, uu] [])) rfl (hb hby d55_10) (by first | decide | exact nb rfl) (by dsimp only [Pt.cells, Pt.slots]; omega)
 obtain ⟨b11, q11⟩ : ∃ z, z = T9.heap.size := ⟨_, rfl⟩
 rw [← q11] at A11 D11 st11
 have g_b11 : n0 ≤ b11 := nt Z10 (Nat.le_of_eq q11.symm)
 have sz_b11 : h0.size ≤ b11 := nt K10.1 (Nat.le_of_eq q11.symm)
 have r12 : CHr Z jo T9.vm T9.heap T9.vm h11 := CHr.ext E11 R10.1
 have R12 := R10.trans r12
 have Z12 := nt Z10 E11.1
 have O12 := O10.ext E11
 have K12 := K10.ext E11
 have F_coder_b11 : Fld Z h11 b11 "java/lang/AbstractStringBuilder" "coder" "B" (.int (0 : Int32)) := D11 (Or.inl (ow hw 88 rfl)) (ty := .byte) (by first | decide | exact nb rfl)
 have F_value_b11 : Fld Z h11 b11 "java/lang/AbstractStringBuilder" "value" "[B" .null := D11 (Or.inl (ow hw 90 rfl)) (ty := (.array .byte)) (by first | decide | exact nb rfl)
 have F_count_b11 : Fld Z h11 b11 "java/lang/AbstractStringBuilder" "count" "I" (.int (0 : Int32)) := D11 (Or.inl (ow hw 106 rfl)) (ty := .int) (by first | decide | exact nb rfl)
 refine gsW (S' := T11.setTop (mkF m 13 #[rv ld, rv a, rv a9, uu, uu, uu, uu, uu] [(.ref b11)])) st11 ?_
 refine gsW (fun _ k => jad X11 hq d55_13 rfl (jb X11 hq d55_14 rfl rfl k)) ?_
 have f13 := ((Ts7.exa.keep K9q).ext E11)
 have f14 := ((f4.keep K9q nin0).ext E11)
 have f15 := ((f5.keep K9q nin0).ext E11)
 have f16 := ((f6.keep K9q nin0).ext E11)
 have Ts17 : Str Z h11 ld ls := ⟨_, _, f13, f14, f15, f16⟩
 refine cIW (rest := [(.ref b11)]) X11 hx hZ hown rfl (ow hw 74 rfl) (ow hw 75 rfl) (ow hw 73 rfl) (ow hw 76 rfl) (rm_sbiI l Z a0 hw [] b11 ld ls z h11 n0 Z12 O12 A11 F_value_b11 F_coder_b11 F_count_b11 g_b11 S0 hz Ts17 hb_l (by omega) (by omega)) hby d55_15 e11 pd_618 1 (by rw [hml]; rfl) rfl rfl rfl rfl ⟨by decide, nb rfl, nb rfl, nb rfl⟩ (by dsimp only; omega) fun _ T18 Lc18 X18 hQ18 => ?_
 obtain ⟨t18, kb18, rfl, N18q, K18q, g18t, F18v, F18c, F18n, E18t, V18q⟩ := hQ18
 have N18 := Fr.app N9 N18q
 have g_t18 : n0 ≤ t18 := nt Z12 g18t
 have sz_t18 : h0.size ≤ t18 := nt K12.1 g18t
 have r19 : CHr Z jo T9.vm h11 T9.vm T18.heap := CHr.keep K18q (sfS (Safe.exa hZ.alike A11 (by first | decide | exact nb rfl) (by first | decide | exact nb rfl)) sf0) R12.1
 have R19 := R12.trans r19
 have Z19 := nt Z12 K18q.1
 have O19 := O12.keep K18q (allS g_b11 all0)
 have K19 := K12.trans K18q (allS (Or.inr sz_b11) all0)
 have sfc18 := Safe.keep K18q (sfS (Safe.exa hZ.alike A11 (by first | decide | exact nb rfl) (by first | decide | exact nb rfl)) sf0) R12.1 (Safe.new (EL := jo) (Z := Z) (vm := T9.vm) g18t)
 refine gsW (fun _ k => jR X18 hq d55_18 rfl (jj rfl) (jf (v := (0 : Int32)) X18 hq d55_19 (je X18 hq d55_20 (jj rfl) (jf (v := (0 : Int32)) X18 hq d55_22 (je X18 hq d55_23 (jj rfl) (jb X18 hq d55_25 rfl rfl k)))))) ?_
 have f20 := ((((E_a.ext E1).keep K9q).ext E11).keep K18q)
 have zs21 := nt E1.1 K9q.1
 have f22 := ((((F_m.ext E1).keep K9q nin0).ext E11).keep K18q (ninS (nw (nu (nu E_a.lt zs21) (Nat.le_of_eq q11.symm))) nin0))
 obtain ⟨cq23, kq23, q23a, q23b, q23c⟩ := isOf hZ rfl f20
 obtain ⟨_, _, ⟨T23, L23, k23, n23⟩, -, X23, ⟨Lc23, hQ23, l23, y23, z23⟩, st23⟩ := X18.interfaceBack hx (xi := my10) (y := my4) hown (mvT hZ (ow hw 132 rfl)) (mvT hZ (ow hw 133 rfl)) (mvT hZ (ow hw 134 rfl)) (mvT hZ (ow hw 135 rfl)) (mvT hZ (ow hw 136 rfl)) (mvT hZ (ow hw 137 rfl)) (mvT hZ (ow hw 138 rfl)) (mvT hZ (ow hw 139 rfl)) (by first | decide | exact nb rfl) (backC (W := 0) (rm_it0 l Z a0 hw [] a T18.heap n0 Z19 O19 f20 f22) hZ (ow hw 140 rfl) (ow hw 28 rfl) (by first | decide | exact nb rfl) (by first | decide | exact nb rfl)) q23a q23b q23c (g := (mkF m 26 #[rv ld, rv a, rv a9, rv b11, iv (0 : Int32), iv (0 : Int32), uu, uu] [(.ref a)])) rfl (by rw [hml]; rfl) (Steps.refl _) (argsL := []) (rest := []) (lenOf pd_896 rfl) rfl (jL rfl) (hb hby d55_26) (fun _ _ => ⟨rfl, rfl, (show 7 + 1 ≤ _ from by first | decide | exact nb rfl), (by dsimp only [Pt.cells, Pt.slots]; omega)⟩)
 dsimp only [Pt.U, Pt.locs, Pt.cells, Pt.slots] at X23 l23 y23 z23 st23 hQ23
 subst l23 y23 z23
 obtain ⟨t23, rfl, N23q, K23q, g23t, E23t, J23t, J23c, J23l, J23m⟩ := hQ23
 have N23 := Fr.app N18 N23q
 have g_t23 : n0 ≤ t23 := nt Z19 g23t
 have sz_t23 : h0.size ≤ t23 := nt K19.1 g23t
 have r24 : CHr Z jo T9.vm T18.heap T9.vm T23.heap := CHr.keep K23q sf0 R19.1
 have R24 := R19.trans r24
 have Z24 := nt Z19 K23q.1
 have O24 := O19.keep K23q all0
 have K24 := K19.trans K23q all0
 refine gsW (S' := T23.setTop (mkF m 31 #[rv ld, rv a, rv a9, rv b11, iv (0 : Int32), iv (0 : Int32), uu, uu] [(.ref t23)])) (fun _ k => st23.trans k) ?_
 refine gsW (fun _ k => jQ X23 hq d55_31 rfl (jj rfl) (jy X23 hq d55_33 rfl rfl k)) ?_
 have f25 := (((((F_s.ext E1).keep K9q nin0).ext E11).keep K18q (ninS (nw (nu (nu E_a.lt zs21) (Nat.le_of_eq q11.symm))) nin0)).keep K23q nin0)
 obtain ⟨cq26, kq26, q26a, q26b, q26c⟩ := isOf hZ rfl E23t
 obtain ⟨_, _, ⟨T26, L26, k26, n26⟩, -, X26, ⟨Lc26, hQ26, l26, y26, z26⟩, st26⟩ := X23.interfaceBack hx (xi := my2) (y := my0) hown (mvT hZ (ow hw 157 rfl)) (mvT hZ (ow hw 158 rfl)) (mvT hZ (ow hw 159 rfl)) (mvT hZ (ow hw 160 rfl)) (mvT hZ (ow hw 161 rfl)) (mvT hZ (ow hw 162 rfl)) (mvT hZ (ow hw 163 rfl)) (mvT hZ (ow hw 164 rfl)) (by first | decide | exact nb rfl) (backC (W := 0) (rm_hn00 l Z a0 hw [] t23 a T23.heap n0 Z24 O24 J23t J23c f25) hZ (ow hw 165 rfl) (ow hw 143 rfl) (by first | decide | exact nb rfl) (by first | decide | exact nb rfl)) q26a q26b q26c (g := (mkF m 35 #[rv ld, rv a, rv a9, rv b11, iv (0 : Int32), iv (0 : Int32), rv t23, uu] [(.ref t23)])) rfl (by rw [hml]; rfl) (Steps.refl _) (argsL := []) (rest := []) (lenOf pd_93 rfl) rfl (jL rfl) (hb hby d55_35) (fun _ _ => ⟨rfl, rfl, (show 8 + 0 ≤ _ from by first | decide | exact nb rfl), (by dsimp only [Pt.cells, Pt.slots]; omega)⟩)
 dsimp only [Pt.U, Pt.locs, Pt.cells, Pt.slots] at X26 l26 y26 z26 st26 hQ26
 subst l26 y26 z26
 obtain ⟨rfl, N26q, e26q⟩ := hQ26
 have N26 := Fr.app N23 N26q
 refine gsW (S' := T26.setTop (mkF m 40 #[rv ld, rv a, rv a9, rv b11, iv (0 : Int32), iv (0 : Int32), rv t23, uu] [(.int (0 : Int32))])) (fun _ k => st26.trans k) ?_
 obtain ⟨s27, es27⟩ : ∃ q, q = jS (ls.length + 16) (ls.length + 1) := ⟨_, rfl⟩
 have sp27 := jN (ls.length + 16) (ls.length + 1)
 rw [← es27] at sp27
 have kb27 : (ls.length + 1) ≤ 765 := by omega
 have nb27 : jw (ls.length + 16) (ls.length + 1) ≤ 1530 := jO (by omega) (by omega)
 have kc27 := jP (ls.length + 16) (ls.length + 1)
 refine gsW (fun _ k => jI (pc' := 127) X26 hq d55_40 ((if0 _ _).trans (teq (show (0 : Int32) = (0 : Int32) from by first | decide | exact nb rfl)).1) (jb X26 hq d55_127 rfl rfl (jz (v := (10 : Int32)) X26 hq d55_128 k))) ?_
 have f28 := ((A11.keep K18q).keep K23q)
 have f29 := (F18v.keep K23q nin0)
 have f30 := (F18c.keep K23q nin0)
 have f31 := (F18n.keep K23q nin0)
 have f32 := (E18t.keep K23q)
 have f33 := (V18q.keep K23q nin0)
 refine cVW (rest := []) X26 hx hZ hown (ow hw 170 rfl) (ow hw 171 rfl) (nfs hZ (ow hw 173 rfl)) (ow hw 173 rfl) (ow hw 172 rfl) (ow hw 73 rfl) (ow hw 174 rfl) (rm_scX l Z a0 hw [] b11 t18 kb18 ls (ls.length + 16) (10 : Int32) z s27 T23.heap n0 Z24 O24 f28 f29 f30 f31 f32 f33 (by omega) (by omega) g_b11 g_t18 S0 hz (by first | decide | exact nb rfl) (by omega) (Nat.le_of_eq es27.symm) (by omega)) hby d55_130 e26q pd_904 0 (by rw [hml]; rfl) f28 rfl rfl rfl rfl ⟨by decide, nb rfl, nb rfl, nb rfl⟩ (by dsimp only; omega) fun _ T34 Lc34 X34 hQ34 => ?_
 obtain ⟨t34, kb34, rfl, N34q, K34q, o34t, F34v, F34c, F34n, E34t, V34q⟩ := hQ34
 have N34 := Fr.app N26 N34q
 have f35 := (r24.safe (nu E18t.lt (Nat.le_refl _)) sfc18)
 have g_t34 : n0 ≤ t34 := o34t.elim (fun q => q ▸ g_t18) (fun q => nt Z24 q)
 have sz_t34 : h0.size ≤ t34 := o34t.elim (fun q => q ▸ sz_t18) (fun q => nt K24.1 q)
 have zs36 := nt K18q.1 K23q.1
 have gb_t34 : h11.size ≤ t34 := o34t.elim (fun q => q ▸ g18t) (fun q => nt zs36 q)
 have r37 : CHr Z jo T9.vm T23.heap T9.vm T34.heap := CHr.keep K34q (sfS (Safe.exa hZ.alike f28 (by first | decide | exact nb rfl) (by first | decide | exact nb rfl)) (sfS f35 sf0)) R24.1
 have R37 := R24.trans r37
 have Z37 := nt Z24 K34q.1
 have O37 := O24.keep K34q (allS g_b11 (allS g_t18 all0))
 have K37 := K24.trans K34q (allS (Or.inr sz_b11) (allS (Or.inr sz_t18) all0))
 have sfc34 := Safe.keep K34q (sfS (Safe.exa hZ.alike f28 (by first | decide | exact nb rfl) (by first | decide | exact nb rfl)) (sfS f35 sf0)) R24.1 (o34t.elim (fun q => by rw [q]; exact f35) (fun q => Safe.new q))
 obtain ⟨M34, eM34⟩ : ∃ q, q = jw (ls.length + 16) (ls.length + 1) := ⟨_, rfl⟩
 rw [← eM34] at V34q sp27 nb27 kc27
 have ln34 : (ls ++ [(10 : Int32)]).length = (ls.length + 1) := by rw [List.length_append]; rfl
 have f38 := (f28.keep K34q)
 refine cVW (rest := []) X34 hx hZ hown (ow hw 188 rfl) (ow hw 189 rfl) (nfs hZ (ow hw 191 rfl)) (ow hw 191 rfl) (ow hw 190 rfl) (ow hw 73 rfl) (ow hw 192 rfl) (rm_tsT l Z a0 hw [] b11 t34 kb34 (ls ++ [(10 : Int32)]) M34 z T34.heap n0 Z37 O37 f38 F34v F34c F34n E34t V34q (by omega) (by omega) S0 hz (by omega)) hby d55_133 rfl pd_906 0 (by rw [hml]; rfl) f38 rfl rfl rfl rfl ⟨by decide, nb rfl, nb rfl, nb rfl⟩ (by dsimp only; omega) fun _ T39 Lc39 X39 hQ39 => ?_
 obtain ⟨a39, rfl, N39q, K39q, T39q⟩ := hQ39
 have N39 := Fr.app N34 N39q
 have r40 : CHr Z jo T9.vm T34.heap T9.vm T39.heap := CHr.keep K39q sf0 R37.1
 have R40 := R37.trans r40
 have Z40 := nt Z37 K39q.1
 have O40 := O37.keep K39q all0
 have K40 := K37.trans K39q all0
 have zs41 := nt E11.1 K18q.1
 have zs42 := nt zs41 K23q.1
 have zs43 := nt zs42 K34q.1
 have zs44 := nt zs43 K39q.1
 refine goutW (v := some (.ref a39)) X39 hS (nt (Nat.le_refl T9.heap.size) zs44) hZ (jJ hw) hh rfl R40 Bd.notSynchronized (jA Bd.returns) (by first | decide | exact nb rfl) (by dsimp only [Pt.cells, Pt.slots]; omega) ?_ (fun fs hr => retOut X39 hx Bd.returns rfl (Or.inr (Or.inr (Or.inr (Or.inr ⟨rfl, rfl, rfl⟩)))) (hb hby d55_136) hr)
 exact ⟨_, rfl, N39, K40, T39q⟩
theorem d55_43 : decode oc55 43 = .ok (.aload 6, 2) := by decide +kernel
theorem d55_45 : decode oc55 45 = .ok (.invokeinterface 141 1, 5) := by decide +kernel
theorem pd_912 : parseMethodDescriptor "()Ljava/lang/Object;" = some ⟨[], some (.object "java/lang/Object")⟩ := by decide +kernel
theorem d55_50 : decode oc55 50 = .ok (.checkcast 47, 3) := by decide +kernel
theorem d55_53 : decode oc55 53 = .ok (.astore 7, 2) := by decide +kernel
theorem d55_55 : decode oc55 55 = .ok (.iload 5, 2) := by decide +kernel
theorem d55_57 : decode oc55 57 = .ok (.ifCond .eq 45, 3) := by decide +kernel
theorem d55_102 : decode oc55 102 = .ok (.iload 5, 2) := by decide +kernel
theorem d55_104 : decode oc55 104 = .ok (.ifCond .eq 10, 3) := by decide +kernel
theorem d55_114 : decode oc55 114 = .ok (.aload_n 3, 1) := by decide +kernel
theorem d55_115 : decode oc55 115 = .ok (.aload 7, 2) := by decide +kernel
theorem d55_117 : decode oc55 117 = .ok (.invokevirtual 219, 3) := by decide +kernel
theorem d55_120 : decode oc55 120 = .ok (.pop, 1) := by decide +kernel
theorem d55_121 : decode oc55 121 = .ok (.iconst 1, 1) := by decide +kernel
theorem d55_122 : decode oc55 122 = .ok (.istore 5, 2) := by decide +kernel
theorem d55_124 : decode oc55 124 = .ok (.goto (-91), 3) := by decide +kernel
theorem rm_wrap1 (l : Launch) (Z : State) (a0 : Array Value) (hw : HW Z a0) (ws : List Jvm.Cond) (ld : Addr) (ls : List Int32) (a : Addr) (ar : Addr) (ka : ClassId) (x0 : Addr) (wl0 : List Int32) (z : Int32) (h0 : Heap) (n0 : Nat) (Z0 : n0 ≤ h0.size) (O0 : Old Z n0 h0) (S0 : PS0 Z (.int z)) (hz : ¬ z = 0) (E_a : Exa Z h0 a "java/util/ArrayList") (F_m : Fld Z h0 a "java/util/AbstractList" "modCount" "I" (.int (1 : Int32))) (F_s : Fld Z h0 a "java/util/ArrayList" "size" "I" (.int (1 : Int32))) (F_e : Fld Z h0 a "java/util/ArrayList" "elementData" "[Ljava/lang/Object;" (.ref ar)) (V_ar : Arv Z h0 ar ka (.object "java/lang/Object") (10 : Int32) [(.ref x0)] .null) (T_l : Str Z h0 ld ls) (hb_l : ∀ c ∈ ls, ¬ c < 0 ∧ ¬ (255 : Int32) < c) (hl_l : ls.length ≤ 127) (T_0 : Str Z h0 x0 wl0) (hb_0 : ∀ c ∈ wl0, ¬ c < 0 ∧ ¬ (255 : Int32) < c) (hl_0 : wl0.length ≤ 127) :
  CtrW l Z jo my9 oc55 8 ((Option.some (Jvm.ClassFile.FieldType.object "java/lang/String"))) ws (⟨9, 12, 4600, 132⟩ : Room) #[(.ref ld), (.ref a)] h0 (fun v h L => ∃ r : Addr, v = some (.ref r) ∧ Fr n0 L ∧ Keep h0 h [] ∧ Str Z h r ((jZ ls wl0) ++ [10])) := by
 refine CtrW.of (MetFree.of_bodySF (plainFor_of_name pn_908) hisR ?_)
 intro p e s m args below meth c s₁ Bd hml0 hP hK
 obtain ⟨rfl, hZ0, hh, hC⟩ := hP
 have hx := Bd.exec
 have hby := Bd.bytes
 have hq := And.intro hx hby
 have hml : c.maxLocals = 8 := hml0
 have hZ : Z.Warmed39 (s.setVm s.vm).vm := hZ0
 have hown : (s.setVm s.vm).vm.findClass "com/example/caddisfly/caddisfly/Syntax" = some m.cls := findClass_of_methodNamed Bd.named
 have hnm := (name_of_methodNamed Bd.named Bd.method).1
 have X0 : Stand p l e (⟨9, 12, 4600, 132⟩ : Room) (s.setVm s.vm) m #[(.ref ld), (.ref a)] below meth c s₁ [] 0 0 := Stand.of_body Bd
 have e0 : s₁.heap = h0 := by rw [← hh, Bd.state]; rfl
 have N0 := Fr.nil n0
 have K0 : Keep h0 h0 [] := Keep.refl h0 []
 have hS : s.Since s.vm 0 := (State.WarmedH.refl s).since 0
 have hk : 0 ≤ h0.size := Nat.zero_le _
 have R0 : CHr Z jo s.vm h0 s.vm h0 := CHr.refl hC
 show OwnGoW p e below s Z jo (fun v h L => ∃ r : Addr, v = some (.ref r) ∧ Fr n0 L ∧ Keep h0 h [] ∧ Str Z h r ((jZ ls wl0) ++ [10])) (⟨9, 12, 4600, 132⟩ : Room).cells (⟨9, 12, 4600, 132⟩ : Room).slots _
 refine gsW (S' := s₁.setTop (mkF m 0 #[rv ld, rv a, uu, uu, uu, uu, uu, uu] [])) (fun tg kg => castTop (ef_877 m ld a) kg) ?_
 obtain ⟨uL, kuL, EpL, CpL, VpL, ApL⟩ := id T_l
 obtain ⟨uw0, kuw0, Epw0, Cpw0, Vpw0, Apw0⟩ := id T_0
 obtain ⟨a1, T1, h1, k1, t1, kb1, X1, e1, E1, hS, hk1, hZ, hown, g1e, g1c, g1v, g1a, -, -, r1x, -, ne1, st1⟩ := ldcCH X0 hx hZ hown (ow hw 54 rfl) (own_wS hw) e0 hS hk (jJ hw) (List.mem_of_getElem? (i := 0) rfl) R0.1 (vs := ((([32] : List Int32).map (fun c => c.toInt8.toInt32)).map Value.int)) (z := (1 : Int32)) ⟨by decide, by rfl⟩ (by first | decide | exact nb rfl) rfl (g := (mkF m 0 #[rv ld, rv a, uu, uu, uu, uu, uu, uu] [])) rfl (hb hby d55_0) (n := 4) (by first | decide | exact nb rfl) (by first | decide | exact nb rfl) (by first | decide | exact nb rfl) (by dsimp only [Pt.cells, Pt.slots]; omega)
 have r2 : CHr Z jo s.vm h0 T1.vm h1 := r1x
 have R2 := R0.trans r2
 have Z2 := nt Z0 E1.1
 have O2 := O0.ext E1
 have K2 := K0.ext E1
 have T1q : Str Z h1 a1 ([32] : List Int32) := ⟨_, _, g1e, g1c, g1v, g1a⟩
 refine gsW (S' := T1.setTop (mkF m 2 #[rv ld, rv a, uu, uu, uu, uu, uu, uu] [(.ref a1)])) st1 ?_
 have f3 := (EpL.ext E1)
 have f4 := (CpL.ext E1)
 have f5 := (VpL.ext E1)
 have f6 := (ApL.ext E1)
 have Ts7 : Str Z h1 ld ls := ⟨_, _, f3, f4, f5, f6⟩
 refine gsW (fun _ k => jb X1 hq d55_2 rfl rfl k) ?_
 refine cVW (rest := [(.ref a1)]) X1 hx hZ hown (ow hw 55 rfl) (ow hw 56 rfl) (nfs hZ (ow hw 58 rfl)) (ow hw 58 rfl) (ow hw 57 rfl) (ow hw 7 rfl) (ow hw 59 rfl) (rm_lenL l Z a0 hw [] ld ls z h1 n0 Z2 O2 Ts7 S0 hz) hby d55_3 e1 pd_644 1 (by rw [hml]; rfl) Ts7.exa rfl rfl rfl rfl ⟨by decide, nb rfl, nb rfl, nb rfl⟩ (by dsimp only; omega) fun _ T8 Lc8 X8 hQ8 => ?_
 obtain ⟨rfl, N8q, e8q⟩ := hQ8
 have N8 := Fr.app N0 N8q
 refine cVS (rest := []) X8 hx hS hk1 hZ hown (ow hw 66 rfl) (ow hw 67 rfl) (nfs hZ (ow hw 69 rfl)) (ow hw 69 rfl) (ow hw 68 rfl) (ow hw 7 rfl) (ow hw 70 rfl) (rm_rep l Z a0 hw [] a1 ls.length h1 n0 Z2 O2 T1q hl_l) (jJ hw) R2.1 hby d55_6 e8q pd_883 0 (by rw [hml]; rfl) g1e rfl rfl rfl rfl ⟨by decide, nb rfl, nb rfl, nb rfl⟩ (by dsimp only; omega) fun _ T9 Lc9 X9 hS hZ hown hQ9 rq9 => ?_
 obtain ⟨a9, rfl, N9q, K9q, T9q⟩ := hQ9
 have N9 := Fr.app N8 N9q
 have r10 : CHr Z jo T1.vm h1 T9.vm T9.heap := rq9
 have R10 := R2.trans r10
 have Z10 := nt Z2 K9q.1
 have O10 := O2.keep K9q all0
 have K10 := K2.trans K9q all0
 obtain ⟨ur9, kur9, Epr9, Cpr9, Vpr9, Apr9⟩ := id T9q
 have lr9 : (List.replicate ls.length (32 : Int32)).length = ls.length := own_rplen _ _
 refine gsW (fun _ k => jR X9 hq d55_9 rfl (jj rfl) k) ?_
 obtain ⟨T11, h11, X11, e11, E11, A11, D11, -, st11⟩ := newO X9 hx hZ hown (ow hw 71 rfl) (ow hw 72 rfl) (ow hw 73 rfl) rfl (g := (mkF m 10 #[rv ld, rv a, rv a9, uu, uu, uu, uu, uu] [])) rfl (hb hby d55_10) (by first | decide | exact nb rfl) (by dsimp only [Pt.cells, Pt.slots]; omega)
 obtain ⟨b11, q11⟩ : ∃ z, z = T9.heap.size := ⟨_, rfl⟩
 rw [← q11] at A11 D11 st11
 have g_b11 : n0 ≤ b11 := nt Z10 (Nat.le_of_eq q11.symm)
 have sz_b11 : h0.size ≤ b11 := nt K10.1 (Nat.le_of_eq q11.symm)
 have r12 : CHr Z jo T9.vm T9.heap T9.vm h11 := CHr.ext E11 R10.1
 have R12 := R10.trans r12
 have Z12 := nt Z10 E11.1
 have O12 := O10.ext E11
 have K12 := K10.ext E11
 have F_coder_b11 : Fld Z h11 b11 "java/lang/AbstractStringBuilder" "coder" "B" (.int (0 : Int32)) := D11 (Or.inl (ow hw 88 rfl)) (ty := .byte) (by first | decide | exact nb rfl)
 have F_value_b11 : Fld Z h11 b11 "java/lang/AbstractStringBuilder" "value" "[B" .null := D11 (Or.inl (ow hw 90 rfl)) (ty := (.array .byte)) (by first | decide | exact nb rfl)
 have F_count_b11 : Fld Z h11 b11 "java/lang/AbstractStringBuilder" "count" "I" (.int (0 : Int32)) := D11 (Or.inl (ow hw 106 rfl)) (ty := .int) (by first | decide | exact nb rfl)
 refine gsW (S' := T11.setTop (mkF m 13 #[rv ld, rv a, rv a9, uu, uu, uu, uu, uu] [(.ref b11)])) st11 ?_
 refine gsW (fun _ k => jad X11 hq d55_13 rfl (jb X11 hq d55_14 rfl rfl k)) ?_
 have f13 := ((Ts7.exa.keep K9q).ext E11)
 have f14 := ((f4.keep K9q nin0).ext E11)
 have f15 := ((f5.keep K9q nin0).ext E11)
 have f16 := ((f6.keep K9q nin0).ext E11)
 have Ts17 : Str Z h11 ld ls := ⟨_, _, f13, f14, f15, f16⟩
 refine cIW (rest := [(.ref b11)]) X11 hx hZ hown rfl (ow hw 74 rfl) (ow hw 75 rfl) (ow hw 73 rfl) (ow hw 76 rfl) (rm_sbiI l Z a0 hw [] b11 ld ls z h11 n0 Z12 O12 A11 F_value_b11 F_coder_b11 F_count_b11 g_b11 S0 hz Ts17 hb_l (by omega) (by omega)) hby d55_15 e11 pd_618 1 (by rw [hml]; rfl) rfl rfl rfl rfl ⟨by decide, nb rfl, nb rfl, nb rfl⟩ (by dsimp only; omega) fun _ T18 Lc18 X18 hQ18 => ?_
 obtain ⟨t18, kb18, rfl, N18q, K18q, g18t, F18v, F18c, F18n, E18t, V18q⟩ := hQ18
 have N18 := Fr.app N9 N18q
 have g_t18 : n0 ≤ t18 := nt Z12 g18t
 have sz_t18 : h0.size ≤ t18 := nt K12.1 g18t
 have r19 : CHr Z jo T9.vm h11 T9.vm T18.heap := CHr.keep K18q (sfS (Safe.exa hZ.alike A11 (by first | decide | exact nb rfl) (by first | decide | exact nb rfl)) sf0) R12.1
 have R19 := R12.trans r19
 have Z19 := nt Z12 K18q.1
 have O19 := O12.keep K18q (allS g_b11 all0)
 have K19 := K12.trans K18q (allS (Or.inr sz_b11) all0)
 have sfc18 := Safe.keep K18q (sfS (Safe.exa hZ.alike A11 (by first | decide | exact nb rfl) (by first | decide | exact nb rfl)) sf0) R12.1 (Safe.new (EL := jo) (Z := Z) (vm := T9.vm) g18t)
 refine gsW (fun _ k => jR X18 hq d55_18 rfl (jj rfl) (jf (v := (0 : Int32)) X18 hq d55_19 (je X18 hq d55_20 (jj rfl) (jf (v := (0 : Int32)) X18 hq d55_22 (je X18 hq d55_23 (jj rfl) (jb X18 hq d55_25 rfl rfl k)))))) ?_
 have f20 := ((((E_a.ext E1).keep K9q).ext E11).keep K18q)
 have zs21 := nt E1.1 K9q.1
 have f22 := ((((F_m.ext E1).keep K9q nin0).ext E11).keep K18q (ninS (nw (nu (nu E_a.lt zs21) (Nat.le_of_eq q11.symm))) nin0))
 obtain ⟨cq23, kq23, q23a, q23b, q23c⟩ := isOf hZ rfl f20
 obtain ⟨_, _, ⟨T23, L23, k23, n23⟩, -, X23, ⟨Lc23, hQ23, l23, y23, z23⟩, st23⟩ := X18.interfaceBack hx (xi := my10) (y := my4) hown (mvT hZ (ow hw 132 rfl)) (mvT hZ (ow hw 133 rfl)) (mvT hZ (ow hw 134 rfl)) (mvT hZ (ow hw 135 rfl)) (mvT hZ (ow hw 136 rfl)) (mvT hZ (ow hw 137 rfl)) (mvT hZ (ow hw 138 rfl)) (mvT hZ (ow hw 139 rfl)) (by first | decide | exact nb rfl) (backC (W := 0) (rm_it1 l Z a0 hw [] a T18.heap n0 Z19 O19 f20 f22) hZ (ow hw 140 rfl) (ow hw 28 rfl) (by first | decide | exact nb rfl) (by first | decide | exact nb rfl)) q23a q23b q23c (g := (mkF m 26 #[rv ld, rv a, rv a9, rv b11, iv (0 : Int32), iv (0 : Int32), uu, uu] [(.ref a)])) rfl (by rw [hml]; rfl) (Steps.refl _) (argsL := []) (rest := []) (lenOf pd_896 rfl) rfl (jL rfl) (hb hby d55_26) (fun _ _ => ⟨rfl, rfl, (show 7 + 1 ≤ _ from by first | decide | exact nb rfl), (by dsimp only [Pt.cells, Pt.slots]; omega)⟩)
 dsimp only [Pt.U, Pt.locs, Pt.cells, Pt.slots] at X23 l23 y23 z23 st23 hQ23
 subst l23 y23 z23
 obtain ⟨t23, rfl, N23q, K23q, g23t, E23t, J23t, J23c, J23l, J23m⟩ := hQ23
 have N23 := Fr.app N18 N23q
 have g_t23 : n0 ≤ t23 := nt Z19 g23t
 have sz_t23 : h0.size ≤ t23 := nt K19.1 g23t
 have r24 : CHr Z jo T9.vm T18.heap T9.vm T23.heap := CHr.keep K23q sf0 R19.1
 have R24 := R19.trans r24
 have Z24 := nt Z19 K23q.1
 have O24 := O19.keep K23q all0
 have K24 := K19.trans K23q all0
 refine gsW (S' := T23.setTop (mkF m 31 #[rv ld, rv a, rv a9, rv b11, iv (0 : Int32), iv (0 : Int32), uu, uu] [(.ref t23)])) (fun _ k => st23.trans k) ?_
 refine gsW (fun _ k => jQ X23 hq d55_31 rfl (jj rfl) (jy X23 hq d55_33 rfl rfl k)) ?_
 have f25 := (((((F_s.ext E1).keep K9q nin0).ext E11).keep K18q (ninS (nw (nu (nu E_a.lt zs21) (Nat.le_of_eq q11.symm))) nin0)).keep K23q nin0)
 obtain ⟨cq26, kq26, q26a, q26b, q26c⟩ := isOf hZ rfl E23t
 obtain ⟨_, _, ⟨T26, L26, k26, n26⟩, -, X26, ⟨Lc26, hQ26, l26, y26, z26⟩, st26⟩ := X23.interfaceBack hx (xi := my2) (y := my0) hown (mvT hZ (ow hw 157 rfl)) (mvT hZ (ow hw 158 rfl)) (mvT hZ (ow hw 159 rfl)) (mvT hZ (ow hw 160 rfl)) (mvT hZ (ow hw 161 rfl)) (mvT hZ (ow hw 162 rfl)) (mvT hZ (ow hw 163 rfl)) (mvT hZ (ow hw 164 rfl)) (by first | decide | exact nb rfl) (backC (W := 0) (rm_hn01 l Z a0 hw [] t23 a T23.heap n0 Z24 O24 J23t J23c f25) hZ (ow hw 165 rfl) (ow hw 143 rfl) (by first | decide | exact nb rfl) (by first | decide | exact nb rfl)) q26a q26b q26c (g := (mkF m 35 #[rv ld, rv a, rv a9, rv b11, iv (0 : Int32), iv (0 : Int32), rv t23, uu] [(.ref t23)])) rfl (by rw [hml]; rfl) (Steps.refl _) (argsL := []) (rest := []) (lenOf pd_93 rfl) rfl (jL rfl) (hb hby d55_35) (fun _ _ => ⟨rfl, rfl, (show 8 + 0 ≤ _ from by first | decide | exact nb rfl), (by dsimp only [Pt.cells, Pt.slots]; omega)⟩)
 dsimp only [Pt.U, Pt.locs, Pt.cells, Pt.slots] at X26 l26 y26 z26 st26 hQ26
 subst l26 y26 z26
 obtain ⟨rfl, N26q, e26q⟩ := hQ26
 have N26 := Fr.app N23 N26q
 refine gsW (S' := T26.setTop (mkF m 40 #[rv ld, rv a, rv a9, rv b11, iv (0 : Int32), iv (0 : Int32), rv t23, uu] [(.int (1 : Int32))])) (fun _ k => st26.trans k) ?_
 refine gsW (fun _ k => jG X26 hq d55_40 ((if0 _ _).trans (feq (by decide : ¬ ((1 : Int32) = (0 : Int32)))).1) (jy X26 hq d55_43 rfl rfl k)) ?_
 have f27 := (f20.keep K23q)
 have f28 := (f22.keep K23q nin0)
 have f29 := (((((F_e.ext E1).keep K9q nin0).ext E11).keep K18q (ninS (nw (nu (nu E_a.lt zs21) (Nat.le_of_eq q11.symm))) nin0)).keep K23q nin0)
 have f30 := (((((V_ar.ext E1).keep K9q nin0).ext E11).keep K18q (ninS (nw (nu (nu V_ar.lt zs21) (Nat.le_of_eq q11.symm))) nin0)).keep K23q nin0)
 obtain ⟨cq31, kq31, q31a, q31b, q31c⟩ := isOf hZ e26q E23t
 obtain ⟨_, _, ⟨T31, L31, k31, n31⟩, -, X31, ⟨Lc31, hQ31, l31, y31, z31⟩, st31⟩ := X26.interfaceBack hx (xi := my5) (y := my1) hown (mvT hZ (ow hw 301 rfl)) (mvT hZ (ow hw 302 rfl)) (mvT hZ (ow hw 303 rfl)) (mvT hZ (ow hw 304 rfl)) (mvT hZ (ow hw 305 rfl)) (mvT hZ (ow hw 306 rfl)) (mvT hZ (ow hw 307 rfl)) (mvT hZ (ow hw 164 rfl)) (by first | decide | exact nb rfl) (backC (W := 0) (rm_nx01 l Z a0 hw [] t23 a ar ka x0 T23.heap n0 Z24 O24 E23t J23t J23c J23l J23m g_t23 f27 f28 f25 f29 f30) hZ (ow hw 308 rfl) (ow hw 143 rfl) (by first | decide | exact nb rfl) (by first | decide | exact nb rfl)) q31a q31b q31c (g := (mkF m 45 #[rv ld, rv a, rv a9, rv b11, iv (0 : Int32), iv (0 : Int32), rv t23, uu] [(.ref t23)])) rfl (by rw [hml]; rfl) (Steps.refl _) (argsL := []) (rest := []) (lenOf pd_912 rfl) rfl (jL rfl) (hb hby d55_45) (fun _ _ => ⟨rfl, e26q, (show 8 + 0 ≤ _ from by first | decide | exact nb rfl), (by dsimp only [Pt.cells, Pt.slots]; omega)⟩)
 dsimp only [Pt.U, Pt.locs, Pt.cells, Pt.slots] at X31 l31 y31 z31 st31 hQ31
 subst l31 y31 z31
 obtain ⟨rfl, N31q, K31q, J31t, J31c, J31l, J31m⟩ := hQ31
 have N31 := Fr.app N26 N31q
 have r32 : CHr Z jo T9.vm T23.heap T9.vm T31.heap := CHr.keep K31q (sfS (Safe.exa hZ.alike E23t (by first | decide | exact nb rfl) (by first | decide | exact nb rfl)) sf0) R24.1
 have R32 := R24.trans r32
 have Z32 := nt Z24 K31q.1
 have O32 := O24.keep K31q (allS g_t23 all0)
 have K32 := K24.trans K31q (allS (Or.inr sz_t23) all0)
 refine gsW (S' := T31.setTop (mkF m 50 #[rv ld, rv a, rv a9, rv b11, iv (0 : Int32), iv (0 : Int32), rv t23, uu] [(.ref x0)])) (fun _ k => st31.trans k) ?_
 have f33 := ((((((Epw0.ext E1).keep K9q).ext E11).keep K18q).keep K23q).keep K31q)
 obtain ⟨T34, X34, e34, st34⟩ := castY X31 hx hZ hown (ow hw 315 rfl) rfl (Ins.self f33) (g := (mkF m 50 #[rv ld, rv a, rv a9, rv b11, iv (0 : Int32), iv (0 : Int32), rv t23, uu] [(.ref x0)])) rfl rfl (hb hby d55_50)
 refine gsW (S' := T34.setTop (mkF m 53 #[rv ld, rv a, rv a9, rv b11, iv (0 : Int32), iv (0 : Int32), rv t23, uu] [(.ref x0)])) st34 ?_
 obtain ⟨s35, es35⟩ : ∃ q, q = jS (ls.length + 16) (ls.length + wl0.length) := ⟨_, rfl⟩
 have sp35 := jN (ls.length + 16) (ls.length + wl0.length)
 rw [← es35] at sp35
 have kb35 : (ls.length + wl0.length) ≤ 765 := by omega
 have nb35 : jw (ls.length + 16) (ls.length + wl0.length) ≤ 1530 := jO (by omega) (by omega)
 have kc35 := jP (ls.length + 16) (ls.length + wl0.length)
 refine gsW (fun _ k => jQ X34 hq d55_53 rfl (jj rfl) (ja X34 hq d55_55 rfl (jI (pc' := 102) X34 hq d55_57 ((if0 _ _).trans (teq (show (0 : Int32) = (0 : Int32) from by first | decide | exact nb rfl)).1) (ja X34 hq d55_102 rfl (jI (pc' := 114) X34 hq d55_104 ((if0 _ _).trans (teq (show (0 : Int32) = (0 : Int32) from by first | decide | exact nb rfl)).1) (jb X34 hq d55_114 rfl rfl (jy X34 hq d55_115 rfl rfl k))))))) ?_
 have f36 := (((A11.keep K18q).keep K23q).keep K31q)
 have f37 := ((F18v.keep K23q nin0).keep K31q (ninS (nw (nu (nu A11.lt K18q.1) g23t)) nin0))
 have f38 := ((F18c.keep K23q nin0).keep K31q (ninS (nw (nu (nu A11.lt K18q.1) g23t)) nin0))
 have f39 := ((F18n.keep K23q nin0).keep K31q (ninS (nw (nu (nu A11.lt K18q.1) g23t)) nin0))
 have f40 := ((E18t.keep K23q).keep K31q)
 have f41 := ((V18q.keep K23q nin0).keep K31q (ninS (nw (nu (nu E18t.lt (Nat.le_refl _)) g23t)) nin0))
 have zs42 := nt zs21 E11.1
 have zs43 := nt zs42 K18q.1
 have f44 := ((((((Cpw0.ext E1).keep K9q nin0).ext E11).keep K18q (ninS (nw (nu (nu Epw0.lt zs21) (Nat.le_of_eq q11.symm))) nin0)).keep K23q nin0).keep K31q (ninS (nw (nu (nu Epw0.lt zs43) g23t)) nin0))
 have f45 := ((((((Vpw0.ext E1).keep K9q nin0).ext E11).keep K18q (ninS (nw (nu (nu Epw0.lt zs21) (Nat.le_of_eq q11.symm))) nin0)).keep K23q nin0).keep K31q (ninS (nw (nu (nu Epw0.lt zs43) g23t)) nin0))
 have f46 := ((((((Apw0.ext E1).keep K9q nin0).ext E11).keep K18q (ninS (nw (nu (nu Apw0.lt zs21) (Nat.le_of_eq q11.symm))) nin0)).keep K23q nin0).keep K31q (ninS (nw (nu (nu Apw0.lt zs43) g23t)) nin0))
 have Ts47 : Str Z T31.heap x0 wl0 := ⟨_, _, f33, f44, f45, f46⟩
 refine cVW (rest := []) X34 hx hZ hown (ow hw 316 rfl) (ow hw 98 rfl) (nfs hZ (ow hw 100 rfl)) (ow hw 100 rfl) (ow hw 99 rfl) (ow hw 73 rfl) (ow hw 101 rfl) (rm_saX l Z a0 hw [] b11 t18 kb18 ls (ls.length + 16) x0 wl0 z s35 T31.heap n0 Z32 O32 f36 f37 f38 f39 f40 f41 (by omega) (by omega) g_b11 g_t18 S0 hz Ts47 hb_0 (by omega) (by omega) (Nat.le_of_eq es35.symm) (by omega)) hby d55_117 e34 pd_836 0 (by rw [hml]; rfl) f36 rfl rfl rfl rfl ⟨by decide, nb rfl, nb rfl, nb rfl⟩ (by dsimp only; omega) fun _ T48 Lc48 X48 hQ48 => ?_
 obtain ⟨t48, kb48, rfl, N48q, K48q, o48t, F48v, F48c, F48n, E48t, V48q⟩ := hQ48
 have N48 := Fr.app N31 N48q
 have f49 := (r32.safe (nu E18t.lt K23q.1) (r24.safe (nu E18t.lt (Nat.le_refl _)) sfc18))
 have g_t48 : n0 ≤ t48 := o48t.elim (fun q => q ▸ g_t18) (fun q => nt Z32 q)
 have sz_t48 : h0.size ≤ t48 := o48t.elim (fun q => q ▸ sz_t18) (fun q => nt K32.1 q)
 have zs50 := nt K18q.1 K23q.1
 have zs51 := nt zs50 K31q.1
 have gb_t48 : h11.size ≤ t48 := o48t.elim (fun q => q ▸ g18t) (fun q => nt zs51 q)
 have r52 : CHr Z jo T9.vm T31.heap T9.vm T48.heap := CHr.keep K48q (sfS (Safe.exa hZ.alike f36 (by first | decide | exact nb rfl) (by first | decide | exact nb rfl)) (sfS f49 sf0)) R32.1
 have R52 := R32.trans r52
 have Z52 := nt Z32 K48q.1
 have O52 := O32.keep K48q (allS g_b11 (allS g_t18 all0))
 have K52 := K32.trans K48q (allS (Or.inr sz_b11) (allS (Or.inr sz_t18) all0))
 have sfc48 := Safe.keep K48q (sfS (Safe.exa hZ.alike f36 (by first | decide | exact nb rfl) (by first | decide | exact nb rfl)) (sfS f49 sf0)) R32.1 (o48t.elim (fun q => by rw [q]; exact f49) (fun q => Safe.new q))
 obtain ⟨M48, eM48⟩ : ∃ q, q = jw (ls.length + 16) (ls.length + wl0.length) := ⟨_, rfl⟩
 rw [← eM48] at V48q sp35 nb35 kc35
 have ln48 : (ls ++ wl0).length = (ls.length + wl0.length) := by rw [List.length_append]
 refine gsW (fun _ k => jW X48 hq d55_120 rfl (jf (v := (1 : Int32)) X48 hq d55_121 (je X48 hq d55_122 (jF rfl rfl) (jp (pc' := 33) X48 hq d55_124 (jy X48 hq d55_33 rfl rfl k))))) ?_
 have f53 := (J31t.keep K48q (ninS (Ne.symm (nw (nu (nu A11.lt K18q.1) g23t))) (ninS (Ne.symm (nw (nu (nu E18t.lt (Nat.le_refl _)) g23t))) nin0)))
 have f54 := (J31c.keep K48q (ninS (Ne.symm (nw (nu (nu A11.lt K18q.1) g23t))) (ninS (Ne.symm (nw (nu (nu E18t.lt (Nat.le_refl _)) g23t))) nin0)))
 have f55 := ((f25.keep K31q (ninS (nw (nu (nu E_a.lt zs43) g23t)) nin0)).keep K48q (ninS (nw (nu (nu E_a.lt zs21) (Nat.le_of_eq q11.symm))) (ninS (nw (nu (nu E_a.lt zs42) g18t)) nin0)))
 have f57 := ((E23t.keep K31q).keep K48q)
 obtain ⟨cq56, kq56, q56a, q56b, q56c⟩ := isOf hZ rfl f57
 obtain ⟨_, _, ⟨T56, L56, k56, n56⟩, -, X56, ⟨Lc56, hQ56, l56, y56, z56⟩, st56⟩ := X48.interfaceBack hx (xi := my2) (y := my0) hown (mvT hZ (ow hw 157 rfl)) (mvT hZ (ow hw 158 rfl)) (mvT hZ (ow hw 159 rfl)) (mvT hZ (ow hw 160 rfl)) (mvT hZ (ow hw 161 rfl)) (mvT hZ (ow hw 162 rfl)) (mvT hZ (ow hw 163 rfl)) (mvT hZ (ow hw 164 rfl)) (by first | decide | exact nb rfl) (backC (W := 0) (rm_hn11 l Z a0 hw [] t23 a T48.heap n0 Z52 O52 f53 f54 f55) hZ (ow hw 165 rfl) (ow hw 143 rfl) (by first | decide | exact nb rfl) (by first | decide | exact nb rfl)) q56a q56b q56c (g := (mkF m 35 #[rv ld, rv a, rv a9, rv b11, iv (0 : Int32), iv (1 : Int32), rv t23, rv x0] [(.ref t23)])) rfl (by rw [hml]; rfl) (Steps.refl _) (argsL := []) (rest := []) (lenOf pd_93 rfl) rfl (jL rfl) (hb hby d55_35) (fun _ _ => ⟨rfl, rfl, (show 9 + 0 ≤ _ from by first | decide | exact nb rfl), (by dsimp only [Pt.cells, Pt.slots]; omega)⟩)
 dsimp only [Pt.U, Pt.locs, Pt.cells, Pt.slots] at X56 l56 y56 z56 st56 hQ56
 subst l56 y56 z56
 obtain ⟨rfl, N56q, e56q⟩ := hQ56
 have N56 := Fr.app N48 N56q
 refine gsW (S' := T56.setTop (mkF m 40 #[rv ld, rv a, rv a9, rv b11, iv (0 : Int32), iv (1 : Int32), rv t23, rv x0] [(.int (0 : Int32))])) (fun _ k => st56.trans k) ?_
 obtain ⟨s58, es58⟩ : ∃ q, q = jS M48 ((ls ++ wl0).length + 1) := ⟨_, rfl⟩
 have sp58 := jN M48 ((ls ++ wl0).length + 1)
 rw [← es58] at sp58
 have kb58 : ((ls ++ wl0).length + 1) ≤ 765 := by omega
 have nb58 : jw M48 ((ls ++ wl0).length + 1) ≤ 1530 := jO (by omega) (by omega)
 have kc58 := jP M48 ((ls ++ wl0).length + 1)
 refine gsW (fun _ k => jI (pc' := 127) X56 hq d55_40 ((if0 _ _).trans (teq (show (0 : Int32) = (0 : Int32) from by first | decide | exact nb rfl)).1) (jb X56 hq d55_127 rfl rfl (jz (v := (10 : Int32)) X56 hq d55_128 k))) ?_
 have f59 := (f36.keep K48q)
 refine cVW (rest := []) X56 hx hZ hown (ow hw 170 rfl) (ow hw 171 rfl) (nfs hZ (ow hw 173 rfl)) (ow hw 173 rfl) (ow hw 172 rfl) (ow hw 73 rfl) (ow hw 174 rfl) (rm_scX l Z a0 hw [] b11 t48 kb48 (ls ++ wl0) M48 (10 : Int32) z s58 T48.heap n0 Z52 O52 f59 F48v F48c F48n E48t V48q (by omega) (by omega) g_b11 g_t48 S0 hz (by first | decide | exact nb rfl) (by omega) (Nat.le_of_eq es58.symm) (by omega)) hby d55_130 e56q pd_904 0 (by rw [hml]; rfl) f59 rfl rfl rfl rfl ⟨by decide, nb rfl, nb rfl, nb rfl⟩ (by dsimp only; omega) fun _ T60 Lc60 X60 hQ60 => ?_
 obtain ⟨t60, kb60, rfl, N60q, K60q, o60t, F60v, F60c, F60n, E60t, V60q⟩ := hQ60
 have N60 := Fr.app N56 N60q
 have g_t60 : n0 ≤ t60 := o60t.elim (fun q => q ▸ g_t48) (fun q => nt Z52 q)
 have sz_t60 : h0.size ≤ t60 := o60t.elim (fun q => q ▸ sz_t48) (fun q => nt K52.1 q)
 have zs61 := nt zs51 K48q.1
 have gb_t60 : h11.size ≤ t60 := o60t.elim (fun q => q ▸ gb_t48) (fun q => nt zs61 q)
 have r62 : CHr Z jo T9.vm T48.heap T9.vm T60.heap := CHr.keep K60q (sfS (Safe.exa hZ.alike f59 (by first | decide | exact nb rfl) (by first | decide | exact nb rfl)) (sfS sfc48 sf0)) R52.1
 have R62 := R52.trans r62
 have Z62 := nt Z52 K60q.1
 have O62 := O52.keep K60q (allS g_b11 (allS g_t48 all0))
 have K62 := K52.trans K60q (allS (Or.inr sz_b11) (allS (Or.inr sz_t48) all0))
 have sfc60 := Safe.keep K60q (sfS (Safe.exa hZ.alike f59 (by first | decide | exact nb rfl) (by first | decide | exact nb rfl)) (sfS sfc48 sf0)) R52.1 (o60t.elim (fun q => by rw [q]; exact sfc48) (fun q => Safe.new q))
 obtain ⟨M60, eM60⟩ : ∃ q, q = jw M48 ((ls ++ wl0).length + 1) := ⟨_, rfl⟩
 rw [← eM60] at V60q sp58 nb58 kc58
 have ln60 : ((ls ++ wl0) ++ [(10 : Int32)]).length = ((ls ++ wl0).length + 1) := by rw [List.length_append]; rfl
 have f63 := (f59.keep K60q)
 refine cVW (rest := []) X60 hx hZ hown (ow hw 188 rfl) (ow hw 189 rfl) (nfs hZ (ow hw 191 rfl)) (ow hw 191 rfl) (ow hw 190 rfl) (ow hw 73 rfl) (ow hw 192 rfl) (rm_tsT l Z a0 hw [] b11 t60 kb60 ((ls ++ wl0) ++ [(10 : Int32)]) M60 z T60.heap n0 Z62 O62 f63 F60v F60c F60n E60t V60q (by omega) (by omega) S0 hz (by omega)) hby d55_133 rfl pd_906 0 (by rw [hml]; rfl) f63 rfl rfl rfl rfl ⟨by decide, nb rfl, nb rfl, nb rfl⟩ (by dsimp only; omega) fun _ T64 Lc64 X64 hQ64 => ?_
 obtain ⟨a64, rfl, N64q, K64q, T64q⟩ := hQ64
 have N64 := Fr.app N60 N64q
 have r65 : CHr Z jo T9.vm T60.heap T9.vm T64.heap := CHr.keep K64q sf0 R62.1
 have R65 := R62.trans r65
 have Z65 := nt Z62 K64q.1
 have O65 := O62.keep K64q all0
 have K65 := K62.trans K64q all0
 have zs66 := nt E11.1 K18q.1
 have zs67 := nt zs66 K23q.1
 have zs68 := nt zs67 K31q.1
 have zs69 := nt zs68 K48q.1
 have zs70 := nt zs69 K60q.1
 have zs71 := nt zs70 K64q.1
 refine goutW (v := some (.ref a64)) X64 hS (nt (Nat.le_refl T9.heap.size) zs71) hZ (jJ hw) hh rfl R65 Bd.notSynchronized (jA Bd.returns) (by first | decide | exact nb rfl) (by dsimp only [Pt.cells, Pt.slots]; omega) ?_ (fun fs hr => retOut X64 hx Bd.returns rfl (Or.inr (Or.inr (Or.inr (Or.inr ⟨rfl, rfl, rfl⟩)))) (hb hby d55_136) hr)
 exact ⟨_, rfl, N64, K65, by unfold jZ; exact T64q⟩
theorem d55_60 : decode oc55 60 = .ok (.aload_n 3, 1) := by decide +kernel
theorem d55_61 : decode oc55 61 = .ok (.invokevirtual 227, 3) := by decide +kernel
theorem d55_64 : decode oc55 64 = .ok (.iload 4, 2) := by decide +kernel
theorem d55_66 : decode oc55 66 = .ok (.isub, 1) := by decide +kernel
theorem d55_67 : decode oc55 67 = .ok (.iconst 1, 1) := by decide +kernel
theorem d55_68 : decode oc55 68 = .ok (.iadd, 1) := by decide +kernel
theorem d55_69 : decode oc55 69 = .ok (.aload 7, 2) := by decide +kernel
theorem d55_71 : decode oc55 71 = .ok (.invokevirtual 200, 3) := by decide +kernel
theorem d55_74 : decode oc55 74 = .ok (.iadd, 1) := by decide +kernel
theorem d55_75 : decode oc55 75 = .ok (.bipush 80, 2) := by decide +kernel
theorem d55_77 : decode oc55 77 = .ok (.if_icmp .le 25, 3) := by decide +kernel
theorem d55_80 : decode oc55 80 = .ok (.aload_n 3, 1) := by decide +kernel
theorem d55_81 : decode oc55 81 = .ok (.bipush 10, 2) := by decide +kernel
theorem d55_83 : decode oc55 83 = .ok (.invokevirtual 228, 3) := by decide +kernel
theorem d55_86 : decode oc55 86 = .ok (.pop, 1) := by decide +kernel
theorem d55_87 : decode oc55 87 = .ok (.aload_n 3, 1) := by decide +kernel
theorem d55_88 : decode oc55 88 = .ok (.invokevirtual 227, 3) := by decide +kernel
theorem d55_91 : decode oc55 91 = .ok (.istore 4, 2) := by decide +kernel
theorem d55_93 : decode oc55 93 = .ok (.aload_n 3, 1) := by decide +kernel
theorem d55_94 : decode oc55 94 = .ok (.aload_n 2, 1) := by decide +kernel
theorem d55_95 : decode oc55 95 = .ok (.invokevirtual 219, 3) := by decide +kernel
theorem d55_98 : decode oc55 98 = .ok (.pop, 1) := by decide +kernel
theorem d55_99 : decode oc55 99 = .ok (.iconst 0, 1) := by decide +kernel
theorem d55_100 : decode oc55 100 = .ok (.istore 5, 2) := by decide +kernel
theorem d55_107 : decode oc55 107 = .ok (.aload_n 3, 1) := by decide +kernel
theorem d55_108 : decode oc55 108 = .ok (.bipush 32, 2) := by decide +kernel
theorem d55_110 : decode oc55 110 = .ok (.invokevirtual 228, 3) := by decide +kernel
theorem d55_113 : decode oc55 113 = .ok (.pop, 1) := by decide +kernel
theorem rm_wrap2 (l : Launch) (Z : State) (a0 : Array Value) (hw : HW Z a0) (ws : List Jvm.Cond) (ld : Addr) (ls : List Int32) (a : Addr) (ar : Addr) (ka : ClassId) (x0 : Addr) (x1 : Addr) (wl0 : List Int32) (wl1 : List Int32) (z : Int32) (h0 : Heap) (n0 : Nat) (Z0 : n0 ≤ h0.size) (O0 : Old Z n0 h0) (S0 : PS0 Z (.int z)) (hz : ¬ z = 0) (E_a : Exa Z h0 a "java/util/ArrayList") (F_m : Fld Z h0 a "java/util/AbstractList" "modCount" "I" (.int (2 : Int32))) (F_s : Fld Z h0 a "java/util/ArrayList" "size" "I" (.int (2 : Int32))) (F_e : Fld Z h0 a "java/util/ArrayList" "elementData" "[Ljava/lang/Object;" (.ref ar)) (V_ar : Arv Z h0 ar ka (.object "java/lang/Object") (10 : Int32) [(.ref x0), (.ref x1)] .null) (T_l : Str Z h0 ld ls) (hb_l : ∀ c ∈ ls, ¬ c < 0 ∧ ¬ (255 : Int32) < c) (hl_l : ls.length ≤ 127) (T_0 : Str Z h0 x0 wl0) (hb_0 : ∀ c ∈ wl0, ¬ c < 0 ∧ ¬ (255 : Int32) < c) (hl_0 : wl0.length ≤ 127) (T_1 : Str Z h0 x1 wl1) (hb_1 : ∀ c ∈ wl1, ¬ c < 0 ∧ ¬ (255 : Int32) < c) (hl_1 : wl1.length ≤ 127) :
  CtrW l Z jo my9 oc55 8 ((Option.some (Jvm.ClassFile.FieldType.object "java/lang/String"))) ws (⟨9, 15, 4600, 132⟩ : Room) #[(.ref ld), (.ref a)] h0 (fun v h L => ∃ r : Addr, v = some (.ref r) ∧ Fr n0 L ∧ Keep h0 h [] ∧ Str Z h r ((js ls wl0 wl1) ++ [10])) := by
 refine CtrW.of (MetFree.of_bodySF (plainFor_of_name pn_908) hisR ?_)
 intro p e s m args below meth c s₁ Bd hml0 hP hK
 obtain ⟨rfl, hZ0, hh, hC⟩ := hP
 have hx := Bd.exec
 have hby := Bd.bytes
 have hq := And.intro hx hby
 have hml : c.maxLocals = 8 := hml0
 have hZ : Z.Warmed39 (s.setVm s.vm).vm := hZ0
 have hown : (s.setVm s.vm).vm.findClass "com/example/caddisfly/caddisfly/Syntax" = some m.cls := findClass_of_methodNamed Bd.named
 have hnm := (name_of_methodNamed Bd.named Bd.method).1
 have X0 : Stand p l e (⟨9, 15, 4600, 132⟩ : Room) (s.setVm s.vm) m #[(.ref ld), (.ref a)] below meth c s₁ [] 0 0 := Stand.of_body Bd
 have e0 : s₁.heap = h0 := by rw [← hh, Bd.state]; rfl
 have N0 := Fr.nil n0
 have K0 : Keep h0 h0 [] := Keep.refl h0 []
 have hS : s.Since s.vm 0 := (State.WarmedH.refl s).since 0
 have hk : 0 ≤ h0.size := Nat.zero_le _
 have R0 : CHr Z jo s.vm h0 s.vm h0 := CHr.refl hC
 show OwnGoW p e below s Z jo (fun v h L => ∃ r : Addr, v = some (.ref r) ∧ Fr n0 L ∧ Keep h0 h [] ∧ Str Z h r ((js ls wl0 wl1) ++ [10])) (⟨9, 15, 4600, 132⟩ : Room).cells (⟨9, 15, 4600, 132⟩ : Room).slots _
 refine gsW (S' := s₁.setTop (mkF m 0 #[rv ld, rv a, uu, uu, uu, uu, uu, uu] [])) (fun tg kg => castTop (ef_877 m ld a) kg) ?_
 obtain ⟨uL, kuL, EpL, CpL, VpL, ApL⟩ := id T_l
 obtain ⟨uw0, kuw0, Epw0, Cpw0, Vpw0, Apw0⟩ := id T_0
 obtain ⟨uw1, kuw1, Epw1, Cpw1, Vpw1, Apw1⟩ := id T_1
 obtain ⟨a1, T1, h1, k1, t1, kb1, X1, e1, E1, hS, hk1, hZ, hown, g1e, g1c, g1v, g1a, -, -, r1x, -, ne1, st1⟩ := ldcCH X0 hx hZ hown (ow hw 54 rfl) (own_wS hw) e0 hS hk (jJ hw) (List.mem_of_getElem? (i := 0) rfl) R0.1 (vs := ((([32] : List Int32).map (fun c => c.toInt8.toInt32)).map Value.int)) (z := (1 : Int32)) ⟨by decide, by rfl⟩ (by first | decide | exact nb rfl) rfl (g := (mkF m 0 #[rv ld, rv a, uu, uu, uu, uu, uu, uu] [])) rfl (hb hby d55_0) (n := 4) (by first | decide | exact nb rfl) (by first | decide | exact nb rfl) (by first | decide | exact nb rfl) (by dsimp only [Pt.cells, Pt.slots]; omega)
 have r2 : CHr Z jo s.vm h0 T1.vm h1 := r1x
 have R2 := R0.trans r2
 have Z2 := nt Z0 E1.1
 have O2 := O0.ext E1
 have K2 := K0.ext E1
 have T1q : Str Z h1 a1 ([32] : List Int32) := ⟨_, _, g1e, g1c, g1v, g1a⟩
 refine gsW (S' := T1.setTop (mkF m 2 #[rv ld, rv a, uu, uu, uu, uu, uu, uu] [(.ref a1)])) st1 ?_
 have f3 := (EpL.ext E1)
 have f4 := (CpL.ext E1)
 have f5 := (VpL.ext E1)
 have f6 := (ApL.ext E1)
 have Ts7 : Str Z h1 ld ls := ⟨_, _, f3, f4, f5, f6⟩
 refine gsW (fun _ k => jb X1 hq d55_2 rfl rfl k) ?_
 refine cVW (rest := [(.ref a1)]) X1 hx hZ hown (ow hw 55 rfl) (ow hw 56 rfl) (nfs hZ (ow hw 58 rfl)) (ow hw 58 rfl) (ow hw 57 rfl) (ow hw 7 rfl) (ow hw 59 rfl) (rm_lenL l Z a0 hw [] ld ls z h1 n0 Z2 O2 Ts7 S0 hz) hby d55_3 e1 pd_644 1 (by rw [hml]; rfl) Ts7.exa rfl rfl rfl rfl ⟨by decide, nb rfl, nb rfl, nb rfl⟩ (by dsimp only; omega) fun _ T8 Lc8 X8 hQ8 => ?_
 obtain ⟨rfl, N8q, e8q⟩ := hQ8
 have N8 := Fr.app N0 N8q
 refine cVS (rest := []) X8 hx hS hk1 hZ hown (ow hw 66 rfl) (ow hw 67 rfl) (nfs hZ (ow hw 69 rfl)) (ow hw 69 rfl) (ow hw 68 rfl) (ow hw 7 rfl) (ow hw 70 rfl) (rm_rep l Z a0 hw [] a1 ls.length h1 n0 Z2 O2 T1q hl_l) (jJ hw) R2.1 hby d55_6 e8q pd_883 0 (by rw [hml]; rfl) g1e rfl rfl rfl rfl ⟨by decide, nb rfl, nb rfl, nb rfl⟩ (by dsimp only; omega) fun _ T9 Lc9 X9 hS hZ hown hQ9 rq9 => ?_
 obtain ⟨a9, rfl, N9q, K9q, T9q⟩ := hQ9
 have N9 := Fr.app N8 N9q
 have r10 : CHr Z jo T1.vm h1 T9.vm T9.heap := rq9
 have R10 := R2.trans r10
 have Z10 := nt Z2 K9q.1
 have O10 := O2.keep K9q all0
 have K10 := K2.trans K9q all0
 obtain ⟨ur9, kur9, Epr9, Cpr9, Vpr9, Apr9⟩ := id T9q
 have lr9 : (List.replicate ls.length (32 : Int32)).length = ls.length := own_rplen _ _
 refine gsW (fun _ k => jR X9 hq d55_9 rfl (jj rfl) k) ?_
 obtain ⟨T11, h11, X11, e11, E11, A11, D11, -, st11⟩ := newO X9 hx hZ hown (ow hw 71 rfl) (ow hw 72 rfl) (ow hw 73 rfl) rfl (g := (mkF m 10 #[rv ld, rv a, rv a9, uu, uu, uu, uu, uu] [])) rfl (hb hby d55_10) (by first | decide | exact nb rfl) (by dsimp only [Pt.cells, Pt.slots]; omega)
 obtain ⟨b11, q11⟩ : ∃ z, z = T9.heap.size := ⟨_, rfl⟩
 rw [← q11] at A11 D11 st11
 have g_b11 : n0 ≤ b11 := nt Z10 (Nat.le_of_eq q11.symm)
 have sz_b11 : h0.size ≤ b11 := nt K10.1 (Nat.le_of_eq q11.symm)
 have r12 : CHr Z jo T9.vm T9.heap T9.vm h11 := CHr.ext E11 R10.1
 have R12 := R10.trans r12
 have Z12 := nt Z10 E11.1
 have O12 := O10.ext E11
 have K12 := K10.ext E11
 have F_coder_b11 : Fld Z h11 b11 "java/lang/AbstractStringBuilder" "coder" "B" (.int (0 : Int32)) := D11 (Or.inl (ow hw 88 rfl)) (ty := .byte) (by first | decide | exact nb rfl)
 have F_value_b11 : Fld Z h11 b11 "java/lang/AbstractStringBuilder" "value" "[B" .null := D11 (Or.inl (ow hw 90 rfl)) (ty := (.array .byte)) (by first | decide | exact nb rfl)
 have F_count_b11 : Fld Z h11 b11 "java/lang/AbstractStringBuilder" "count" "I" (.int (0 : Int32)) := D11 (Or.inl (ow hw 106 rfl)) (ty := .int) (by first | decide | exact nb rfl)
 refine gsW (S' := T11.setTop (mkF m 13 #[rv ld, rv a, rv a9, uu, uu, uu, uu, uu] [(.ref b11)])) st11 ?_
 refine gsW (fun _ k => jad X11 hq d55_13 rfl (jb X11 hq d55_14 rfl rfl k)) ?_
 have f13 := ((Ts7.exa.keep K9q).ext E11)
 have f14 := ((f4.keep K9q nin0).ext E11)
 have f15 := ((f5.keep K9q nin0).ext E11)
 have f16 := ((f6.keep K9q nin0).ext E11)
 have Ts17 : Str Z h11 ld ls := ⟨_, _, f13, f14, f15, f16⟩
 refine cIW (rest := [(.ref b11)]) X11 hx hZ hown rfl (ow hw 74 rfl) (ow hw 75 rfl) (ow hw 73 rfl) (ow hw 76 rfl) (rm_sbiI l Z a0 hw [] b11 ld ls z h11 n0 Z12 O12 A11 F_value_b11 F_coder_b11 F_count_b11 g_b11 S0 hz Ts17 hb_l (by omega) (by omega)) hby d55_15 e11 pd_618 1 (by rw [hml]; rfl) rfl rfl rfl rfl ⟨by decide, nb rfl, nb rfl, nb rfl⟩ (by dsimp only; omega) fun _ T18 Lc18 X18 hQ18 => ?_
 obtain ⟨t18, kb18, rfl, N18q, K18q, g18t, F18v, F18c, F18n, E18t, V18q⟩ := hQ18
 have N18 := Fr.app N9 N18q
 have g_t18 : n0 ≤ t18 := nt Z12 g18t
 have sz_t18 : h0.size ≤ t18 := nt K12.1 g18t
 have r19 : CHr Z jo T9.vm h11 T9.vm T18.heap := CHr.keep K18q (sfS (Safe.exa hZ.alike A11 (by first | decide | exact nb rfl) (by first | decide | exact nb rfl)) sf0) R12.1
 have R19 := R12.trans r19
 have Z19 := nt Z12 K18q.1
 have O19 := O12.keep K18q (allS g_b11 all0)
 have K19 := K12.trans K18q (allS (Or.inr sz_b11) all0)
 have sfc18 := Safe.keep K18q (sfS (Safe.exa hZ.alike A11 (by first | decide | exact nb rfl) (by first | decide | exact nb rfl)) sf0) R12.1 (Safe.new (EL := jo) (Z := Z) (vm := T9.vm) g18t)
 refine gsW (fun _ k => jR X18 hq d55_18 rfl (jj rfl) (jf (v := (0 : Int32)) X18 hq d55_19 (je X18 hq d55_20 (jj rfl) (jf (v := (0 : Int32)) X18 hq d55_22 (je X18 hq d55_23 (jj rfl) (jb X18 hq d55_25 rfl rfl k)))))) ?_
 have f20 := ((((E_a.ext E1).keep K9q).ext E11).keep K18q)
 have zs21 := nt E1.1 K9q.1
 have f22 := ((((F_m.ext E1).keep K9q nin0).ext E11).keep K18q (ninS (nw (nu (nu E_a.lt zs21) (Nat.le_of_eq q11.symm))) nin0))
 obtain ⟨cq23, kq23, q23a, q23b, q23c⟩ := isOf hZ rfl f20
 obtain ⟨_, _, ⟨T23, L23, k23, n23⟩, -, X23, ⟨Lc23, hQ23, l23, y23, z23⟩, st23⟩ := X18.interfaceBack hx (xi := my10) (y := my4) hown (mvT hZ (ow hw 132 rfl)) (mvT hZ (ow hw 133 rfl)) (mvT hZ (ow hw 134 rfl)) (mvT hZ (ow hw 135 rfl)) (mvT hZ (ow hw 136 rfl)) (mvT hZ (ow hw 137 rfl)) (mvT hZ (ow hw 138 rfl)) (mvT hZ (ow hw 139 rfl)) (by first | decide | exact nb rfl) (backC (W := 0) (rm_it2 l Z a0 hw [] a T18.heap n0 Z19 O19 f20 f22) hZ (ow hw 140 rfl) (ow hw 28 rfl) (by first | decide | exact nb rfl) (by first | decide | exact nb rfl)) q23a q23b q23c (g := (mkF m 26 #[rv ld, rv a, rv a9, rv b11, iv (0 : Int32), iv (0 : Int32), uu, uu] [(.ref a)])) rfl (by rw [hml]; rfl) (Steps.refl _) (argsL := []) (rest := []) (lenOf pd_896 rfl) rfl (jL rfl) (hb hby d55_26) (fun _ _ => ⟨rfl, rfl, (show 7 + 1 ≤ _ from by first | decide | exact nb rfl), (by dsimp only [Pt.cells, Pt.slots]; omega)⟩)
 dsimp only [Pt.U, Pt.locs, Pt.cells, Pt.slots] at X23 l23 y23 z23 st23 hQ23
 subst l23 y23 z23
 obtain ⟨t23, rfl, N23q, K23q, g23t, E23t, J23t, J23c, J23l, J23m⟩ := hQ23
 have N23 := Fr.app N18 N23q
 have g_t23 : n0 ≤ t23 := nt Z19 g23t
 have sz_t23 : h0.size ≤ t23 := nt K19.1 g23t
 have r24 : CHr Z jo T9.vm T18.heap T9.vm T23.heap := CHr.keep K23q sf0 R19.1
 have R24 := R19.trans r24
 have Z24 := nt Z19 K23q.1
 have O24 := O19.keep K23q all0
 have K24 := K19.trans K23q all0
 refine gsW (S' := T23.setTop (mkF m 31 #[rv ld, rv a, rv a9, rv b11, iv (0 : Int32), iv (0 : Int32), uu, uu] [(.ref t23)])) (fun _ k => st23.trans k) ?_
 refine gsW (fun _ k => jQ X23 hq d55_31 rfl (jj rfl) (jy X23 hq d55_33 rfl rfl k)) ?_
 have f25 := (((((F_s.ext E1).keep K9q nin0).ext E11).keep K18q (ninS (nw (nu (nu E_a.lt zs21) (Nat.le_of_eq q11.symm))) nin0)).keep K23q nin0)
 obtain ⟨cq26, kq26, q26a, q26b, q26c⟩ := isOf hZ rfl E23t
 obtain ⟨_, _, ⟨T26, L26, k26, n26⟩, -, X26, ⟨Lc26, hQ26, l26, y26, z26⟩, st26⟩ := X23.interfaceBack hx (xi := my2) (y := my0) hown (mvT hZ (ow hw 157 rfl)) (mvT hZ (ow hw 158 rfl)) (mvT hZ (ow hw 159 rfl)) (mvT hZ (ow hw 160 rfl)) (mvT hZ (ow hw 161 rfl)) (mvT hZ (ow hw 162 rfl)) (mvT hZ (ow hw 163 rfl)) (mvT hZ (ow hw 164 rfl)) (by first | decide | exact nb rfl) (backC (W := 0) (rm_hn02 l Z a0 hw [] t23 a T23.heap n0 Z24 O24 J23t J23c f25) hZ (ow hw 165 rfl) (ow hw 143 rfl) (by first | decide | exact nb rfl) (by first | decide | exact nb rfl)) q26a q26b q26c (g := (mkF m 35 #[rv ld, rv a, rv a9, rv b11, iv (0 : Int32), iv (0 : Int32), rv t23, uu] [(.ref t23)])) rfl (by rw [hml]; rfl) (Steps.refl _) (argsL := []) (rest := []) (lenOf pd_93 rfl) rfl (jL rfl) (hb hby d55_35) (fun _ _ => ⟨rfl, rfl, (show 8 + 0 ≤ _ from by first | decide | exact nb rfl), (by dsimp only [Pt.cells, Pt.slots]; omega)⟩)
 dsimp only [Pt.U, Pt.locs, Pt.cells, Pt.slots] at X26 l26 y26 z26 st26 hQ26
 subst l26 y26 z26
 obtain ⟨rfl, N26q, e26q⟩ := hQ26
 have N26 := Fr.app N23 N26q
 refine gsW (S' := T26.setTop (mkF m 40 #[rv ld, rv a, rv a9, rv b11, iv (0 : Int32), iv (0 : Int32), rv t23, uu] [(.int (1 : Int32))])) (fun _ k => st26.trans k) ?_
 refine gsW (fun _ k => jG X26 hq d55_40 ((if0 _ _).trans (feq (by decide : ¬ ((1 : Int32) = (0 : Int32)))).1) (jy X26 hq d55_43 rfl rfl k)) ?_
 have f27 := (f20.keep K23q)
 have f28 := (f22.keep K23q nin0)
 have f29 := (((((F_e.ext E1).keep K9q nin0).ext E11).keep K18q (ninS (nw (nu (nu E_a.lt zs21) (Nat.le_of_eq q11.symm))) nin0)).keep K23q nin0)
 have f30 := (((((V_ar.ext E1).keep K9q nin0).ext E11).keep K18q (ninS (nw (nu (nu V_ar.lt zs21) (Nat.le_of_eq q11.symm))) nin0)).keep K23q nin0)
 obtain ⟨cq31, kq31, q31a, q31b, q31c⟩ := isOf hZ e26q E23t
 obtain ⟨_, _, ⟨T31, L31, k31, n31⟩, -, X31, ⟨Lc31, hQ31, l31, y31, z31⟩, st31⟩ := X26.interfaceBack hx (xi := my5) (y := my1) hown (mvT hZ (ow hw 301 rfl)) (mvT hZ (ow hw 302 rfl)) (mvT hZ (ow hw 303 rfl)) (mvT hZ (ow hw 304 rfl)) (mvT hZ (ow hw 305 rfl)) (mvT hZ (ow hw 306 rfl)) (mvT hZ (ow hw 307 rfl)) (mvT hZ (ow hw 164 rfl)) (by first | decide | exact nb rfl) (backC (W := 0) (rm_nx02 l Z a0 hw [] t23 a ar ka x0 x1 T23.heap n0 Z24 O24 E23t J23t J23c J23l J23m g_t23 f27 f28 f25 f29 f30) hZ (ow hw 308 rfl) (ow hw 143 rfl) (by first | decide | exact nb rfl) (by first | decide | exact nb rfl)) q31a q31b q31c (g := (mkF m 45 #[rv ld, rv a, rv a9, rv b11, iv (0 : Int32), iv (0 : Int32), rv t23, uu] [(.ref t23)])) rfl (by rw [hml]; rfl) (Steps.refl _) (argsL := []) (rest := []) (lenOf pd_912 rfl) rfl (jL rfl) (hb hby d55_45) (fun _ _ => ⟨rfl, e26q, (show 8 + 0 ≤ _ from by first | decide | exact nb rfl), (by dsimp only [Pt.cells, Pt.slots]; omega)⟩)
 dsimp only [Pt.U, Pt.locs, Pt.cells, Pt.slots] at X31 l31 y31 z31 st31 hQ31
 subst l31 y31 z31
 obtain ⟨rfl, N31q, K31q, J31t, J31c, J31l, J31m⟩ := hQ31
 have N31 := Fr.app N26 N31q
 have r32 : CHr Z jo T9.vm T23.heap T9.vm T31.heap := CHr.keep K31q (sfS (Safe.exa hZ.alike E23t (by first | decide | exact nb rfl) (by first | decide | exact nb rfl)) sf0) R24.1
 have R32 := R24.trans r32
 have Z32 := nt Z24 K31q.1
 have O32 := O24.keep K31q (allS g_t23 all0)
 have K32 := K24.trans K31q (allS (Or.inr sz_t23) all0)
 refine gsW (S' := T31.setTop (mkF m 50 #[rv ld, rv a, rv a9, rv b11, iv (0 : Int32), iv (0 : Int32), rv t23, uu] [(.ref x0)])) (fun _ k => st31.trans k) ?_
 have f33 := ((((((Epw0.ext E1).keep K9q).ext E11).keep K18q).keep K23q).keep K31q)
 obtain ⟨T34, X34, e34, st34⟩ := castY X31 hx hZ hown (ow hw 315 rfl) rfl (Ins.self f33) (g := (mkF m 50 #[rv ld, rv a, rv a9, rv b11, iv (0 : Int32), iv (0 : Int32), rv t23, uu] [(.ref x0)])) rfl rfl (hb hby d55_50)
 refine gsW (S' := T34.setTop (mkF m 53 #[rv ld, rv a, rv a9, rv b11, iv (0 : Int32), iv (0 : Int32), rv t23, uu] [(.ref x0)])) st34 ?_
 obtain ⟨s35, es35⟩ : ∃ q, q = jS (ls.length + 16) (ls.length + wl0.length) := ⟨_, rfl⟩
 have sp35 := jN (ls.length + 16) (ls.length + wl0.length)
 rw [← es35] at sp35
 have kb35 : (ls.length + wl0.length) ≤ 765 := by omega
 have nb35 : jw (ls.length + 16) (ls.length + wl0.length) ≤ 1530 := jO (by omega) (by omega)
 have kc35 := jP (ls.length + 16) (ls.length + wl0.length)
 refine gsW (fun _ k => jQ X34 hq d55_53 rfl (jj rfl) (ja X34 hq d55_55 rfl (jI (pc' := 102) X34 hq d55_57 ((if0 _ _).trans (teq (show (0 : Int32) = (0 : Int32) from by first | decide | exact nb rfl)).1) (ja X34 hq d55_102 rfl (jI (pc' := 114) X34 hq d55_104 ((if0 _ _).trans (teq (show (0 : Int32) = (0 : Int32) from by first | decide | exact nb rfl)).1) (jb X34 hq d55_114 rfl rfl (jy X34 hq d55_115 rfl rfl k))))))) ?_
 have f36 := (((A11.keep K18q).keep K23q).keep K31q)
 have f37 := ((F18v.keep K23q nin0).keep K31q (ninS (nw (nu (nu A11.lt K18q.1) g23t)) nin0))
 have f38 := ((F18c.keep K23q nin0).keep K31q (ninS (nw (nu (nu A11.lt K18q.1) g23t)) nin0))
 have f39 := ((F18n.keep K23q nin0).keep K31q (ninS (nw (nu (nu A11.lt K18q.1) g23t)) nin0))
 have f40 := ((E18t.keep K23q).keep K31q)
 have f41 := ((V18q.keep K23q nin0).keep K31q (ninS (nw (nu (nu E18t.lt (Nat.le_refl _)) g23t)) nin0))
 have zs42 := nt zs21 E11.1
 have zs43 := nt zs42 K18q.1
 have f44 := ((((((Cpw0.ext E1).keep K9q nin0).ext E11).keep K18q (ninS (nw (nu (nu Epw0.lt zs21) (Nat.le_of_eq q11.symm))) nin0)).keep K23q nin0).keep K31q (ninS (nw (nu (nu Epw0.lt zs43) g23t)) nin0))
 have f45 := ((((((Vpw0.ext E1).keep K9q nin0).ext E11).keep K18q (ninS (nw (nu (nu Epw0.lt zs21) (Nat.le_of_eq q11.symm))) nin0)).keep K23q nin0).keep K31q (ninS (nw (nu (nu Epw0.lt zs43) g23t)) nin0))
 have f46 := ((((((Apw0.ext E1).keep K9q nin0).ext E11).keep K18q (ninS (nw (nu (nu Apw0.lt zs21) (Nat.le_of_eq q11.symm))) nin0)).keep K23q nin0).keep K31q (ninS (nw (nu (nu Apw0.lt zs43) g23t)) nin0))
 have Ts47 : Str Z T31.heap x0 wl0 := ⟨_, _, f33, f44, f45, f46⟩
 refine cVW (rest := []) X34 hx hZ hown (ow hw 316 rfl) (ow hw 98 rfl) (nfs hZ (ow hw 100 rfl)) (ow hw 100 rfl) (ow hw 99 rfl) (ow hw 73 rfl) (ow hw 101 rfl) (rm_saX l Z a0 hw [] b11 t18 kb18 ls (ls.length + 16) x0 wl0 z s35 T31.heap n0 Z32 O32 f36 f37 f38 f39 f40 f41 (by omega) (by omega) g_b11 g_t18 S0 hz Ts47 hb_0 (by omega) (by omega) (Nat.le_of_eq es35.symm) (by omega)) hby d55_117 e34 pd_836 0 (by rw [hml]; rfl) f36 rfl rfl rfl rfl ⟨by decide, nb rfl, nb rfl, nb rfl⟩ (by dsimp only; omega) fun _ T48 Lc48 X48 hQ48 => ?_
 obtain ⟨t48, kb48, rfl, N48q, K48q, o48t, F48v, F48c, F48n, E48t, V48q⟩ := hQ48
 have N48 := Fr.app N31 N48q
 have f49 := (r32.safe (nu E18t.lt K23q.1) (r24.safe (nu E18t.lt (Nat.le_refl _)) sfc18))
 have g_t48 : n0 ≤ t48 := o48t.elim (fun q => q ▸ g_t18) (fun q => nt Z32 q)
 have sz_t48 : h0.size ≤ t48 := o48t.elim (fun q => q ▸ sz_t18) (fun q => nt K32.1 q)
 have zs50 := nt K18q.1 K23q.1
 have zs51 := nt zs50 K31q.1
 have gb_t48 : h11.size ≤ t48 := o48t.elim (fun q => q ▸ g18t) (fun q => nt zs51 q)
 have r52 : CHr Z jo T9.vm T31.heap T9.vm T48.heap := CHr.keep K48q (sfS (Safe.exa hZ.alike f36 (by first | decide | exact nb rfl) (by first | decide | exact nb rfl)) (sfS f49 sf0)) R32.1
 have R52 := R32.trans r52
 have Z52 := nt Z32 K48q.1
 have O52 := O32.keep K48q (allS g_b11 (allS g_t18 all0))
 have K52 := K32.trans K48q (allS (Or.inr sz_b11) (allS (Or.inr sz_t18) all0))
 have sfc48 := Safe.keep K48q (sfS (Safe.exa hZ.alike f36 (by first | decide | exact nb rfl) (by first | decide | exact nb rfl)) (sfS f49 sf0)) R32.1 (o48t.elim (fun q => by rw [q]; exact f49) (fun q => Safe.new q))
 obtain ⟨M48, eM48⟩ : ∃ q, q = jw (ls.length + 16) (ls.length + wl0.length) := ⟨_, rfl⟩
 rw [← eM48] at V48q sp35 nb35 kc35
 have ln48 : (ls ++ wl0).length = (ls.length + wl0.length) := by rw [List.length_append]
 refine gsW (fun _ k => jW X48 hq d55_120 rfl (jf (v := (1 : Int32)) X48 hq d55_121 (je X48 hq d55_122 (jF rfl rfl) (jp (pc' := 33) X48 hq d55_124 (jy X48 hq d55_33 rfl rfl k))))) ?_
 have f53 := (J31t.keep K48q (ninS (Ne.symm (nw (nu (nu A11.lt K18q.1) g23t))) (ninS (Ne.symm (nw (nu (nu E18t.lt (Nat.le_refl _)) g23t))) nin0)))
 have f54 := (J31c.keep K48q (ninS (Ne.symm (nw (nu (nu A11.lt K18q.1) g23t))) (ninS (Ne.symm (nw (nu (nu E18t.lt (Nat.le_refl _)) g23t))) nin0)))
 have f55 := ((f25.keep K31q (ninS (nw (nu (nu E_a.lt zs43) g23t)) nin0)).keep K48q (ninS (nw (nu (nu E_a.lt zs21) (Nat.le_of_eq q11.symm))) (ninS (nw (nu (nu E_a.lt zs42) g18t)) nin0)))
 have f57 := ((E23t.keep K31q).keep K48q)
 obtain ⟨cq56, kq56, q56a, q56b, q56c⟩ := isOf hZ rfl f57
 obtain ⟨_, _, ⟨T56, L56, k56, n56⟩, -, X56, ⟨Lc56, hQ56, l56, y56, z56⟩, st56⟩ := X48.interfaceBack hx (xi := my2) (y := my0) hown (mvT hZ (ow hw 157 rfl)) (mvT hZ (ow hw 158 rfl)) (mvT hZ (ow hw 159 rfl)) (mvT hZ (ow hw 160 rfl)) (mvT hZ (ow hw 161 rfl)) (mvT hZ (ow hw 162 rfl)) (mvT hZ (ow hw 163 rfl)) (mvT hZ (ow hw 164 rfl)) (by first | decide | exact nb rfl) (backC (W := 0) (rm_hn12 l Z a0 hw [] t23 a T48.heap n0 Z52 O52 f53 f54 f55) hZ (ow hw 165 rfl) (ow hw 143 rfl) (by first | decide | exact nb rfl) (by first | decide | exact nb rfl)) q56a q56b q56c (g := (mkF m 35 #[rv ld, rv a, rv a9, rv b11, iv (0 : Int32), iv (1 : Int32), rv t23, rv x0] [(.ref t23)])) rfl (by rw [hml]; rfl) (Steps.refl _) (argsL := []) (rest := []) (lenOf pd_93 rfl) rfl (jL rfl) (hb hby d55_35) (fun _ _ => ⟨rfl, rfl, (show 9 + 0 ≤ _ from by first | decide | exact nb rfl), (by dsimp only [Pt.cells, Pt.slots]; omega)⟩)
 dsimp only [Pt.U, Pt.locs, Pt.cells, Pt.slots] at X56 l56 y56 z56 st56 hQ56
 subst l56 y56 z56
 obtain ⟨rfl, N56q, e56q⟩ := hQ56
 have N56 := Fr.app N48 N56q
 refine gsW (S' := T56.setTop (mkF m 40 #[rv ld, rv a, rv a9, rv b11, iv (0 : Int32), iv (1 : Int32), rv t23, rv x0] [(.int (1 : Int32))])) (fun _ k => st56.trans k) ?_
 refine gsW (fun _ k => jG X56 hq d55_40 ((if0 _ _).trans (feq (by decide : ¬ ((1 : Int32) = (0 : Int32)))).1) (jy X56 hq d55_43 rfl rfl k)) ?_
 have f58 := (J31l.keep K48q (ninS (Ne.symm (nw (nu (nu A11.lt K18q.1) g23t))) (ninS (Ne.symm (nw (nu (nu E18t.lt (Nat.le_refl _)) g23t))) nin0)))
 have f59 := (J31m.keep K48q (ninS (Ne.symm (nw (nu (nu A11.lt K18q.1) g23t))) (ninS (Ne.symm (nw (nu (nu E18t.lt (Nat.le_refl _)) g23t))) nin0)))
 have f60 := ((f27.keep K31q).keep K48q)
 have f61 := ((f28.keep K31q (ninS (nw (nu (nu E_a.lt zs43) g23t)) nin0)).keep K48q (ninS (nw (nu (nu E_a.lt zs21) (Nat.le_of_eq q11.symm))) (ninS (nw (nu (nu E_a.lt zs42) g18t)) nin0)))
 have f62 := ((f29.keep K31q (ninS (nw (nu (nu E_a.lt zs43) g23t)) nin0)).keep K48q (ninS (nw (nu (nu E_a.lt zs21) (Nat.le_of_eq q11.symm))) (ninS (nw (nu (nu E_a.lt zs42) g18t)) nin0)))
 have f63 := ((f30.keep K31q (ninS (nw (nu (nu V_ar.lt zs43) g23t)) nin0)).keep K48q (ninS (nw (nu (nu V_ar.lt zs21) (Nat.le_of_eq q11.symm))) (ninS (nw (nu (nu V_ar.lt zs42) g18t)) nin0)))
 obtain ⟨cq64, kq64, q64a, q64b, q64c⟩ := isOf hZ e56q f57
 obtain ⟨_, _, ⟨T64, L64, k64, n64⟩, -, X64, ⟨Lc64, hQ64, l64, y64, z64⟩, st64⟩ := X56.interfaceBack hx (xi := my5) (y := my1) hown (mvT hZ (ow hw 301 rfl)) (mvT hZ (ow hw 302 rfl)) (mvT hZ (ow hw 303 rfl)) (mvT hZ (ow hw 304 rfl)) (mvT hZ (ow hw 305 rfl)) (mvT hZ (ow hw 306 rfl)) (mvT hZ (ow hw 307 rfl)) (mvT hZ (ow hw 164 rfl)) (by first | decide | exact nb rfl) (backC (W := 0) (rm_nx12 l Z a0 hw [] t23 a ar ka x0 x1 T48.heap n0 Z52 O52 f57 f53 f54 f58 f59 g_t23 f60 f61 f55 f62 f63) hZ (ow hw 308 rfl) (ow hw 143 rfl) (by first | decide | exact nb rfl) (by first | decide | exact nb rfl)) q64a q64b q64c (g := (mkF m 45 #[rv ld, rv a, rv a9, rv b11, iv (0 : Int32), iv (1 : Int32), rv t23, rv x0] [(.ref t23)])) rfl (by rw [hml]; rfl) (Steps.refl _) (argsL := []) (rest := []) (lenOf pd_912 rfl) rfl (jL rfl) (hb hby d55_45) (fun _ _ => ⟨rfl, e56q, (show 9 + 0 ≤ _ from by first | decide | exact nb rfl), (by dsimp only [Pt.cells, Pt.slots]; omega)⟩)
 dsimp only [Pt.U, Pt.locs, Pt.cells, Pt.slots] at X64 l64 y64 z64 st64 hQ64
 subst l64 y64 z64
 obtain ⟨rfl, N64q, K64q, J64t, J64c, J64l, J64m⟩ := hQ64
 have N64 := Fr.app N56 N64q
 have r65 : CHr Z jo T9.vm T48.heap T9.vm T64.heap := CHr.keep K64q (sfS (Safe.exa hZ.alike f57 (by first | decide | exact nb rfl) (by first | decide | exact nb rfl)) sf0) R52.1
 have R65 := R52.trans r65
 have Z65 := nt Z52 K64q.1
 have O65 := O52.keep K64q (allS g_t23 all0)
 have K65 := K52.trans K64q (allS (Or.inr sz_t23) all0)
 refine gsW (S' := T64.setTop (mkF m 50 #[rv ld, rv a, rv a9, rv b11, iv (0 : Int32), iv (1 : Int32), rv t23, rv x0] [(.ref x1)])) (fun _ k => st64.trans k) ?_
 have f66 := ((((((((Epw1.ext E1).keep K9q).ext E11).keep K18q).keep K23q).keep K31q).keep K48q).keep K64q)
 obtain ⟨T67, X67, e67, st67⟩ := castY X64 hx hZ hown (ow hw 315 rfl) rfl (Ins.self f66) (g := (mkF m 50 #[rv ld, rv a, rv a9, rv b11, iv (0 : Int32), iv (1 : Int32), rv t23, rv x0] [(.ref x1)])) rfl rfl (hb hby d55_50)
 refine gsW (S' := T67.setTop (mkF m 53 #[rv ld, rv a, rv a9, rv b11, iv (0 : Int32), iv (1 : Int32), rv t23, rv x0] [(.ref x1)])) st67 ?_
 refine gsW (fun _ k => jQ X67 hq d55_53 rfl (jF rfl rfl) (ja X67 hq d55_55 rfl (jG X67 hq d55_57 ((if0 _ _).trans (feq (by decide : ¬ ((1 : Int32) = (0 : Int32)))).1) (jb X67 hq d55_60 rfl rfl k)))) ?_
 have f68 := ((f36.keep K48q).keep K64q)
 have f69 := (F48v.keep K64q (ninS (nw (nu (nu A11.lt K18q.1) g23t)) nin0))
 have f70 := (F48c.keep K64q (ninS (nw (nu (nu A11.lt K18q.1) g23t)) nin0))
 have f71 := (F48n.keep K64q (ninS (nw (nu (nu A11.lt K18q.1) g23t)) nin0))
 have f72 := (E48t.keep K64q)
 have f73 := (f57.keep K64q)
 have f74 := (V48q.keep K64q (ninS (Exa.ne f72 f73 (by first | decide | exact nb rfl)) nin0))
 refine cVW (rest := []) X67 hx hZ hown (ow hw 332 rfl) (ow hw 333 rfl) (nfs hZ (ow hw 334 rfl)) (ow hw 334 rfl) (ow hw 209 rfl) (ow hw 73 rfl) (ow hw 210 rfl) (rm_slT l Z a0 hw [] b11 t48 kb48 (ls ++ wl0) M48 T64.heap n0 Z65 O65 f68 f69 f70 f71 f72 f74 (by omega) (by omega)) hby d55_61 e67 pd_644 0 (by rw [hml]; rfl) f68 rfl rfl rfl rfl ⟨by decide, nb rfl, nb rfl, nb rfl⟩ (by dsimp only; omega) fun _ T75 Lc75 X75 hQ75 => ?_
 obtain ⟨rfl, N75q, e75q⟩ := hQ75
 have N75 := Fr.app N64 N75q
 have f76 := ((((((((Cpw1.ext E1).keep K9q nin0).ext E11).keep K18q (ninS (nw (nu (nu Epw1.lt zs21) (Nat.le_of_eq q11.symm))) nin0)).keep K23q nin0).keep K31q (ninS (nw (nu (nu Epw1.lt zs43) g23t)) nin0)).keep K48q (ninS (nw (nu (nu Epw1.lt zs21) (Nat.le_of_eq q11.symm))) (ninS (nw (nu (nu Epw1.lt zs42) g18t)) nin0))).keep K64q (ninS (nw (nu (nu Epw1.lt zs43) g23t)) nin0))
 have f77 := ((((((((Vpw1.ext E1).keep K9q nin0).ext E11).keep K18q (ninS (nw (nu (nu Epw1.lt zs21) (Nat.le_of_eq q11.symm))) nin0)).keep K23q nin0).keep K31q (ninS (nw (nu (nu Epw1.lt zs43) g23t)) nin0)).keep K48q (ninS (nw (nu (nu Epw1.lt zs21) (Nat.le_of_eq q11.symm))) (ninS (nw (nu (nu Epw1.lt zs42) g18t)) nin0))).keep K64q (ninS (nw (nu (nu Epw1.lt zs43) g23t)) nin0))
 have f78 := ((((((((Apw1.ext E1).keep K9q nin0).ext E11).keep K18q (ninS (nw (nu (nu Apw1.lt zs21) (Nat.le_of_eq q11.symm))) nin0)).keep K23q nin0).keep K31q (ninS (nw (nu (nu Apw1.lt zs43) g23t)) nin0)).keep K48q (ninS (nw (nu (nu Apw1.lt zs21) (Nat.le_of_eq q11.symm))) (ninS (nw (nu (nu Apw1.lt zs42) g18t)) nin0))).keep K64q (ninS (nw (nu (nu Apw1.lt zs43) g23t)) nin0))
 have Ts79 : Str Z T64.heap x1 wl1 := ⟨_, _, f66, f76, f77, f78⟩
 refine gsW (fun _ k => ja X75 hq d55_64 rfl (o_isub X75 hq d55_66 (jf (v := (1 : Int32)) X75 hq d55_67 (jt X75 hq d55_68 (jy X75 hq d55_69 rfl rfl k))))) ?_
 refine cVW (rest := [(.int (((oI (ls ++ wl0).length) - (0 : Int32)) + (1 : Int32)))]) X75 hx hZ hown (ow hw 55 rfl) (ow hw 56 rfl) (nfs hZ (ow hw 58 rfl)) (ow hw 58 rfl) (ow hw 57 rfl) (ow hw 7 rfl) (ow hw 59 rfl) (rm_lenL l Z a0 hw [] x1 wl1 z T64.heap n0 Z65 O65 Ts79 S0 hz) hby d55_71 e75q pd_644 1 (by rw [hml]; rfl) Ts79.exa rfl rfl rfl rfl ⟨by decide, nb rfl, nb rfl, nb rfl⟩ (by dsimp only; omega) fun _ T80 Lc80 X80 hQ80 => ?_
 obtain ⟨rfl, N80q, e80q⟩ := hQ80
 have N80 := Fr.app N75 N80q
 refine gsW (fun _ k => jt X80 hq d55_74 (jz (v := (80 : Int32)) X80 hq d55_75 k)) ?_
 by_cases hc81 : (80 : Int32) < ((((oI (ls ++ wl0).length) - (0 : Int32)) + (1 : Int32)) + (oI wl1.length))
 ·obtain ⟨s82, es82⟩ : ∃ q, q = jS M48 ((ls ++ wl0).length + 1) := ⟨_, rfl⟩
  have sp82 := jN M48 ((ls ++ wl0).length + 1)
  rw [← es82] at sp82
  have kb82 : ((ls ++ wl0).length + 1) ≤ 765 := by omega
  have nb82 : jw M48 ((ls ++ wl0).length + 1) ≤ 1530 := jO (by omega) (by omega)
  have kc82 := jP M48 ((ls ++ wl0).length + 1)
  refine gsW (fun _ k => jm X80 hq d55_77 (tlt hc81).2.2.2 (jb X80 hq d55_80 rfl rfl (jz (v := (10 : Int32)) X80 hq d55_81 k))) ?_
  refine cVW (rest := []) X80 hx hZ hown (ow hw 170 rfl) (ow hw 171 rfl) (nfs hZ (ow hw 173 rfl)) (ow hw 173 rfl) (ow hw 172 rfl) (ow hw 73 rfl) (ow hw 174 rfl) (rm_scX l Z a0 hw [] b11 t48 kb48 (ls ++ wl0) M48 (10 : Int32) z s82 T64.heap n0 Z65 O65 f68 f69 f70 f71 f72 f74 (by omega) (by omega) g_b11 g_t48 S0 hz (by first | decide | exact nb rfl) (by omega) (Nat.le_of_eq es82.symm) (by omega)) hby d55_83 e80q pd_904 0 (by rw [hml]; rfl) f68 rfl rfl rfl rfl ⟨by decide, nb rfl, nb rfl, nb rfl⟩ (by dsimp only; omega) fun _ T83 Lc83 X83 hQ83 => ?_
  obtain ⟨t83, kb83, rfl, N83q, K83q, o83t, F83v, F83c, F83n, E83t, V83q⟩ := hQ83
  have N83 := Fr.app N80 N83q
  have f84 := (r65.safe (nu E48t.lt (Nat.le_refl _)) sfc48)
  have g_t83 : n0 ≤ t83 := o83t.elim (fun q => q ▸ g_t48) (fun q => nt Z65 q)
  have sz_t83 : h0.size ≤ t83 := o83t.elim (fun q => q ▸ sz_t48) (fun q => nt K65.1 q)
  have zs85 := nt zs51 K48q.1
  have zs86 := nt zs85 K64q.1
  have gb_t83 : h11.size ≤ t83 := o83t.elim (fun q => q ▸ gb_t48) (fun q => nt zs86 q)
  have r87 : CHr Z jo T9.vm T64.heap T9.vm T83.heap := CHr.keep K83q (sfS (Safe.exa hZ.alike f68 (by first | decide | exact nb rfl) (by first | decide | exact nb rfl)) (sfS f84 sf0)) R65.1
  have R87 := R65.trans r87
  have Z87 := nt Z65 K83q.1
  have O87 := O65.keep K83q (allS g_b11 (allS g_t48 all0))
  have K87 := K65.trans K83q (allS (Or.inr sz_b11) (allS (Or.inr sz_t48) all0))
  have sfc83 := Safe.keep K83q (sfS (Safe.exa hZ.alike f68 (by first | decide | exact nb rfl) (by first | decide | exact nb rfl)) (sfS f84 sf0)) R65.1 (o83t.elim (fun q => by rw [q]; exact f84) (fun q => Safe.new q))
  obtain ⟨M83, eM83⟩ : ∃ q, q = jw M48 ((ls ++ wl0).length + 1) := ⟨_, rfl⟩
  rw [← eM83] at V83q sp82 nb82 kc82
  have ln83 : ((ls ++ wl0) ++ [(10 : Int32)]).length = ((ls ++ wl0).length + 1) := by rw [List.length_append]; rfl
  refine gsW (fun _ k => jW X83 hq d55_86 rfl (jb X83 hq d55_87 rfl rfl k)) ?_
  have f88 := (f68.keep K83q)
  refine cVW (rest := []) X83 hx hZ hown (ow hw 332 rfl) (ow hw 333 rfl) (nfs hZ (ow hw 334 rfl)) (ow hw 334 rfl) (ow hw 209 rfl) (ow hw 73 rfl) (ow hw 210 rfl) (rm_slT l Z a0 hw [] b11 t83 kb83 ((ls ++ wl0) ++ [(10 : Int32)]) M83 T83.heap n0 Z87 O87 f88 F83v F83c F83n E83t V83q (by omega) (by omega)) hby d55_88 rfl pd_644 0 (by rw [hml]; rfl) f88 rfl rfl rfl rfl ⟨by decide, nb rfl, nb rfl, nb rfl⟩ (by dsimp only; omega) fun _ T89 Lc89 X89 hQ89 => ?_
  obtain ⟨rfl, N89q, e89q⟩ := hQ89
  have N89 := Fr.app N83 N89q
  obtain ⟨s90, es90⟩ : ∃ q, q = jS M83 (((ls ++ wl0) ++ [(10 : Int32)]).length + (List.replicate ls.length (32 : Int32)).length) := ⟨_, rfl⟩
  have sp90 := jN M83 (((ls ++ wl0) ++ [(10 : Int32)]).length + (List.replicate ls.length (32 : Int32)).length)
  rw [← es90] at sp90
  have kb90 : (((ls ++ wl0) ++ [(10 : Int32)]).length + (List.replicate ls.length (32 : Int32)).length) ≤ 765 := by omega
  have nb90 : jw M83 (((ls ++ wl0) ++ [(10 : Int32)]).length + (List.replicate ls.length (32 : Int32)).length) ≤ 1530 := jO (by omega) (by omega)
  have kc90 := jP M83 (((ls ++ wl0) ++ [(10 : Int32)]).length + (List.replicate ls.length (32 : Int32)).length)
  refine gsW (fun _ k => je X89 hq d55_91 (jF rfl rfl) (jb X89 hq d55_93 rfl rfl (jb X89 hq d55_94 rfl rfl k))) ?_
  have f91 := (((((((Epr9.ext E11).keep K18q).keep K23q).keep K31q).keep K48q).keep K64q).keep K83q)
  have zs92 := nt E11.1 K18q.1
  have f93 := (((((((Cpr9.ext E11).keep K18q (ninS (nw (nu (nu Epr9.lt (Nat.le_refl _)) (Nat.le_of_eq q11.symm))) nin0)).keep K23q nin0).keep K31q (ninS (nw (nu (nu Epr9.lt zs92) g23t)) nin0)).keep K48q (ninS (nw (nu (nu Epr9.lt (Nat.le_refl _)) (Nat.le_of_eq q11.symm))) (ninS (nw (nu (nu Epr9.lt E11.1) g18t)) nin0))).keep K64q (ninS (nw (nu (nu Epr9.lt zs92) g23t)) nin0)).keep K83q (ninS (nw (nu (nu Epr9.lt (Nat.le_refl _)) (Nat.le_of_eq q11.symm))) (ninS (nw (nu (nu Epr9.lt E11.1) gb_t48)) nin0)))
  have f94 := (((((((Vpr9.ext E11).keep K18q (ninS (nw (nu (nu Epr9.lt (Nat.le_refl _)) (Nat.le_of_eq q11.symm))) nin0)).keep K23q nin0).keep K31q (ninS (nw (nu (nu Epr9.lt zs92) g23t)) nin0)).keep K48q (ninS (nw (nu (nu Epr9.lt (Nat.le_refl _)) (Nat.le_of_eq q11.symm))) (ninS (nw (nu (nu Epr9.lt E11.1) g18t)) nin0))).keep K64q (ninS (nw (nu (nu Epr9.lt zs92) g23t)) nin0)).keep K83q (ninS (nw (nu (nu Epr9.lt (Nat.le_refl _)) (Nat.le_of_eq q11.symm))) (ninS (nw (nu (nu Epr9.lt E11.1) gb_t48)) nin0)))
  have f95 := (((((((Apr9.ext E11).keep K18q (ninS (nw (nu (nu Apr9.lt (Nat.le_refl _)) (Nat.le_of_eq q11.symm))) nin0)).keep K23q nin0).keep K31q (ninS (nw (nu (nu Apr9.lt zs92) g23t)) nin0)).keep K48q (ninS (nw (nu (nu Apr9.lt (Nat.le_refl _)) (Nat.le_of_eq q11.symm))) (ninS (nw (nu (nu Apr9.lt E11.1) g18t)) nin0))).keep K64q (ninS (nw (nu (nu Apr9.lt zs92) g23t)) nin0)).keep K83q (ninS (nw (nu (nu Apr9.lt (Nat.le_refl _)) (Nat.le_of_eq q11.symm))) (ninS (nw (nu (nu Apr9.lt E11.1) gb_t48)) nin0)))
  have Ts96 : Str Z T83.heap a9 (List.replicate ls.length (32 : Int32)) := ⟨_, _, f91, f93, f94, f95⟩
  refine cVW (rest := []) X89 hx hZ hown (ow hw 316 rfl) (ow hw 98 rfl) (nfs hZ (ow hw 100 rfl)) (ow hw 100 rfl) (ow hw 99 rfl) (ow hw 73 rfl) (ow hw 101 rfl) (rm_saX l Z a0 hw [] b11 t83 kb83 ((ls ++ wl0) ++ [(10 : Int32)]) M83 a9 (List.replicate ls.length (32 : Int32)) z s90 T83.heap n0 Z87 O87 f88 F83v F83c F83n E83t V83q (by omega) (by omega) g_b11 g_t83 S0 hz Ts96 (own_rpb _) (by omega) (by omega) (Nat.le_of_eq es90.symm) (by omega)) hby d55_95 e89q pd_836 0 (by rw [hml]; rfl) f88 rfl rfl rfl rfl ⟨by decide, nb rfl, nb rfl, nb rfl⟩ (by dsimp only; omega) fun _ T97 Lc97 X97 hQ97 => ?_
  obtain ⟨t97, kb97, rfl, N97q, K97q, o97t, F97v, F97c, F97n, E97t, V97q⟩ := hQ97
  have N97 := Fr.app N89 N97q
  have g_t97 : n0 ≤ t97 := o97t.elim (fun q => q ▸ g_t83) (fun q => nt Z87 q)
  have sz_t97 : h0.size ≤ t97 := o97t.elim (fun q => q ▸ sz_t83) (fun q => nt K87.1 q)
  have zs98 := nt zs86 K83q.1
  have gb_t97 : h11.size ≤ t97 := o97t.elim (fun q => q ▸ gb_t83) (fun q => nt zs98 q)
  have r99 : CHr Z jo T9.vm T83.heap T9.vm T97.heap := CHr.keep K97q (sfS (Safe.exa hZ.alike f88 (by first | decide | exact nb rfl) (by first | decide | exact nb rfl)) (sfS sfc83 sf0)) R87.1
  have R99 := R87.trans r99
  have Z99 := nt Z87 K97q.1
  have O99 := O87.keep K97q (allS g_b11 (allS g_t83 all0))
  have K99 := K87.trans K97q (allS (Or.inr sz_b11) (allS (Or.inr sz_t83) all0))
  have sfc97 := Safe.keep K97q (sfS (Safe.exa hZ.alike f88 (by first | decide | exact nb rfl) (by first | decide | exact nb rfl)) (sfS sfc83 sf0)) R87.1 (o97t.elim (fun q => by rw [q]; exact sfc83) (fun q => Safe.new q))
  obtain ⟨M97, eM97⟩ : ∃ q, q = jw M83 (((ls ++ wl0) ++ [(10 : Int32)]).length + (List.replicate ls.length (32 : Int32)).length) := ⟨_, rfl⟩
  rw [← eM97] at V97q sp90 nb90 kc90
  have ln97 : (((ls ++ wl0) ++ [(10 : Int32)]) ++ (List.replicate ls.length (32 : Int32))).length = (((ls ++ wl0) ++ [(10 : Int32)]).length + (List.replicate ls.length (32 : Int32)).length) := by rw [List.length_append]
  obtain ⟨s100, es100⟩ : ∃ q, q = jS M97 ((((ls ++ wl0) ++ [(10 : Int32)]) ++ (List.replicate ls.length (32 : Int32))).length + wl1.length) := ⟨_, rfl⟩
  have sp100 := jN M97 ((((ls ++ wl0) ++ [(10 : Int32)]) ++ (List.replicate ls.length (32 : Int32))).length + wl1.length)
  rw [← es100] at sp100
  have kb100 : ((((ls ++ wl0) ++ [(10 : Int32)]) ++ (List.replicate ls.length (32 : Int32))).length + wl1.length) ≤ 765 := by omega
  have nb100 : jw M97 ((((ls ++ wl0) ++ [(10 : Int32)]) ++ (List.replicate ls.length (32 : Int32))).length + wl1.length) ≤ 1530 := jO (by omega) (by omega)
  have kc100 := jP M97 ((((ls ++ wl0) ++ [(10 : Int32)]) ++ (List.replicate ls.length (32 : Int32))).length + wl1.length)
  refine gsW (fun _ k => jW X97 hq d55_98 rfl (jf (v := (0 : Int32)) X97 hq d55_99 (je X97 hq d55_100 (jF rfl rfl) (ja X97 hq d55_102 rfl (jI (pc' := 114) X97 hq d55_104 ((if0 _ _).trans (teq (show (0 : Int32) = (0 : Int32) from by first | decide | exact nb rfl)).1) (jb X97 hq d55_114 rfl rfl (jy X97 hq d55_115 rfl rfl k))))))) ?_
  have f101 := (f88.keep K97q)
  have f102 := ((Ts79.exa.keep K83q).keep K97q)
  have f103 := ((f76.keep K83q (ninS (nw (nu (nu Epw1.lt zs21) (Nat.le_of_eq q11.symm))) (ninS (nw (nu (nu Epw1.lt zs42) gb_t48)) nin0))).keep K97q (ninS (nw (nu (nu Epw1.lt zs21) (Nat.le_of_eq q11.symm))) (ninS (nw (nu (nu Epw1.lt zs42) gb_t83)) nin0)))
  have f104 := ((f77.keep K83q (ninS (nw (nu (nu Epw1.lt zs21) (Nat.le_of_eq q11.symm))) (ninS (nw (nu (nu Epw1.lt zs42) gb_t48)) nin0))).keep K97q (ninS (nw (nu (nu Epw1.lt zs21) (Nat.le_of_eq q11.symm))) (ninS (nw (nu (nu Epw1.lt zs42) gb_t83)) nin0)))
  have f105 := ((f78.keep K83q (ninS (nw (nu (nu Apw1.lt zs21) (Nat.le_of_eq q11.symm))) (ninS (nw (nu (nu Apw1.lt zs42) gb_t48)) nin0))).keep K97q (ninS (nw (nu (nu Apw1.lt zs21) (Nat.le_of_eq q11.symm))) (ninS (nw (nu (nu Apw1.lt zs42) gb_t83)) nin0)))
  have Ts106 : Str Z T97.heap x1 wl1 := ⟨_, _, f102, f103, f104, f105⟩
  refine cVW (rest := []) X97 hx hZ hown (ow hw 316 rfl) (ow hw 98 rfl) (nfs hZ (ow hw 100 rfl)) (ow hw 100 rfl) (ow hw 99 rfl) (ow hw 73 rfl) (ow hw 101 rfl) (rm_saX l Z a0 hw [] b11 t97 kb97 (((ls ++ wl0) ++ [(10 : Int32)]) ++ (List.replicate ls.length (32 : Int32))) M97 x1 wl1 z s100 T97.heap n0 Z99 O99 f101 F97v F97c F97n E97t V97q (by omega) (by omega) g_b11 g_t97 S0 hz Ts106 hb_1 (by omega) (by omega) (Nat.le_of_eq es100.symm) (by omega)) hby d55_117 rfl pd_836 0 (by rw [hml]; rfl) f101 rfl rfl rfl rfl ⟨by decide, nb rfl, nb rfl, nb rfl⟩ (by dsimp only; omega) fun _ T107 Lc107 X107 hQ107 => ?_
  obtain ⟨t107, kb107, rfl, N107q, K107q, o107t, F107v, F107c, F107n, E107t, V107q⟩ := hQ107
  have N107 := Fr.app N97 N107q
  have g_t107 : n0 ≤ t107 := o107t.elim (fun q => q ▸ g_t97) (fun q => nt Z99 q)
  have sz_t107 : h0.size ≤ t107 := o107t.elim (fun q => q ▸ sz_t97) (fun q => nt K99.1 q)
  have zs108 := nt zs98 K97q.1
  have gb_t107 : h11.size ≤ t107 := o107t.elim (fun q => q ▸ gb_t97) (fun q => nt zs108 q)
  have r109 : CHr Z jo T9.vm T97.heap T9.vm T107.heap := CHr.keep K107q (sfS (Safe.exa hZ.alike f101 (by first | decide | exact nb rfl) (by first | decide | exact nb rfl)) (sfS sfc97 sf0)) R99.1
  have R109 := R99.trans r109
  have Z109 := nt Z99 K107q.1
  have O109 := O99.keep K107q (allS g_b11 (allS g_t97 all0))
  have K109 := K99.trans K107q (allS (Or.inr sz_b11) (allS (Or.inr sz_t97) all0))
  have sfc107 := Safe.keep K107q (sfS (Safe.exa hZ.alike f101 (by first | decide | exact nb rfl) (by first | decide | exact nb rfl)) (sfS sfc97 sf0)) R99.1 (o107t.elim (fun q => by rw [q]; exact sfc97) (fun q => Safe.new q))
  obtain ⟨M107, eM107⟩ : ∃ q, q = jw M97 ((((ls ++ wl0) ++ [(10 : Int32)]) ++ (List.replicate ls.length (32 : Int32))).length + wl1.length) := ⟨_, rfl⟩
  rw [← eM107] at V107q sp100 nb100 kc100
  have ln107 : ((((ls ++ wl0) ++ [(10 : Int32)]) ++ (List.replicate ls.length (32 : Int32))) ++ wl1).length = ((((ls ++ wl0) ++ [(10 : Int32)]) ++ (List.replicate ls.length (32 : Int32))).length + wl1.length) := by rw [List.length_append]
  refine gsW (fun _ k => jW X107 hq d55_120 rfl (jf (v := (1 : Int32)) X107 hq d55_121 (je X107 hq d55_122 (jF rfl rfl) (jp (pc' := 33) X107 hq d55_124 (jy X107 hq d55_33 rfl rfl k))))) ?_
  have f110 := (((f73.keep K83q).keep K97q).keep K107q)
  have f111 := (((f72.keep K83q).keep K97q).keep K107q)
  have f112 := ((E83t.keep K97q).keep K107q)
  have f113 := (E97t.keep K107q)
  have f114 := (((J64t.keep K83q (ninS (Ne.symm (nw (nu (nu A11.lt K18q.1) g23t))) (ninS (Exa.ne f110 f111 (by first | decide | exact nb rfl)) nin0))).keep K97q (ninS (Ne.symm (nw (nu (nu A11.lt K18q.1) g23t))) (ninS (Exa.ne f110 f112 (by first | decide | exact nb rfl)) nin0))).keep K107q (ninS (Ne.symm (nw (nu (nu A11.lt K18q.1) g23t))) (ninS (Exa.ne f110 f113 (by first | decide | exact nb rfl)) nin0)))
  have f115 := (((J64c.keep K83q (ninS (Ne.symm (nw (nu (nu A11.lt K18q.1) g23t))) (ninS (Exa.ne f110 f111 (by first | decide | exact nb rfl)) nin0))).keep K97q (ninS (Ne.symm (nw (nu (nu A11.lt K18q.1) g23t))) (ninS (Exa.ne f110 f112 (by first | decide | exact nb rfl)) nin0))).keep K107q (ninS (Ne.symm (nw (nu (nu A11.lt K18q.1) g23t))) (ninS (Exa.ne f110 f113 (by first | decide | exact nb rfl)) nin0)))
  have f116 := ((((f55.keep K64q (ninS (nw (nu (nu E_a.lt zs43) g23t)) nin0)).keep K83q (ninS (nw (nu (nu E_a.lt zs21) (Nat.le_of_eq q11.symm))) (ninS (nw (nu (nu E_a.lt zs42) gb_t48)) nin0))).keep K97q (ninS (nw (nu (nu E_a.lt zs21) (Nat.le_of_eq q11.symm))) (ninS (nw (nu (nu E_a.lt zs42) gb_t83)) nin0))).keep K107q (ninS (nw (nu (nu E_a.lt zs21) (Nat.le_of_eq q11.symm))) (ninS (nw (nu (nu E_a.lt zs42) gb_t97)) nin0)))
  obtain ⟨cq117, kq117, q117a, q117b, q117c⟩ := isOf hZ rfl f110
  obtain ⟨_, _, ⟨T117, L117, k117, n117⟩, -, X117, ⟨Lc117, hQ117, l117, y117, z117⟩, st117⟩ := X107.interfaceBack hx (xi := my2) (y := my0) hown (mvT hZ (ow hw 157 rfl)) (mvT hZ (ow hw 158 rfl)) (mvT hZ (ow hw 159 rfl)) (mvT hZ (ow hw 160 rfl)) (mvT hZ (ow hw 161 rfl)) (mvT hZ (ow hw 162 rfl)) (mvT hZ (ow hw 163 rfl)) (mvT hZ (ow hw 164 rfl)) (by first | decide | exact nb rfl) (backC (W := 0) (rm_hn22 l Z a0 hw [] t23 a T107.heap n0 Z109 O109 f114 f115 f116) hZ (ow hw 165 rfl) (ow hw 143 rfl) (by first | decide | exact nb rfl) (by first | decide | exact nb rfl)) q117a q117b q117c (g := (mkF m 35 #[rv ld, rv a, rv a9, rv b11, iv ((oI ((ls ++ wl0) ++ [(10 : Int32)]).length)), iv (1 : Int32), rv t23, rv x1] [(.ref t23)])) rfl (by rw [hml]; rfl) (Steps.refl _) (argsL := []) (rest := []) (lenOf pd_93 rfl) rfl (jL rfl) (hb hby d55_35) (fun _ _ => ⟨rfl, rfl, (show 12 + 0 ≤ _ from by first | decide | exact nb rfl), (by dsimp only [Pt.cells, Pt.slots]; omega)⟩)
  dsimp only [Pt.U, Pt.locs, Pt.cells, Pt.slots] at X117 l117 y117 z117 st117 hQ117
  subst l117 y117 z117
  obtain ⟨rfl, N117q, e117q⟩ := hQ117
  have N117 := Fr.app N107 N117q
  refine gsW (S' := T117.setTop (mkF m 40 #[rv ld, rv a, rv a9, rv b11, iv ((oI ((ls ++ wl0) ++ [(10 : Int32)]).length)), iv (1 : Int32), rv t23, rv x1] [(.int (0 : Int32))])) (fun _ k => st117.trans k) ?_
  obtain ⟨s118, es118⟩ : ∃ q, q = jS M107 (((((ls ++ wl0) ++ [(10 : Int32)]) ++ (List.replicate ls.length (32 : Int32))) ++ wl1).length + 1) := ⟨_, rfl⟩
  have sp118 := jN M107 (((((ls ++ wl0) ++ [(10 : Int32)]) ++ (List.replicate ls.length (32 : Int32))) ++ wl1).length + 1)
  rw [← es118] at sp118
  have kb118 : (((((ls ++ wl0) ++ [(10 : Int32)]) ++ (List.replicate ls.length (32 : Int32))) ++ wl1).length + 1) ≤ 765 := by omega
  have nb118 : jw M107 (((((ls ++ wl0) ++ [(10 : Int32)]) ++ (List.replicate ls.length (32 : Int32))) ++ wl1).length + 1) ≤ 1530 := jO (by omega) (by omega)
  have kc118 := jP M107 (((((ls ++ wl0) ++ [(10 : Int32)]) ++ (List.replicate ls.length (32 : Int32))) ++ wl1).length + 1)
  refine gsW (fun _ k => jI (pc' := 127) X117 hq d55_40 ((if0 _ _).trans (teq (show (0 : Int32) = (0 : Int32) from by first | decide | exact nb rfl)).1) (jb X117 hq d55_127 rfl rfl (jz (v := (10 : Int32)) X117 hq d55_128 k))) ?_
  have f119 := (f101.keep K107q)
  refine cVW (rest := []) X117 hx hZ hown (ow hw 170 rfl) (ow hw 171 rfl) (nfs hZ (ow hw 173 rfl)) (ow hw 173 rfl) (ow hw 172 rfl) (ow hw 73 rfl) (ow hw 174 rfl) (rm_scX l Z a0 hw [] b11 t107 kb107 ((((ls ++ wl0) ++ [(10 : Int32)]) ++ (List.replicate ls.length (32 : Int32))) ++ wl1) M107 (10 : Int32) z s118 T107.heap n0 Z109 O109 f119 F107v F107c F107n E107t V107q (by omega) (by omega) g_b11 g_t107 S0 hz (by first | decide | exact nb rfl) (by omega) (Nat.le_of_eq es118.symm) (by omega)) hby d55_130 e117q pd_904 0 (by rw [hml]; rfl) f119 rfl rfl rfl rfl ⟨by decide, nb rfl, nb rfl, nb rfl⟩ (by dsimp only; omega) fun _ T120 Lc120 X120 hQ120 => ?_
  obtain ⟨t120, kb120, rfl, N120q, K120q, o120t, F120v, F120c, F120n, E120t, V120q⟩ := hQ120
  have N120 := Fr.app N117 N120q
  have g_t120 : n0 ≤ t120 := o120t.elim (fun q => q ▸ g_t107) (fun q => nt Z109 q)
  have sz_t120 : h0.size ≤ t120 := o120t.elim (fun q => q ▸ sz_t107) (fun q => nt K109.1 q)
  have zs121 := nt zs108 K107q.1
  have gb_t120 : h11.size ≤ t120 := o120t.elim (fun q => q ▸ gb_t107) (fun q => nt zs121 q)
  have r122 : CHr Z jo T9.vm T107.heap T9.vm T120.heap := CHr.keep K120q (sfS (Safe.exa hZ.alike f119 (by first | decide | exact nb rfl) (by first | decide | exact nb rfl)) (sfS sfc107 sf0)) R109.1
  have R122 := R109.trans r122
  have Z122 := nt Z109 K120q.1
  have O122 := O109.keep K120q (allS g_b11 (allS g_t107 all0))
  have K122 := K109.trans K120q (allS (Or.inr sz_b11) (allS (Or.inr sz_t107) all0))
  have sfc120 := Safe.keep K120q (sfS (Safe.exa hZ.alike f119 (by first | decide | exact nb rfl) (by first | decide | exact nb rfl)) (sfS sfc107 sf0)) R109.1 (o120t.elim (fun q => by rw [q]; exact sfc107) (fun q => Safe.new q))
  obtain ⟨M120, eM120⟩ : ∃ q, q = jw M107 (((((ls ++ wl0) ++ [(10 : Int32)]) ++ (List.replicate ls.length (32 : Int32))) ++ wl1).length + 1) := ⟨_, rfl⟩
  rw [← eM120] at V120q sp118 nb118 kc118
  have ln120 : (((((ls ++ wl0) ++ [(10 : Int32)]) ++ (List.replicate ls.length (32 : Int32))) ++ wl1) ++ [(10 : Int32)]).length = (((((ls ++ wl0) ++ [(10 : Int32)]) ++ (List.replicate ls.length (32 : Int32))) ++ wl1).length + 1) := by rw [List.length_append]; rfl
  have f123 := (f119.keep K120q)
  refine cVW (rest := []) X120 hx hZ hown (ow hw 188 rfl) (ow hw 189 rfl) (nfs hZ (ow hw 191 rfl)) (ow hw 191 rfl) (ow hw 190 rfl) (ow hw 73 rfl) (ow hw 192 rfl) (rm_tsT l Z a0 hw [] b11 t120 kb120 (((((ls ++ wl0) ++ [(10 : Int32)]) ++ (List.replicate ls.length (32 : Int32))) ++ wl1) ++ [(10 : Int32)]) M120 z T120.heap n0 Z122 O122 f123 F120v F120c F120n E120t V120q (by omega) (by omega) S0 hz (by omega)) hby d55_133 rfl pd_906 0 (by rw [hml]; rfl) f123 rfl rfl rfl rfl ⟨by decide, nb rfl, nb rfl, nb rfl⟩ (by dsimp only; omega) fun _ T124 Lc124 X124 hQ124 => ?_
  obtain ⟨a124, rfl, N124q, K124q, T124q⟩ := hQ124
  have N124 := Fr.app N120 N124q
  have r125 : CHr Z jo T9.vm T120.heap T9.vm T124.heap := CHr.keep K124q sf0 R122.1
  have R125 := R122.trans r125
  have Z125 := nt Z122 K124q.1
  have O125 := O122.keep K124q all0
  have K125 := K122.trans K124q all0
  have d2 : jaa ls wl0 wl1 := by have q := (own_c80z (by omega) (by omega)).mp hc81; show 80 < _; rw [List.length_append] at q; exact q
  have zs126 := nt zs92 K23q.1
  have zs127 := nt zs126 K31q.1
  have zs128 := nt zs127 K48q.1
  have zs129 := nt zs128 K64q.1
  have zs130 := nt zs129 K83q.1
  have zs131 := nt zs130 K97q.1
  have zs132 := nt zs131 K107q.1
  have zs133 := nt zs132 K120q.1
  have zs134 := nt zs133 K124q.1
  refine goutW (v := some (.ref a124)) X124 hS (nt (Nat.le_refl T9.heap.size) zs134) hZ (jJ hw) hh rfl R125 Bd.notSynchronized (jA Bd.returns) (by first | decide | exact nb rfl) (by dsimp only [Pt.cells, Pt.slots]; omega) ?_ (fun fs hr => retOut X124 hx Bd.returns rfl (Or.inr (Or.inr (Or.inr (Or.inr ⟨rfl, rfl, rfl⟩)))) (hb hby d55_136) hr)
  exact ⟨_, rfl, N124, K125, by unfold js; rw [if_pos d2]; exact T124q⟩
 ·obtain ⟨s135, es135⟩ : ∃ q, q = jS M48 ((ls ++ wl0).length + 1) := ⟨_, rfl⟩
  have sp135 := jN M48 ((ls ++ wl0).length + 1)
  rw [← es135] at sp135
  have kb135 : ((ls ++ wl0).length + 1) ≤ 765 := by omega
  have nb135 : jw M48 ((ls ++ wl0).length + 1) ≤ 1530 := jO (by omega) (by omega)
  have kc135 := jP M48 ((ls ++ wl0).length + 1)
  refine gsW (fun _ k => jh (pc' := 102) X80 hq d55_77 (flt hc81).2.2.2 (ja X80 hq d55_102 rfl (jG X80 hq d55_104 ((if0 _ _).trans (feq (by decide : ¬ ((1 : Int32) = (0 : Int32)))).1) (jb X80 hq d55_107 rfl rfl (jz (v := (32 : Int32)) X80 hq d55_108 k))))) ?_
  refine cVW (rest := []) X80 hx hZ hown (ow hw 170 rfl) (ow hw 171 rfl) (nfs hZ (ow hw 173 rfl)) (ow hw 173 rfl) (ow hw 172 rfl) (ow hw 73 rfl) (ow hw 174 rfl) (rm_scX l Z a0 hw [] b11 t48 kb48 (ls ++ wl0) M48 (32 : Int32) z s135 T64.heap n0 Z65 O65 f68 f69 f70 f71 f72 f74 (by omega) (by omega) g_b11 g_t48 S0 hz (by first | decide | exact nb rfl) (by omega) (Nat.le_of_eq es135.symm) (by omega)) hby d55_110 e80q pd_904 0 (by rw [hml]; rfl) f68 rfl rfl rfl rfl ⟨by decide, nb rfl, nb rfl, nb rfl⟩ (by dsimp only; omega) fun _ T136 Lc136 X136 hQ136 => ?_
  obtain ⟨t136, kb136, rfl, N136q, K136q, o136t, F136v, F136c, F136n, E136t, V136q⟩ := hQ136
  have N136 := Fr.app N80 N136q
  have f137 := (r65.safe (nu E48t.lt (Nat.le_refl _)) sfc48)
  have g_t136 : n0 ≤ t136 := o136t.elim (fun q => q ▸ g_t48) (fun q => nt Z65 q)
  have sz_t136 : h0.size ≤ t136 := o136t.elim (fun q => q ▸ sz_t48) (fun q => nt K65.1 q)
  have zs138 := nt zs51 K48q.1
  have zs139 := nt zs138 K64q.1
  have gb_t136 : h11.size ≤ t136 := o136t.elim (fun q => q ▸ gb_t48) (fun q => nt zs139 q)
  have r140 : CHr Z jo T9.vm T64.heap T9.vm T136.heap := CHr.keep K136q (sfS (Safe.exa hZ.alike f68 (by first | decide | exact nb rfl) (by first | decide | exact nb rfl)) (sfS f137 sf0)) R65.1
  have R140 := R65.trans r140
  have Z140 := nt Z65 K136q.1
  have O140 := O65.keep K136q (allS g_b11 (allS g_t48 all0))
  have K140 := K65.trans K136q (allS (Or.inr sz_b11) (allS (Or.inr sz_t48) all0))
  have sfc136 := Safe.keep K136q (sfS (Safe.exa hZ.alike f68 (by first | decide | exact nb rfl) (by first | decide | exact nb rfl)) (sfS f137 sf0)) R65.1 (o136t.elim (fun q => by rw [q]; exact f137) (fun q => Safe.new q))
  obtain ⟨M136, eM136⟩ : ∃ q, q = jw M48 ((ls ++ wl0).length + 1) := ⟨_, rfl⟩
  rw [← eM136] at V136q sp135 nb135 kc135
  have ln136 : ((ls ++ wl0) ++ [(32 : Int32)]).length = ((ls ++ wl0).length + 1) := by rw [List.length_append]; rfl
  obtain ⟨s141, es141⟩ : ∃ q, q = jS M136 (((ls ++ wl0) ++ [(32 : Int32)]).length + wl1.length) := ⟨_, rfl⟩
  have sp141 := jN M136 (((ls ++ wl0) ++ [(32 : Int32)]).length + wl1.length)
  rw [← es141] at sp141
  have kb141 : (((ls ++ wl0) ++ [(32 : Int32)]).length + wl1.length) ≤ 765 := by omega
  have nb141 : jw M136 (((ls ++ wl0) ++ [(32 : Int32)]).length + wl1.length) ≤ 1530 := jO (by omega) (by omega)
  have kc141 := jP M136 (((ls ++ wl0) ++ [(32 : Int32)]).length + wl1.length)
  refine gsW (fun _ k => jW X136 hq d55_113 rfl (jb X136 hq d55_114 rfl rfl (jy X136 hq d55_115 rfl rfl k))) ?_
  have f142 := (f68.keep K136q)
  have f143 := (Ts79.exa.keep K136q)
  have f144 := (f76.keep K136q (ninS (nw (nu (nu Epw1.lt zs21) (Nat.le_of_eq q11.symm))) (ninS (nw (nu (nu Epw1.lt zs42) gb_t48)) nin0)))
  have f145 := (f77.keep K136q (ninS (nw (nu (nu Epw1.lt zs21) (Nat.le_of_eq q11.symm))) (ninS (nw (nu (nu Epw1.lt zs42) gb_t48)) nin0)))
  have f146 := (f78.keep K136q (ninS (nw (nu (nu Apw1.lt zs21) (Nat.le_of_eq q11.symm))) (ninS (nw (nu (nu Apw1.lt zs42) gb_t48)) nin0)))
  have Ts147 : Str Z T136.heap x1 wl1 := ⟨_, _, f143, f144, f145, f146⟩
  refine cVW (rest := []) X136 hx hZ hown (ow hw 316 rfl) (ow hw 98 rfl) (nfs hZ (ow hw 100 rfl)) (ow hw 100 rfl) (ow hw 99 rfl) (ow hw 73 rfl) (ow hw 101 rfl) (rm_saX l Z a0 hw [] b11 t136 kb136 ((ls ++ wl0) ++ [(32 : Int32)]) M136 x1 wl1 z s141 T136.heap n0 Z140 O140 f142 F136v F136c F136n E136t V136q (by omega) (by omega) g_b11 g_t136 S0 hz Ts147 hb_1 (by omega) (by omega) (Nat.le_of_eq es141.symm) (by omega)) hby d55_117 rfl pd_836 0 (by rw [hml]; rfl) f142 rfl rfl rfl rfl ⟨by decide, nb rfl, nb rfl, nb rfl⟩ (by dsimp only; omega) fun _ T148 Lc148 X148 hQ148 => ?_
  obtain ⟨t148, kb148, rfl, N148q, K148q, o148t, F148v, F148c, F148n, E148t, V148q⟩ := hQ148
  have N148 := Fr.app N136 N148q
  have g_t148 : n0 ≤ t148 := o148t.elim (fun q => q ▸ g_t136) (fun q => nt Z140 q)
  have sz_t148 : h0.size ≤ t148 := o148t.elim (fun q => q ▸ sz_t136) (fun q => nt K140.1 q)
  have zs149 := nt zs139 K136q.1
  have gb_t148 : h11.size ≤ t148 := o148t.elim (fun q => q ▸ gb_t136) (fun q => nt zs149 q)
  have r150 : CHr Z jo T9.vm T136.heap T9.vm T148.heap := CHr.keep K148q (sfS (Safe.exa hZ.alike f142 (by first | decide | exact nb rfl) (by first | decide | exact nb rfl)) (sfS sfc136 sf0)) R140.1
  have R150 := R140.trans r150
  have Z150 := nt Z140 K148q.1
  have O150 := O140.keep K148q (allS g_b11 (allS g_t136 all0))
  have K150 := K140.trans K148q (allS (Or.inr sz_b11) (allS (Or.inr sz_t136) all0))
  have sfc148 := Safe.keep K148q (sfS (Safe.exa hZ.alike f142 (by first | decide | exact nb rfl) (by first | decide | exact nb rfl)) (sfS sfc136 sf0)) R140.1 (o148t.elim (fun q => by rw [q]; exact sfc136) (fun q => Safe.new q))
  obtain ⟨M148, eM148⟩ : ∃ q, q = jw M136 (((ls ++ wl0) ++ [(32 : Int32)]).length + wl1.length) := ⟨_, rfl⟩
  rw [← eM148] at V148q sp141 nb141 kc141
  have ln148 : (((ls ++ wl0) ++ [(32 : Int32)]) ++ wl1).length = (((ls ++ wl0) ++ [(32 : Int32)]).length + wl1.length) := by rw [List.length_append]
  refine gsW (fun _ k => jW X148 hq d55_120 rfl (jf (v := (1 : Int32)) X148 hq d55_121 (je X148 hq d55_122 (jF rfl rfl) (jp (pc' := 33) X148 hq d55_124 (jy X148 hq d55_33 rfl rfl k))))) ?_
  have f151 := ((f73.keep K136q).keep K148q)
  have f152 := ((f72.keep K136q).keep K148q)
  have f153 := (E136t.keep K148q)
  have f154 := ((J64t.keep K136q (ninS (Ne.symm (nw (nu (nu A11.lt K18q.1) g23t))) (ninS (Exa.ne f151 f152 (by first | decide | exact nb rfl)) nin0))).keep K148q (ninS (Ne.symm (nw (nu (nu A11.lt K18q.1) g23t))) (ninS (Exa.ne f151 f153 (by first | decide | exact nb rfl)) nin0)))
  have f155 := ((J64c.keep K136q (ninS (Ne.symm (nw (nu (nu A11.lt K18q.1) g23t))) (ninS (Exa.ne f151 f152 (by first | decide | exact nb rfl)) nin0))).keep K148q (ninS (Ne.symm (nw (nu (nu A11.lt K18q.1) g23t))) (ninS (Exa.ne f151 f153 (by first | decide | exact nb rfl)) nin0)))
  have f156 := (((f55.keep K64q (ninS (nw (nu (nu E_a.lt zs43) g23t)) nin0)).keep K136q (ninS (nw (nu (nu E_a.lt zs21) (Nat.le_of_eq q11.symm))) (ninS (nw (nu (nu E_a.lt zs42) gb_t48)) nin0))).keep K148q (ninS (nw (nu (nu E_a.lt zs21) (Nat.le_of_eq q11.symm))) (ninS (nw (nu (nu E_a.lt zs42) gb_t136)) nin0)))
  obtain ⟨cq157, kq157, q157a, q157b, q157c⟩ := isOf hZ rfl f151
  obtain ⟨_, _, ⟨T157, L157, k157, n157⟩, -, X157, ⟨Lc157, hQ157, l157, y157, z157⟩, st157⟩ := X148.interfaceBack hx (xi := my2) (y := my0) hown (mvT hZ (ow hw 157 rfl)) (mvT hZ (ow hw 158 rfl)) (mvT hZ (ow hw 159 rfl)) (mvT hZ (ow hw 160 rfl)) (mvT hZ (ow hw 161 rfl)) (mvT hZ (ow hw 162 rfl)) (mvT hZ (ow hw 163 rfl)) (mvT hZ (ow hw 164 rfl)) (by first | decide | exact nb rfl) (backC (W := 0) (rm_hn22 l Z a0 hw [] t23 a T148.heap n0 Z150 O150 f154 f155 f156) hZ (ow hw 165 rfl) (ow hw 143 rfl) (by first | decide | exact nb rfl) (by first | decide | exact nb rfl)) q157a q157b q157c (g := (mkF m 35 #[rv ld, rv a, rv a9, rv b11, iv (0 : Int32), iv (1 : Int32), rv t23, rv x1] [(.ref t23)])) rfl (by rw [hml]; rfl) (Steps.refl _) (argsL := []) (rest := []) (lenOf pd_93 rfl) rfl (jL rfl) (hb hby d55_35) (fun _ _ => ⟨rfl, rfl, (show 11 + 0 ≤ _ from by first | decide | exact nb rfl), (by dsimp only [Pt.cells, Pt.slots]; omega)⟩)
  dsimp only [Pt.U, Pt.locs, Pt.cells, Pt.slots] at X157 l157 y157 z157 st157 hQ157
  subst l157 y157 z157
  obtain ⟨rfl, N157q, e157q⟩ := hQ157
  have N157 := Fr.app N148 N157q
  refine gsW (S' := T157.setTop (mkF m 40 #[rv ld, rv a, rv a9, rv b11, iv (0 : Int32), iv (1 : Int32), rv t23, rv x1] [(.int (0 : Int32))])) (fun _ k => st157.trans k) ?_
  obtain ⟨s158, es158⟩ : ∃ q, q = jS M148 ((((ls ++ wl0) ++ [(32 : Int32)]) ++ wl1).length + 1) := ⟨_, rfl⟩
  have sp158 := jN M148 ((((ls ++ wl0) ++ [(32 : Int32)]) ++ wl1).length + 1)
  rw [← es158] at sp158
  have kb158 : ((((ls ++ wl0) ++ [(32 : Int32)]) ++ wl1).length + 1) ≤ 765 := by omega
  have nb158 : jw M148 ((((ls ++ wl0) ++ [(32 : Int32)]) ++ wl1).length + 1) ≤ 1530 := jO (by omega) (by omega)
  have kc158 := jP M148 ((((ls ++ wl0) ++ [(32 : Int32)]) ++ wl1).length + 1)
  refine gsW (fun _ k => jI (pc' := 127) X157 hq d55_40 ((if0 _ _).trans (teq (show (0 : Int32) = (0 : Int32) from by first | decide | exact nb rfl)).1) (jb X157 hq d55_127 rfl rfl (jz (v := (10 : Int32)) X157 hq d55_128 k))) ?_
  have f159 := (f142.keep K148q)
  refine cVW (rest := []) X157 hx hZ hown (ow hw 170 rfl) (ow hw 171 rfl) (nfs hZ (ow hw 173 rfl)) (ow hw 173 rfl) (ow hw 172 rfl) (ow hw 73 rfl) (ow hw 174 rfl) (rm_scX l Z a0 hw [] b11 t148 kb148 (((ls ++ wl0) ++ [(32 : Int32)]) ++ wl1) M148 (10 : Int32) z s158 T148.heap n0 Z150 O150 f159 F148v F148c F148n E148t V148q (by omega) (by omega) g_b11 g_t148 S0 hz (by first | decide | exact nb rfl) (by omega) (Nat.le_of_eq es158.symm) (by omega)) hby d55_130 e157q pd_904 0 (by rw [hml]; rfl) f159 rfl rfl rfl rfl ⟨by decide, nb rfl, nb rfl, nb rfl⟩ (by dsimp only; omega) fun _ T160 Lc160 X160 hQ160 => ?_
  obtain ⟨t160, kb160, rfl, N160q, K160q, o160t, F160v, F160c, F160n, E160t, V160q⟩ := hQ160
  have N160 := Fr.app N157 N160q
  have g_t160 : n0 ≤ t160 := o160t.elim (fun q => q ▸ g_t148) (fun q => nt Z150 q)
  have sz_t160 : h0.size ≤ t160 := o160t.elim (fun q => q ▸ sz_t148) (fun q => nt K150.1 q)
  have zs161 := nt zs149 K148q.1
  have gb_t160 : h11.size ≤ t160 := o160t.elim (fun q => q ▸ gb_t148) (fun q => nt zs161 q)
  have r162 : CHr Z jo T9.vm T148.heap T9.vm T160.heap := CHr.keep K160q (sfS (Safe.exa hZ.alike f159 (by first | decide | exact nb rfl) (by first | decide | exact nb rfl)) (sfS sfc148 sf0)) R150.1
  have R162 := R150.trans r162
  have Z162 := nt Z150 K160q.1
  have O162 := O150.keep K160q (allS g_b11 (allS g_t148 all0))
  have K162 := K150.trans K160q (allS (Or.inr sz_b11) (allS (Or.inr sz_t148) all0))
  have sfc160 := Safe.keep K160q (sfS (Safe.exa hZ.alike f159 (by first | decide | exact nb rfl) (by first | decide | exact nb rfl)) (sfS sfc148 sf0)) R150.1 (o160t.elim (fun q => by rw [q]; exact sfc148) (fun q => Safe.new q))
  obtain ⟨M160, eM160⟩ : ∃ q, q = jw M148 ((((ls ++ wl0) ++ [(32 : Int32)]) ++ wl1).length + 1) := ⟨_, rfl⟩
  rw [← eM160] at V160q sp158 nb158 kc158
  have ln160 : ((((ls ++ wl0) ++ [(32 : Int32)]) ++ wl1) ++ [(10 : Int32)]).length = ((((ls ++ wl0) ++ [(32 : Int32)]) ++ wl1).length + 1) := by rw [List.length_append]; rfl
  have f163 := (f159.keep K160q)
  refine cVW (rest := []) X160 hx hZ hown (ow hw 188 rfl) (ow hw 189 rfl) (nfs hZ (ow hw 191 rfl)) (ow hw 191 rfl) (ow hw 190 rfl) (ow hw 73 rfl) (ow hw 192 rfl) (rm_tsT l Z a0 hw [] b11 t160 kb160 ((((ls ++ wl0) ++ [(32 : Int32)]) ++ wl1) ++ [(10 : Int32)]) M160 z T160.heap n0 Z162 O162 f163 F160v F160c F160n E160t V160q (by omega) (by omega) S0 hz (by omega)) hby d55_133 rfl pd_906 0 (by rw [hml]; rfl) f163 rfl rfl rfl rfl ⟨by decide, nb rfl, nb rfl, nb rfl⟩ (by dsimp only; omega) fun _ T164 Lc164 X164 hQ164 => ?_
  obtain ⟨a164, rfl, N164q, K164q, T164q⟩ := hQ164
  have N164 := Fr.app N160 N164q
  have r165 : CHr Z jo T9.vm T160.heap T9.vm T164.heap := CHr.keep K164q sf0 R162.1
  have R165 := R162.trans r165
  have Z165 := nt Z162 K164q.1
  have O165 := O162.keep K164q all0
  have K165 := K162.trans K164q all0
  have d2 : ¬ jaa ls wl0 wl1 := fun q => hc81 ((own_c80z (by omega) (by omega)).mpr (by rw [List.length_append]; exact q))
  have zs166 := nt E11.1 K18q.1
  have zs167 := nt zs166 K23q.1
  have zs168 := nt zs167 K31q.1
  have zs169 := nt zs168 K48q.1
  have zs170 := nt zs169 K64q.1
  have zs171 := nt zs170 K136q.1
  have zs172 := nt zs171 K148q.1
  have zs173 := nt zs172 K160q.1
  have zs174 := nt zs173 K164q.1
  refine goutW (v := some (.ref a164)) X164 hS (nt (Nat.le_refl T9.heap.size) zs174) hZ (jJ hw) hh rfl R165 Bd.notSynchronized (jA Bd.returns) (by first | decide | exact nb rfl) (by dsimp only [Pt.cells, Pt.slots]; omega) ?_ (fun fs hr => retOut X164 hx Bd.returns rfl (Or.inr (Or.inr (Or.inr (Or.inr ⟨rfl, rfl, rfl⟩)))) (hb hby d55_136) hr)
  exact ⟨_, rfl, N164, K165, by unfold js; rw [if_neg d2]; exact T164q⟩
theorem rm_wrap3 (l : Launch) (Z : State) (a0 : Array Value) (hw : HW Z a0) (ws : List Jvm.Cond) (ld : Addr) (ls : List Int32) (a : Addr) (ar : Addr) (ka : ClassId) (x0 : Addr) (x1 : Addr) (x2 : Addr) (wl0 : List Int32) (wl1 : List Int32) (wl2 : List Int32) (z : Int32) (h0 : Heap) (n0 : Nat) (Z0 : n0 ≤ h0.size) (O0 : Old Z n0 h0) (S0 : PS0 Z (.int z)) (hz : ¬ z = 0) (E_a : Exa Z h0 a "java/util/ArrayList") (F_m : Fld Z h0 a "java/util/AbstractList" "modCount" "I" (.int (3 : Int32))) (F_s : Fld Z h0 a "java/util/ArrayList" "size" "I" (.int (3 : Int32))) (F_e : Fld Z h0 a "java/util/ArrayList" "elementData" "[Ljava/lang/Object;" (.ref ar)) (V_ar : Arv Z h0 ar ka (.object "java/lang/Object") (10 : Int32) [(.ref x0), (.ref x1), (.ref x2)] .null) (T_l : Str Z h0 ld ls) (hb_l : ∀ c ∈ ls, ¬ c < 0 ∧ ¬ (255 : Int32) < c) (hl_l : ls.length ≤ 127) (T_0 : Str Z h0 x0 wl0) (hb_0 : ∀ c ∈ wl0, ¬ c < 0 ∧ ¬ (255 : Int32) < c) (hl_0 : wl0.length ≤ 127) (T_1 : Str Z h0 x1 wl1) (hb_1 : ∀ c ∈ wl1, ¬ c < 0 ∧ ¬ (255 : Int32) < c) (hl_1 : wl1.length ≤ 127) (T_2 : Str Z h0 x2 wl2) (hb_2 : ∀ c ∈ wl2, ¬ c < 0 ∧ ¬ (255 : Int32) < c) (hl_2 : wl2.length ≤ 127) :
  CtrW l Z jo my9 oc55 8 ((Option.some (Jvm.ClassFile.FieldType.object "java/lang/String"))) ws (⟨9, 20, 4600, 132⟩ : Room) #[(.ref ld), (.ref a)] h0 (fun v h L => ∃ r : Addr, v = some (.ref r) ∧ Fr n0 L ∧ Keep h0 h [] ∧ Str Z h r ((jr ls wl0 wl1 wl2) ++ [10])) := by
 refine CtrW.of (MetFree.of_bodySF (plainFor_of_name pn_908) hisR ?_)
 intro p e s m args below meth c s₁ Bd hml0 hP hK
 obtain ⟨rfl, hZ0, hh, hC⟩ := hP
 have hx := Bd.exec
 have hby := Bd.bytes
 have hq := And.intro hx hby
 have hml : c.maxLocals = 8 := hml0
 have hZ : Z.Warmed39 (s.setVm s.vm).vm := hZ0
 have hown : (s.setVm s.vm).vm.findClass "com/example/caddisfly/caddisfly/Syntax" = some m.cls := findClass_of_methodNamed Bd.named
 have hnm := (name_of_methodNamed Bd.named Bd.method).1
 have X0 : Stand p l e (⟨9, 20, 4600, 132⟩ : Room) (s.setVm s.vm) m #[(.ref ld), (.ref a)] below meth c s₁ [] 0 0 := Stand.of_body Bd
 have e0 : s₁.heap = h0 := by rw [← hh, Bd.state]; rfl
 have N0 := Fr.nil n0
 have K0 : Keep h0 h0 [] := Keep.refl h0 []
 have hS : s.Since s.vm 0 := (State.WarmedH.refl s).since 0
 have hk : 0 ≤ h0.size := Nat.zero_le _
 have R0 : CHr Z jo s.vm h0 s.vm h0 := CHr.refl hC
 show OwnGoW p e below s Z jo (fun v h L => ∃ r : Addr, v = some (.ref r) ∧ Fr n0 L ∧ Keep h0 h [] ∧ Str Z h r ((jr ls wl0 wl1 wl2) ++ [10])) (⟨9, 20, 4600, 132⟩ : Room).cells (⟨9, 20, 4600, 132⟩ : Room).slots _
 refine gsW (S' := s₁.setTop (mkF m 0 #[rv ld, rv a, uu, uu, uu, uu, uu, uu] [])) (fun tg kg => castTop (ef_877 m ld a) kg) ?_
 obtain ⟨uL, kuL, EpL, CpL, VpL, ApL⟩ := id T_l
 obtain ⟨uw0, kuw0, Epw0, Cpw0, Vpw0, Apw0⟩ := id T_0
 obtain ⟨uw1, kuw1, Epw1, Cpw1, Vpw1, Apw1⟩ := id T_1
 obtain ⟨uw2, kuw2, Epw2, Cpw2, Vpw2, Apw2⟩ := id T_2
 obtain ⟨a1, T1, h1, k1, t1, kb1, X1, e1, E1, hS, hk1, hZ, hown, g1e, g1c, g1v, g1a, -, -, r1x, -, ne1, st1⟩ := ldcCH X0 hx hZ hown (ow hw 54 rfl) (own_wS hw) e0 hS hk (jJ hw) (List.mem_of_getElem? (i := 0) rfl) R0.1 (vs := ((([32] : List Int32).map (fun c => c.toInt8.toInt32)).map Value.int)) (z := (1 : Int32)) ⟨by decide, by rfl⟩ (by first | decide | exact nb rfl) rfl (g := (mkF m 0 #[rv ld, rv a, uu, uu, uu, uu, uu, uu] [])) rfl (hb hby d55_0) (n := 4) (by first | decide | exact nb rfl) (by first | decide | exact nb rfl) (by first | decide | exact nb rfl) (by dsimp only [Pt.cells, Pt.slots]; omega)
 have r2 : CHr Z jo s.vm h0 T1.vm h1 := r1x
 have R2 := R0.trans r2
 have Z2 := nt Z0 E1.1
 have O2 := O0.ext E1
 have K2 := K0.ext E1
 have T1q : Str Z h1 a1 ([32] : List Int32) := ⟨_, _, g1e, g1c, g1v, g1a⟩
 refine gsW (S' := T1.setTop (mkF m 2 #[rv ld, rv a, uu, uu, uu, uu, uu, uu] [(.ref a1)])) st1 ?_
 have f3 := (EpL.ext E1)
 have f4 := (CpL.ext E1)
 have f5 := (VpL.ext E1)
 have f6 := (ApL.ext E1)
 have Ts7 : Str Z h1 ld ls := ⟨_, _, f3, f4, f5, f6⟩
 refine gsW (fun _ k => jb X1 hq d55_2 rfl rfl k) ?_
 refine cVW (rest := [(.ref a1)]) X1 hx hZ hown (ow hw 55 rfl) (ow hw 56 rfl) (nfs hZ (ow hw 58 rfl)) (ow hw 58 rfl) (ow hw 57 rfl) (ow hw 7 rfl) (ow hw 59 rfl) (rm_lenL l Z a0 hw [] ld ls z h1 n0 Z2 O2 Ts7 S0 hz) hby d55_3 e1 pd_644 1 (by rw [hml]; rfl) Ts7.exa rfl rfl rfl rfl ⟨by decide, nb rfl, nb rfl, nb rfl⟩ (by dsimp only; omega) fun _ T8 Lc8 X8 hQ8 => ?_
 obtain ⟨rfl, N8q, e8q⟩ := hQ8
 have N8 := Fr.app N0 N8q
 refine cVS (rest := []) X8 hx hS hk1 hZ hown (ow hw 66 rfl) (ow hw 67 rfl) (nfs hZ (ow hw 69 rfl)) (ow hw 69 rfl) (ow hw 68 rfl) (ow hw 7 rfl) (ow hw 70 rfl) (rm_rep l Z a0 hw [] a1 ls.length h1 n0 Z2 O2 T1q hl_l) (jJ hw) R2.1 hby d55_6 e8q pd_883 0 (by rw [hml]; rfl) g1e rfl rfl rfl rfl ⟨by decide, nb rfl, nb rfl, nb rfl⟩ (by dsimp only; omega) fun _ T9 Lc9 X9 hS hZ hown hQ9 rq9 => ?_
 obtain ⟨a9, rfl, N9q, K9q, T9q⟩ := hQ9
 have N9 := Fr.app N8 N9q
 have r10 : CHr Z jo T1.vm h1 T9.vm T9.heap := rq9
 have R10 := R2.trans r10
 have Z10 := nt Z2 K9q.1
 have O10 := O2.keep K9q all0
 have K10 := K2.trans K9q all0
 obtain ⟨ur9, kur9, Epr9, Cpr9, Vpr9, Apr9⟩ := id T9q
 have lr9 : (List.replicate ls.length (32 : Int32)).length = ls.length := own_rplen _ _
 refine gsW (fun _ k => jR X9 hq d55_9 rfl (jj rfl) k) ?_
 obtain ⟨T11, h11, X11, e11, E11, A11, D11, -, st11⟩ := newO X9 hx hZ hown (ow hw 71 rfl) (ow hw 72 rfl) (ow hw 73 rfl) rfl (g := (mkF m 10 #[rv ld, rv a, rv a9, uu, uu, uu, uu, uu] [])) rfl (hb hby d55_10) (by first | decide | exact nb rfl) (by dsimp only [Pt.cells, Pt.slots]; omega)
 obtain ⟨b11, q11⟩ : ∃ z, z = T9.heap.size := ⟨_, rfl⟩
 rw [← q11] at A11 D11 st11
 have g_b11 : n0 ≤ b11 := nt Z10 (Nat.le_of_eq q11.symm)
 have sz_b11 : h0.size ≤ b11 := nt K10.1 (Nat.le_of_eq q11.symm)
 have r12 : CHr Z jo T9.vm T9.heap T9.vm h11 := CHr.ext E11 R10.1
 have R12 := R10.trans r12
 have Z12 := nt Z10 E11.1
 have O12 := O10.ext E11
 have K12 := K10.ext E11
 have F_coder_b11 : Fld Z h11 b11 "java/lang/AbstractStringBuilder" "coder" "B" (.int (0 : Int32)) := D11 (Or.inl (ow hw 88 rfl)) (ty := .byte) (by first | decide | exact nb rfl)
 have F_value_b11 : Fld Z h11 b11 "java/lang/AbstractStringBuilder" "value" "[B" .null := D11 (Or.inl (ow hw 90 rfl)) (ty := (.array .byte)) (by first | decide | exact nb rfl)
 have F_count_b11 : Fld Z h11 b11 "java/lang/AbstractStringBuilder" "count" "I" (.int (0 : Int32)) := D11 (Or.inl (ow hw 106 rfl)) (ty := .int) (by first | decide | exact nb rfl)
 refine gsW (S' := T11.setTop (mkF m 13 #[rv ld, rv a, rv a9, uu, uu, uu, uu, uu] [(.ref b11)])) st11 ?_
 refine gsW (fun _ k => jad X11 hq d55_13 rfl (jb X11 hq d55_14 rfl rfl k)) ?_
 have f13 := ((Ts7.exa.keep K9q).ext E11)
 have f14 := ((f4.keep K9q nin0).ext E11)
 have f15 := ((f5.keep K9q nin0).ext E11)
 have f16 := ((f6.keep K9q nin0).ext E11)
 have Ts17 : Str Z h11 ld ls := ⟨_, _, f13, f14, f15, f16⟩
 refine cIW (rest := [(.ref b11)]) X11 hx hZ hown rfl (ow hw 74 rfl) (ow hw 75 rfl) (ow hw 73 rfl) (ow hw 76 rfl) (rm_sbiI l Z a0 hw [] b11 ld ls z h11 n0 Z12 O12 A11 F_value_b11 F_coder_b11 F_count_b11 g_b11 S0 hz Ts17 hb_l (by omega) (by omega)) hby d55_15 e11 pd_618 1 (by rw [hml]; rfl) rfl rfl rfl rfl ⟨by decide, nb rfl, nb rfl, nb rfl⟩ (by dsimp only; omega) fun _ T18 Lc18 X18 hQ18 => ?_
 obtain ⟨t18, kb18, rfl, N18q, K18q, g18t, F18v, F18c, F18n, E18t, V18q⟩ := hQ18
 have N18 := Fr.app N9 N18q
 have g_t18 : n0 ≤ t18 := nt Z12 g18t
 have sz_t18 : h0.size ≤ t18 := nt K12.1 g18t
 have r19 : CHr Z jo T9.vm h11 T9.vm T18.heap := CHr.keep K18q (sfS (Safe.exa hZ.alike A11 (by first | decide | exact nb rfl) (by first | decide | exact nb rfl)) sf0) R12.1
 have R19 := R12.trans r19
 have Z19 := nt Z12 K18q.1
 have O19 := O12.keep K18q (allS g_b11 all0)
 have K19 := K12.trans K18q (allS (Or.inr sz_b11) all0)
 have sfc18 := Safe.keep K18q (sfS (Safe.exa hZ.alike A11 (by first | decide | exact nb rfl) (by first | decide | exact nb rfl)) sf0) R12.1 (Safe.new (EL := jo) (Z := Z) (vm := T9.vm) g18t)
 refine gsW (fun _ k => jR X18 hq d55_18 rfl (jj rfl) (jf (v := (0 : Int32)) X18 hq d55_19 (je X18 hq d55_20 (jj rfl) (jf (v := (0 : Int32)) X18 hq d55_22 (je X18 hq d55_23 (jj rfl) (jb X18 hq d55_25 rfl rfl k)))))) ?_
 have f20 := ((((E_a.ext E1).keep K9q).ext E11).keep K18q)
 have zs21 := nt E1.1 K9q.1
 have f22 := ((((F_m.ext E1).keep K9q nin0).ext E11).keep K18q (ninS (nw (nu (nu E_a.lt zs21) (Nat.le_of_eq q11.symm))) nin0))
 obtain ⟨cq23, kq23, q23a, q23b, q23c⟩ := isOf hZ rfl f20
 obtain ⟨_, _, ⟨T23, L23, k23, n23⟩, -, X23, ⟨Lc23, hQ23, l23, y23, z23⟩, st23⟩ := X18.interfaceBack hx (xi := my10) (y := my4) hown (mvT hZ (ow hw 132 rfl)) (mvT hZ (ow hw 133 rfl)) (mvT hZ (ow hw 134 rfl)) (mvT hZ (ow hw 135 rfl)) (mvT hZ (ow hw 136 rfl)) (mvT hZ (ow hw 137 rfl)) (mvT hZ (ow hw 138 rfl)) (mvT hZ (ow hw 139 rfl)) (by first | decide | exact nb rfl) (backC (W := 0) (rm_it3 l Z a0 hw [] a T18.heap n0 Z19 O19 f20 f22) hZ (ow hw 140 rfl) (ow hw 28 rfl) (by first | decide | exact nb rfl) (by first | decide | exact nb rfl)) q23a q23b q23c (g := (mkF m 26 #[rv ld, rv a, rv a9, rv b11, iv (0 : Int32), iv (0 : Int32), uu, uu] [(.ref a)])) rfl (by rw [hml]; rfl) (Steps.refl _) (argsL := []) (rest := []) (lenOf pd_896 rfl) rfl (jL rfl) (hb hby d55_26) (fun _ _ => ⟨rfl, rfl, (show 7 + 1 ≤ _ from by first | decide | exact nb rfl), (by dsimp only [Pt.cells, Pt.slots]; omega)⟩)
 dsimp only [Pt.U, Pt.locs, Pt.cells, Pt.slots] at X23 l23 y23 z23 st23 hQ23
 subst l23 y23 z23
 obtain ⟨t23, rfl, N23q, K23q, g23t, E23t, J23t, J23c, J23l, J23m⟩ := hQ23
 have N23 := Fr.app N18 N23q
 have g_t23 : n0 ≤ t23 := nt Z19 g23t
 have sz_t23 : h0.size ≤ t23 := nt K19.1 g23t
 have r24 : CHr Z jo T9.vm T18.heap T9.vm T23.heap := CHr.keep K23q sf0 R19.1
 have R24 := R19.trans r24
 have Z24 := nt Z19 K23q.1
 have O24 := O19.keep K23q all0
 have K24 := K19.trans K23q all0
 refine gsW (S' := T23.setTop (mkF m 31 #[rv ld, rv a, rv a9, rv b11, iv (0 : Int32), iv (0 : Int32), uu, uu] [(.ref t23)])) (fun _ k => st23.trans k) ?_
 refine gsW (fun _ k => jQ X23 hq d55_31 rfl (jj rfl) (jy X23 hq d55_33 rfl rfl k)) ?_
 have f25 := (((((F_s.ext E1).keep K9q nin0).ext E11).keep K18q (ninS (nw (nu (nu E_a.lt zs21) (Nat.le_of_eq q11.symm))) nin0)).keep K23q nin0)
 obtain ⟨cq26, kq26, q26a, q26b, q26c⟩ := isOf hZ rfl E23t
 obtain ⟨_, _, ⟨T26, L26, k26, n26⟩, -, X26, ⟨Lc26, hQ26, l26, y26, z26⟩, st26⟩ := X23.interfaceBack hx (xi := my2) (y := my0) hown (mvT hZ (ow hw 157 rfl)) (mvT hZ (ow hw 158 rfl)) (mvT hZ (ow hw 159 rfl)) (mvT hZ (ow hw 160 rfl)) (mvT hZ (ow hw 161 rfl)) (mvT hZ (ow hw 162 rfl)) (mvT hZ (ow hw 163 rfl)) (mvT hZ (ow hw 164 rfl)) (by first | decide | exact nb rfl) (backC (W := 0) (rm_hn03 l Z a0 hw [] t23 a T23.heap n0 Z24 O24 J23t J23c f25) hZ (ow hw 165 rfl) (ow hw 143 rfl) (by first | decide | exact nb rfl) (by first | decide | exact nb rfl)) q26a q26b q26c (g := (mkF m 35 #[rv ld, rv a, rv a9, rv b11, iv (0 : Int32), iv (0 : Int32), rv t23, uu] [(.ref t23)])) rfl (by rw [hml]; rfl) (Steps.refl _) (argsL := []) (rest := []) (lenOf pd_93 rfl) rfl (jL rfl) (hb hby d55_35) (fun _ _ => ⟨rfl, rfl, (show 8 + 0 ≤ _ from by first | decide | exact nb rfl), (by dsimp only [Pt.cells, Pt.slots]; omega)⟩)
 dsimp only [Pt.U, Pt.locs, Pt.cells, Pt.slots] at X26 l26 y26 z26 st26 hQ26
 subst l26 y26 z26
 obtain ⟨rfl, N26q, e26q⟩ := hQ26
 have N26 := Fr.app N23 N26q
 refine gsW (S' := T26.setTop (mkF m 40 #[rv ld, rv a, rv a9, rv b11, iv (0 : Int32), iv (0 : Int32), rv t23, uu] [(.int (1 : Int32))])) (fun _ k => st26.trans k) ?_
 refine gsW (fun _ k => jG X26 hq d55_40 ((if0 _ _).trans (feq (by decide : ¬ ((1 : Int32) = (0 : Int32)))).1) (jy X26 hq d55_43 rfl rfl k)) ?_
 have f27 := (f20.keep K23q)
 have f28 := (f22.keep K23q nin0)
 have f29 := (((((F_e.ext E1).keep K9q nin0).ext E11).keep K18q (ninS (nw (nu (nu E_a.lt zs21) (Nat.le_of_eq q11.symm))) nin0)).keep K23q nin0)
 have f30 := (((((V_ar.ext E1).keep K9q nin0).ext E11).keep K18q (ninS (nw (nu (nu V_ar.lt zs21) (Nat.le_of_eq q11.symm))) nin0)).keep K23q nin0)
 obtain ⟨cq31, kq31, q31a, q31b, q31c⟩ := isOf hZ e26q E23t
 obtain ⟨_, _, ⟨T31, L31, k31, n31⟩, -, X31, ⟨Lc31, hQ31, l31, y31, z31⟩, st31⟩ := X26.interfaceBack hx (xi := my5) (y := my1) hown (mvT hZ (ow hw 301 rfl)) (mvT hZ (ow hw 302 rfl)) (mvT hZ (ow hw 303 rfl)) (mvT hZ (ow hw 304 rfl)) (mvT hZ (ow hw 305 rfl)) (mvT hZ (ow hw 306 rfl)) (mvT hZ (ow hw 307 rfl)) (mvT hZ (ow hw 164 rfl)) (by first | decide | exact nb rfl) (backC (W := 0) (rm_nx03 l Z a0 hw [] t23 a ar ka x0 x1 x2 T23.heap n0 Z24 O24 E23t J23t J23c J23l J23m g_t23 f27 f28 f25 f29 f30) hZ (ow hw 308 rfl) (ow hw 143 rfl) (by first | decide | exact nb rfl) (by first | decide | exact nb rfl)) q31a q31b q31c (g := (mkF m 45 #[rv ld, rv a, rv a9, rv b11, iv (0 : Int32), iv (0 : Int32), rv t23, uu] [(.ref t23)])) rfl (by rw [hml]; rfl) (Steps.refl _) (argsL := []) (rest := []) (lenOf pd_912 rfl) rfl (jL rfl) (hb hby d55_45) (fun _ _ => ⟨rfl, e26q, (show 8 + 0 ≤ _ from by first | decide | exact nb rfl), (by dsimp only [Pt.cells, Pt.slots]; omega)⟩)
 dsimp only [Pt.U, Pt.locs, Pt.cells, Pt.slots] at X31 l31 y31 z31 st31 hQ31
 subst l31 y31 z31
 obtain ⟨rfl, N31q, K31q, J31t, J31c, J31l, J31m⟩ := hQ31
 have N31 := Fr.app N26 N31q
 have r32 : CHr Z jo T9.vm T23.heap T9.vm T31.heap := CHr.keep K31q (sfS (Safe.exa hZ.alike E23t (by first | decide | exact nb rfl) (by first | decide | exact nb rfl)) sf0) R24.1
 have R32 := R24.trans r32
 have Z32 := nt Z24 K31q.1
 have O32 := O24.keep K31q (allS g_t23 all0)
 have K32 := K24.trans K31q (allS (Or.inr sz_t23) all0)
 refine gsW (S' := T31.setTop (mkF m 50 #[rv ld, rv a, rv a9, rv b11, iv (0 : Int32), iv (0 : Int32), rv t23, uu] [(.ref x0)])) (fun _ k => st31.trans k) ?_
 have f33 := ((((((Epw0.ext E1).keep K9q).ext E11).keep K18q).keep K23q).keep K31q)
 obtain ⟨T34, X34, e34, st34⟩ := castY X31 hx hZ hown (ow hw 315 rfl) rfl (Ins.self f33) (g := (mkF m 50 #[rv ld, rv a, rv a9, rv b11, iv (0 : Int32), iv (0 : Int32), rv t23, uu] [(.ref x0)])) rfl rfl (hb hby d55_50)
 refine gsW (S' := T34.setTop (mkF m 53 #[rv ld, rv a, rv a9, rv b11, iv (0 : Int32), iv (0 : Int32), rv t23, uu] [(.ref x0)])) st34 ?_
 obtain ⟨s35, es35⟩ : ∃ q, q = jS (ls.length + 16) (ls.length + wl0.length) := ⟨_, rfl⟩
 have sp35 := jN (ls.length + 16) (ls.length + wl0.length)
 rw [← es35] at sp35
 have kb35 : (ls.length + wl0.length) ≤ 765 := by omega
 have nb35 : jw (ls.length + 16) (ls.length + wl0.length) ≤ 1530 := jO (by omega) (by omega)
 have kc35 := jP (ls.length + 16) (ls.length + wl0.length)
 refine gsW (fun _ k => jQ X34 hq d55_53 rfl (jj rfl) (ja X34 hq d55_55 rfl (jI (pc' := 102) X34 hq d55_57 ((if0 _ _).trans (teq (show (0 : Int32) = (0 : Int32) from by first | decide | exact nb rfl)).1) (ja X34 hq d55_102 rfl (jI (pc' := 114) X34 hq d55_104 ((if0 _ _).trans (teq (show (0 : Int32) = (0 : Int32) from by first | decide | exact nb rfl)).1) (jb X34 hq d55_114 rfl rfl (jy X34 hq d55_115 rfl rfl k))))))) ?_
 have f36 := (((A11.keep K18q).keep K23q).keep K31q)
 have f37 := ((F18v.keep K23q nin0).keep K31q (ninS (nw (nu (nu A11.lt K18q.1) g23t)) nin0))
 have f38 := ((F18c.keep K23q nin0).keep K31q (ninS (nw (nu (nu A11.lt K18q.1) g23t)) nin0))
 have f39 := ((F18n.keep K23q nin0).keep K31q (ninS (nw (nu (nu A11.lt K18q.1) g23t)) nin0))
 have f40 := ((E18t.keep K23q).keep K31q)
 have f41 := ((V18q.keep K23q nin0).keep K31q (ninS (nw (nu (nu E18t.lt (Nat.le_refl _)) g23t)) nin0))
 have zs42 := nt zs21 E11.1
 have zs43 := nt zs42 K18q.1
 have f44 := ((((((Cpw0.ext E1).keep K9q nin0).ext E11).keep K18q (ninS (nw (nu (nu Epw0.lt zs21) (Nat.le_of_eq q11.symm))) nin0)).keep K23q nin0).keep K31q (ninS (nw (nu (nu Epw0.lt zs43) g23t)) nin0))
 have f45 := ((((((Vpw0.ext E1).keep K9q nin0).ext E11).keep K18q (ninS (nw (nu (nu Epw0.lt zs21) (Nat.le_of_eq q11.symm))) nin0)).keep K23q nin0).keep K31q (ninS (nw (nu (nu Epw0.lt zs43) g23t)) nin0))
 have f46 := ((((((Apw0.ext E1).keep K9q nin0).ext E11).keep K18q (ninS (nw (nu (nu Apw0.lt zs21) (Nat.le_of_eq q11.symm))) nin0)).keep K23q nin0).keep K31q (ninS (nw (nu (nu Apw0.lt zs43) g23t)) nin0))
 have Ts47 : Str Z T31.heap x0 wl0 := ⟨_, _, f33, f44, f45, f46⟩
 refine cVW (rest := []) X34 hx hZ hown (ow hw 316 rfl) (ow hw 98 rfl) (nfs hZ (ow hw 100 rfl)) (ow hw 100 rfl) (ow hw 99 rfl) (ow hw 73 rfl) (ow hw 101 rfl) (rm_saX l Z a0 hw [] b11 t18 kb18 ls (ls.length + 16) x0 wl0 z s35 T31.heap n0 Z32 O32 f36 f37 f38 f39 f40 f41 (by omega) (by omega) g_b11 g_t18 S0 hz Ts47 hb_0 (by omega) (by omega) (Nat.le_of_eq es35.symm) (by omega)) hby d55_117 e34 pd_836 0 (by rw [hml]; rfl) f36 rfl rfl rfl rfl ⟨by decide, nb rfl, nb rfl, nb rfl⟩ (by dsimp only; omega) fun _ T48 Lc48 X48 hQ48 => ?_
 obtain ⟨t48, kb48, rfl, N48q, K48q, o48t, F48v, F48c, F48n, E48t, V48q⟩ := hQ48
 have N48 := Fr.app N31 N48q
 have f49 := (r32.safe (nu E18t.lt K23q.1) (r24.safe (nu E18t.lt (Nat.le_refl _)) sfc18))
 have g_t48 : n0 ≤ t48 := o48t.elim (fun q => q ▸ g_t18) (fun q => nt Z32 q)
 have sz_t48 : h0.size ≤ t48 := o48t.elim (fun q => q ▸ sz_t18) (fun q => nt K32.1 q)
 have zs50 := nt K18q.1 K23q.1
 have zs51 := nt zs50 K31q.1
 have gb_t48 : h11.size ≤ t48 := o48t.elim (fun q => q ▸ g18t) (fun q => nt zs51 q)
 have r52 : CHr Z jo T9.vm T31.heap T9.vm T48.heap := CHr.keep K48q (sfS (Safe.exa hZ.alike f36 (by first | decide | exact nb rfl) (by first | decide | exact nb rfl)) (sfS f49 sf0)) R32.1
 have R52 := R32.trans r52
 have Z52 := nt Z32 K48q.1
 have O52 := O32.keep K48q (allS g_b11 (allS g_t18 all0))
 have K52 := K32.trans K48q (allS (Or.inr sz_b11) (allS (Or.inr sz_t18) all0))
 have sfc48 := Safe.keep K48q (sfS (Safe.exa hZ.alike f36 (by first | decide | exact nb rfl) (by first | decide | exact nb rfl)) (sfS f49 sf0)) R32.1 (o48t.elim (fun q => by rw [q]; exact f49) (fun q => Safe.new q))
 obtain ⟨M48, eM48⟩ : ∃ q, q = jw (ls.length + 16) (ls.length + wl0.length) := ⟨_, rfl⟩
 rw [← eM48] at V48q sp35 nb35 kc35
 have ln48 : (ls ++ wl0).length = (ls.length + wl0.length) := by rw [List.length_append]
 refine gsW (fun _ k => jW X48 hq d55_120 rfl (jf (v := (1 : Int32)) X48 hq d55_121 (je X48 hq d55_122 (jF rfl rfl) (jp (pc' := 33) X48 hq d55_124 k)))) ?_
 have mid : ∀ (vmj : Vm) (kj : Nat) (Tj : State) (hj : Heap) (lj : List Loc) (tj : Addr) (kbj : ClassId) (W : List Int32) (sj Mj slj : Nat), s.Since vmj kj → kj ≤ hj.size → Z.Warmed39 (s.setVm vmj).vm → ((s.setVm vmj).vm.findClass "com/example/caddisfly/caddisfly/Syntax" = some m.cls) → (Stand p l e (⟨9, 20, 4600, 132⟩ : Room) (s.setVm vmj) m #[(.ref ld), (.ref a)] below meth c Tj lj 14 slj) → Tj.heap = hj → Fr n0 lj → n0 ≤ hj.size → Old Z n0 hj → Keep h0 hj [] → CHr Z jo s.vm h0 vmj hj → W = js ls wl0 wl1 → sj ≤ W.length → W.length - sj = own_col2 ls wl0 wl1 → W.length ≤ 509 → W.length ≤ Mj → Mj ≤ 1530 → slj + 2 * M48 ≤ (290 + s35) + 2 * Mj → Exa Z hj b11 "java/lang/StringBuilder" → Fld Z hj b11 "java/lang/AbstractStringBuilder" "value" "[B" (.ref tj) → Fld Z hj b11 "java/lang/AbstractStringBuilder" "coder" "B" (.int (0 : Int32)) → Fld Z hj b11 "java/lang/AbstractStringBuilder" "count" "I" (.int (oI W.length)) → Exa Z hj tj "[B" → Arv Z hj tj kbj .byte (oI Mj) (jE W) (.int (0 : Int32)) → Safe Z jo vmj hj tj → n0 ≤ tj → h0.size ≤ tj → Exa Z hj t23 "java/util/ArrayList$Itr" → Fld Z hj t23 "java/util/ArrayList$Itr" "this$0" "Ljava/util/ArrayList;" (.ref a) → Fld Z hj t23 "java/util/ArrayList$Itr" "cursor" "I" (.int (2 : Int32)) → Fld Z hj t23 "java/util/ArrayList$Itr" "lastRet" "I" (.int (1 : Int32)) → Fld Z hj t23 "java/util/ArrayList$Itr" "expectedModCount" "I" (.int (3 : Int32)) → Exa Z hj a9 "java/lang/String" → Fld Z hj a9 "java/lang/String" "coder" "B" (.int (0 : Int32)) → Fld Z hj a9 "java/lang/String" "value" "[B" (.ref ur9) → Arv Z hj ur9 kur9 .byte (oI (List.replicate ls.length (32 : Int32)).length) (jE (List.replicate ls.length (32 : Int32))) (.int (0 : Int32)) → ur9 ≠ tj → OwnGoW p e below s Z jo (fun v h L => ∃ r : Addr, v = some (.ref r) ∧ Fr n0 L ∧ Keep h0 h [] ∧ Str Z h r ((jr ls wl0 wl1 wl2) ++ [10])) (⟨9, 20, 4600, 132⟩ : Room).cells (⟨9, 20, 4600, 132⟩ : Room).slots (Tj.setTop (mkF m 33 #[rv ld, rv a, rv a9, rv b11, iv (oI sj), iv (1 : Int32), rv t23, rv x1] [])) := by
  intro vmj kj Tj hj lj tj kbj W sj Mj slj hS hkj hZ hown Xj ej Nj Zj Oj Kj Rj hW hsW hcol hWl hWM hMj hslj Ebj Fvj Fcj Fnj Etj Vtj Qj gtj stj Eij Jtj Jcj Jlj Jmj Enj Cnj Vnj Anj nut
  refine gsW (fun _ k => jy Xj hq d55_33 rfl rfl k) ?_
  have f53 := (F_s.keep Kj nin0)
  obtain ⟨cq54, kq54, q54a, q54b, q54c⟩ := isOf hZ ej Eij
  obtain ⟨_, _, ⟨T54, L54, k54, n54⟩, -, X54, ⟨Lc54, hQ54, l54, y54, z54⟩, st54⟩ := Xj.interfaceBack hx (xi := my2) (y := my0) hown (mvT hZ (ow hw 157 rfl)) (mvT hZ (ow hw 158 rfl)) (mvT hZ (ow hw 159 rfl)) (mvT hZ (ow hw 160 rfl)) (mvT hZ (ow hw 161 rfl)) (mvT hZ (ow hw 162 rfl)) (mvT hZ (ow hw 163 rfl)) (mvT hZ (ow hw 164 rfl)) (by first | decide | exact nb rfl) (backC (W := 0) (rm_hn23 l Z a0 hw [] t23 a hj n0 Zj Oj Jtj Jcj f53) hZ (ow hw 165 rfl) (ow hw 143 rfl) (by first | decide | exact nb rfl) (by first | decide | exact nb rfl)) q54a q54b q54c (g := (mkF m 35 #[rv ld, rv a, rv a9, rv b11, iv (oI sj), iv (1 : Int32), rv t23, rv x1] [(.ref t23)])) rfl (by rw [hml]; rfl) (Steps.refl _) (argsL := []) (rest := []) (lenOf pd_93 rfl) rfl (jL rfl) (hb hby d55_35) (fun _ _ => ⟨rfl, ej, (show 14 + 0 ≤ _ from by first | decide | exact nb rfl), (by dsimp only [Pt.cells, Pt.slots]; omega)⟩)
  dsimp only [Pt.U, Pt.locs, Pt.cells, Pt.slots] at X54 l54 y54 z54 st54 hQ54
  subst l54 y54 z54
  obtain ⟨rfl, N54q, e54q⟩ := hQ54
  have N54 := Fr.app Nj N54q
  refine gsW (S' := T54.setTop (mkF m 40 #[rv ld, rv a, rv a9, rv b11, iv (oI sj), iv (1 : Int32), rv t23, rv x1] [(.int (1 : Int32))])) (fun _ k => st54.trans k) ?_
  refine gsW (fun _ k => jG X54 hq d55_40 ((if0 _ _).trans (feq (by decide : ¬ ((1 : Int32) = (0 : Int32)))).1) (jy X54 hq d55_43 rfl rfl k)) ?_
  have f55 := (E_a.keep Kj)
  have f56 := (F_m.keep Kj nin0)
  have f57 := (F_e.keep Kj nin0)
  have f58 := (V_ar.keep Kj nin0)
  obtain ⟨cq59, kq59, q59a, q59b, q59c⟩ := isOf hZ e54q Eij
  obtain ⟨_, _, ⟨T59, L59, k59, n59⟩, -, X59, ⟨Lc59, hQ59, l59, y59, z59⟩, st59⟩ := X54.interfaceBack hx (xi := my5) (y := my1) hown (mvT hZ (ow hw 301 rfl)) (mvT hZ (ow hw 302 rfl)) (mvT hZ (ow hw 303 rfl)) (mvT hZ (ow hw 304 rfl)) (mvT hZ (ow hw 305 rfl)) (mvT hZ (ow hw 306 rfl)) (mvT hZ (ow hw 307 rfl)) (mvT hZ (ow hw 164 rfl)) (by first | decide | exact nb rfl) (backC (W := 0) (rm_nx23 l Z a0 hw [] t23 a ar ka x0 x1 x2 hj n0 Zj Oj Eij Jtj Jcj Jlj Jmj g_t23 f55 f56 f53 f57 f58) hZ (ow hw 308 rfl) (ow hw 143 rfl) (by first | decide | exact nb rfl) (by first | decide | exact nb rfl)) q59a q59b q59c (g := (mkF m 45 #[rv ld, rv a, rv a9, rv b11, iv (oI sj), iv (1 : Int32), rv t23, rv x1] [(.ref t23)])) rfl (by rw [hml]; rfl) (Steps.refl _) (argsL := []) (rest := []) (lenOf pd_912 rfl) rfl (jL rfl) (hb hby d55_45) (fun _ _ => ⟨rfl, e54q, (show 14 + 0 ≤ _ from by first | decide | exact nb rfl), (by dsimp only [Pt.cells, Pt.slots]; omega)⟩)
  dsimp only [Pt.U, Pt.locs, Pt.cells, Pt.slots] at X59 l59 y59 z59 st59 hQ59
  subst l59 y59 z59
  obtain ⟨rfl, N59q, K59q, J59t, J59c, J59l, J59m⟩ := hQ59
  have N59 := Fr.app N54 N59q
  have r60 : CHr Z jo vmj hj vmj T59.heap := CHr.keep K59q (sfS (Safe.exa hZ.alike Eij (by first | decide | exact nb rfl) (by first | decide | exact nb rfl)) sf0) Rj.1
  have R60 := Rj.trans r60
  have Z60 := nt Zj K59q.1
  have O60 := Oj.keep K59q (allS g_t23 all0)
  have K60 := Kj.trans K59q (allS (Or.inr sz_t23) all0)
  refine gsW (S' := T59.setTop (mkF m 50 #[rv ld, rv a, rv a9, rv b11, iv (oI sj), iv (1 : Int32), rv t23, rv x1] [(.ref x2)])) (fun _ k => st59.trans k) ?_
  have f61 := ((Epw2.keep Kj).keep K59q)
  obtain ⟨T62, X62, e62, st62⟩ := castY X59 hx hZ hown (ow hw 315 rfl) rfl (Ins.self f61) (g := (mkF m 50 #[rv ld, rv a, rv a9, rv b11, iv (oI sj), iv (1 : Int32), rv t23, rv x1] [(.ref x2)])) rfl rfl (hb hby d55_50)
  refine gsW (S' := T62.setTop (mkF m 53 #[rv ld, rv a, rv a9, rv b11, iv (oI sj), iv (1 : Int32), rv t23, rv x1] [(.ref x2)])) st62 ?_
  refine gsW (fun _ k => jQ X62 hq d55_53 rfl (jF rfl rfl) (ja X62 hq d55_55 rfl (jG X62 hq d55_57 ((if0 _ _).trans (feq (by decide : ¬ ((1 : Int32) = (0 : Int32)))).1) (jb X62 hq d55_60 rfl rfl k)))) ?_
  have f63 := (Ebj.keep K59q)
  have f64 := (Eij.keep K59q)
  have f65 := (Fvj.keep K59q (ninS (Exa.ne f63 f64 (by first | decide | exact nb rfl)) nin0))
  have f66 := (Fcj.keep K59q (ninS (Exa.ne f63 f64 (by first | decide | exact nb rfl)) nin0))
  have f67 := (Fnj.keep K59q (ninS (Exa.ne f63 f64 (by first | decide | exact nb rfl)) nin0))
  have f68 := (Etj.keep K59q)
  have f69 := (Vtj.keep K59q (ninS (Exa.ne f68 f64 (by first | decide | exact nb rfl)) nin0))
  refine cVW (rest := []) X62 hx hZ hown (ow hw 332 rfl) (ow hw 333 rfl) (nfs hZ (ow hw 334 rfl)) (ow hw 334 rfl) (ow hw 209 rfl) (ow hw 73 rfl) (ow hw 210 rfl) (rm_slT l Z a0 hw [] b11 tj kbj W Mj T59.heap n0 Z60 O60 f63 f65 f66 f67 f68 f69 (by omega) (by omega)) hby d55_61 e62 pd_644 0 (by rw [hml]; rfl) f63 rfl rfl rfl rfl ⟨by decide, nb rfl, nb rfl, nb rfl⟩ (by dsimp only; omega) fun _ T70 Lc70 X70 hQ70 => ?_
  obtain ⟨rfl, N70q, e70q⟩ := hQ70
  have N70 := Fr.app N59 N70q
  have f71 := ((Cpw2.keep Kj nin0).keep K59q (ninS (nw (nu (nu Epw2.lt (Nat.le_refl _)) sz_t23)) nin0))
  have f72 := ((Vpw2.keep Kj nin0).keep K59q (ninS (nw (nu (nu Epw2.lt (Nat.le_refl _)) sz_t23)) nin0))
  have f73 := ((Apw2.keep Kj nin0).keep K59q (ninS (nw (nu (nu Apw2.lt (Nat.le_refl _)) sz_t23)) nin0))
  have Ts74 : Str Z T59.heap x2 wl2 := ⟨_, _, f61, f71, f72, f73⟩
  refine gsW (fun _ k => ja X70 hq d55_64 rfl (o_isub X70 hq d55_66 (jf (v := (1 : Int32)) X70 hq d55_67 (jt X70 hq d55_68 (jy X70 hq d55_69 rfl rfl k))))) ?_
  refine cVW (rest := [(.int (((oI W.length) - (oI sj)) + (1 : Int32)))]) X70 hx hZ hown (ow hw 55 rfl) (ow hw 56 rfl) (nfs hZ (ow hw 58 rfl)) (ow hw 58 rfl) (ow hw 57 rfl) (ow hw 7 rfl) (ow hw 59 rfl) (rm_lenL l Z a0 hw [] x2 wl2 z T59.heap n0 Z60 O60 Ts74 S0 hz) hby d55_71 e70q pd_644 1 (by rw [hml]; rfl) Ts74.exa rfl rfl rfl rfl ⟨by decide, nb rfl, nb rfl, nb rfl⟩ (by dsimp only; omega) fun _ T75 Lc75 X75 hQ75 => ?_
  obtain ⟨rfl, N75q, e75q⟩ := hQ75
  have N75 := Fr.app N70 N75q
  refine gsW (fun _ k => jt X75 hq d55_74 (jz (v := (80 : Int32)) X75 hq d55_75 k)) ?_
  by_cases hc76 : (80 : Int32) < ((((oI W.length) - (oI sj)) + (1 : Int32)) + (oI wl2.length))
  ·obtain ⟨s77, es77⟩ : ∃ q, q = jS Mj (W.length + 1) := ⟨_, rfl⟩
   have sp77 := jN Mj (W.length + 1)
   rw [← es77] at sp77
   have kb77 : (W.length + 1) ≤ 765 := by omega
   have nb77 : jw Mj (W.length + 1) ≤ 1530 := jO (by omega) (by omega)
   have kc77 := jP Mj (W.length + 1)
   refine gsW (fun _ k => jm X75 hq d55_77 (tlt hc76).2.2.2 (jb X75 hq d55_80 rfl rfl (jz (v := (10 : Int32)) X75 hq d55_81 k))) ?_
   refine cVW (rest := []) X75 hx hZ hown (ow hw 170 rfl) (ow hw 171 rfl) (nfs hZ (ow hw 173 rfl)) (ow hw 173 rfl) (ow hw 172 rfl) (ow hw 73 rfl) (ow hw 174 rfl) (rm_scX l Z a0 hw [] b11 tj kbj W Mj (10 : Int32) z s77 T59.heap n0 Z60 O60 f63 f65 f66 f67 f68 f69 (by omega) (by omega) g_b11 gtj S0 hz (by first | decide | exact nb rfl) (by omega) (Nat.le_of_eq es77.symm) (by omega)) hby d55_83 e75q pd_904 0 (by rw [hml]; rfl) f63 rfl rfl rfl rfl ⟨by decide, nb rfl, nb rfl, nb rfl⟩ (by dsimp only; omega) fun _ T78 Lc78 X78 hQ78 => ?_
   obtain ⟨t78, kb78, rfl, N78q, K78q, o78t, F78v, F78c, F78n, E78t, V78q⟩ := hQ78
   have N78 := Fr.app N75 N78q
   have f79 := (r60.safe (nu Etj.lt (Nat.le_refl _)) Qj)
   have g_t78 : n0 ≤ t78 := o78t.elim (fun q => q ▸ gtj) (fun q => nt Z60 q)
   have ne_ur9_t78 : ur9 ≠ t78 := o78t.elim (fun q => q ▸ nut) (fun q => nw (nu (nu Anj.lt K59q.1) q))
   have sz_t78 : h0.size ≤ t78 := o78t.elim (fun q => q ▸ stj) (fun q => nt K60.1 q)
   have zs80 := nt Kj.1 K59q.1
   have gb_t78 : h0.size ≤ t78 := o78t.elim (fun q => q ▸ stj) (fun q => nt zs80 q)
   have r81 : CHr Z jo vmj T59.heap vmj T78.heap := CHr.keep K78q (sfS (Safe.exa hZ.alike f63 (by first | decide | exact nb rfl) (by first | decide | exact nb rfl)) (sfS f79 sf0)) R60.1
   have R81 := R60.trans r81
   have Z81 := nt Z60 K78q.1
   have O81 := O60.keep K78q (allS g_b11 (allS gtj all0))
   have K81 := K60.trans K78q (allS (Or.inr sz_b11) (allS (Or.inr stj) all0))
   have sfc78 := Safe.keep K78q (sfS (Safe.exa hZ.alike f63 (by first | decide | exact nb rfl) (by first | decide | exact nb rfl)) (sfS f79 sf0)) R60.1 (o78t.elim (fun q => by rw [q]; exact f79) (fun q => Safe.new q))
   obtain ⟨M78, eM78⟩ : ∃ q, q = jw Mj (W.length + 1) := ⟨_, rfl⟩
   rw [← eM78] at V78q sp77 nb77 kc77
   have ln78 : (W ++ [(10 : Int32)]).length = (W.length + 1) := by rw [List.length_append]; rfl
   refine gsW (fun _ k => jW X78 hq d55_86 rfl (jb X78 hq d55_87 rfl rfl k)) ?_
   have f82 := (f63.keep K78q)
   refine cVW (rest := []) X78 hx hZ hown (ow hw 332 rfl) (ow hw 333 rfl) (nfs hZ (ow hw 334 rfl)) (ow hw 334 rfl) (ow hw 209 rfl) (ow hw 73 rfl) (ow hw 210 rfl) (rm_slT l Z a0 hw [] b11 t78 kb78 (W ++ [(10 : Int32)]) M78 T78.heap n0 Z81 O81 f82 F78v F78c F78n E78t V78q (by omega) (by omega)) hby d55_88 rfl pd_644 0 (by rw [hml]; rfl) f82 rfl rfl rfl rfl ⟨by decide, nb rfl, nb rfl, nb rfl⟩ (by dsimp only; omega) fun _ T83 Lc83 X83 hQ83 => ?_
   obtain ⟨rfl, N83q, e83q⟩ := hQ83
   have N83 := Fr.app N78 N83q
   obtain ⟨s84, es84⟩ : ∃ q, q = jS M78 ((W ++ [(10 : Int32)]).length + (List.replicate ls.length (32 : Int32)).length) := ⟨_, rfl⟩
   have sp84 := jN M78 ((W ++ [(10 : Int32)]).length + (List.replicate ls.length (32 : Int32)).length)
   rw [← es84] at sp84
   have kb84 : ((W ++ [(10 : Int32)]).length + (List.replicate ls.length (32 : Int32)).length) ≤ 765 := by omega
   have nb84 : jw M78 ((W ++ [(10 : Int32)]).length + (List.replicate ls.length (32 : Int32)).length) ≤ 1530 := jO (by omega) (by omega)
   have kc84 := jP M78 ((W ++ [(10 : Int32)]).length + (List.replicate ls.length (32 : Int32)).length)
   refine gsW (fun _ k => je X83 hq d55_91 (jF rfl rfl) (jb X83 hq d55_93 rfl rfl (jb X83 hq d55_94 rfl rfl k))) ?_
   have f85 := ((Enj.keep K59q).keep K78q)
   have f86 := (f64.keep K78q)
   have f87 := (f68.keep K78q)
   have f88 := ((Cnj.keep K59q (ninS (Exa.ne f85 f86 (by first | decide | exact nb rfl)) nin0)).keep K78q (ninS (Exa.ne f85 f82 (by first | decide | exact nb rfl)) (ninS (Exa.ne f85 f87 (by first | decide | exact nb rfl)) nin0)))
   have f89 := ((Vnj.keep K59q (ninS (Exa.ne f85 f86 (by first | decide | exact nb rfl)) nin0)).keep K78q (ninS (Exa.ne f85 f82 (by first | decide | exact nb rfl)) (ninS (Exa.ne f85 f87 (by first | decide | exact nb rfl)) nin0)))
   have f90 := ((Anj.keep K59q (ninS (Ne.symm (Exa.neArv Eij Anj (ow hw 142 rfl))) nin0)).keep K78q (ninS (Ne.symm (Exa.neArv Ebj Anj (ow hw 72 rfl))) (ninS nut nin0)))
   have Ts91 : Str Z T78.heap a9 (List.replicate ls.length (32 : Int32)) := ⟨_, _, f85, f88, f89, f90⟩
   refine cVW (rest := []) X83 hx hZ hown (ow hw 316 rfl) (ow hw 98 rfl) (nfs hZ (ow hw 100 rfl)) (ow hw 100 rfl) (ow hw 99 rfl) (ow hw 73 rfl) (ow hw 101 rfl) (rm_saX l Z a0 hw [] b11 t78 kb78 (W ++ [(10 : Int32)]) M78 a9 (List.replicate ls.length (32 : Int32)) z s84 T78.heap n0 Z81 O81 f82 F78v F78c F78n E78t V78q (by omega) (by omega) g_b11 g_t78 S0 hz Ts91 (own_rpb _) (by omega) (by omega) (Nat.le_of_eq es84.symm) (by omega)) hby d55_95 e83q pd_836 0 (by rw [hml]; rfl) f82 rfl rfl rfl rfl ⟨by decide, nb rfl, nb rfl, nb rfl⟩ (by dsimp only; omega) fun _ T92 Lc92 X92 hQ92 => ?_
   obtain ⟨t92, kb92, rfl, N92q, K92q, o92t, F92v, F92c, F92n, E92t, V92q⟩ := hQ92
   have N92 := Fr.app N83 N92q
   have g_t92 : n0 ≤ t92 := o92t.elim (fun q => q ▸ g_t78) (fun q => nt Z81 q)
   have zs93 := nt K59q.1 K78q.1
   have ne_ur9_t92 : ur9 ≠ t92 := o92t.elim (fun q => q ▸ ne_ur9_t78) (fun q => nw (nu (nu Anj.lt zs93) q))
   have sz_t92 : h0.size ≤ t92 := o92t.elim (fun q => q ▸ sz_t78) (fun q => nt K81.1 q)
   have zs94 := nt zs80 K78q.1
   have gb_t92 : h0.size ≤ t92 := o92t.elim (fun q => q ▸ gb_t78) (fun q => nt zs94 q)
   have r95 : CHr Z jo vmj T78.heap vmj T92.heap := CHr.keep K92q (sfS (Safe.exa hZ.alike f82 (by first | decide | exact nb rfl) (by first | decide | exact nb rfl)) (sfS sfc78 sf0)) R81.1
   have R95 := R81.trans r95
   have Z95 := nt Z81 K92q.1
   have O95 := O81.keep K92q (allS g_b11 (allS g_t78 all0))
   have K95 := K81.trans K92q (allS (Or.inr sz_b11) (allS (Or.inr sz_t78) all0))
   have sfc92 := Safe.keep K92q (sfS (Safe.exa hZ.alike f82 (by first | decide | exact nb rfl) (by first | decide | exact nb rfl)) (sfS sfc78 sf0)) R81.1 (o92t.elim (fun q => by rw [q]; exact sfc78) (fun q => Safe.new q))
   obtain ⟨M92, eM92⟩ : ∃ q, q = jw M78 ((W ++ [(10 : Int32)]).length + (List.replicate ls.length (32 : Int32)).length) := ⟨_, rfl⟩
   rw [← eM92] at V92q sp84 nb84 kc84
   have ln92 : ((W ++ [(10 : Int32)]) ++ (List.replicate ls.length (32 : Int32))).length = ((W ++ [(10 : Int32)]).length + (List.replicate ls.length (32 : Int32)).length) := by rw [List.length_append]
   obtain ⟨s96, es96⟩ : ∃ q, q = jS M92 (((W ++ [(10 : Int32)]) ++ (List.replicate ls.length (32 : Int32))).length + wl2.length) := ⟨_, rfl⟩
   have sp96 := jN M92 (((W ++ [(10 : Int32)]) ++ (List.replicate ls.length (32 : Int32))).length + wl2.length)
   rw [← es96] at sp96
   have kb96 : (((W ++ [(10 : Int32)]) ++ (List.replicate ls.length (32 : Int32))).length + wl2.length) ≤ 765 := by omega
   have nb96 : jw M92 (((W ++ [(10 : Int32)]) ++ (List.replicate ls.length (32 : Int32))).length + wl2.length) ≤ 1530 := jO (by omega) (by omega)
   have kc96 := jP M92 (((W ++ [(10 : Int32)]) ++ (List.replicate ls.length (32 : Int32))).length + wl2.length)
   refine gsW (fun _ k => jW X92 hq d55_98 rfl (jf (v := (0 : Int32)) X92 hq d55_99 (je X92 hq d55_100 (jF rfl rfl) (ja X92 hq d55_102 rfl (jI (pc' := 114) X92 hq d55_104 ((if0 _ _).trans (teq (show (0 : Int32) = (0 : Int32) from by first | decide | exact nb rfl)).1) (jb X92 hq d55_114 rfl rfl (jy X92 hq d55_115 rfl rfl k))))))) ?_
   have f97 := (f82.keep K92q)
   have f98 := ((Ts74.exa.keep K78q).keep K92q)
   have f99 := ((f71.keep K78q (ninS (nw (nu (nu Epw2.lt (Nat.le_refl _)) sz_b11)) (ninS (nw (nu (nu Epw2.lt (Nat.le_refl _)) stj)) nin0))).keep K92q (ninS (nw (nu (nu Epw2.lt (Nat.le_refl _)) sz_b11)) (ninS (nw (nu (nu Epw2.lt (Nat.le_refl _)) gb_t78)) nin0)))
   have f100 := ((f72.keep K78q (ninS (nw (nu (nu Epw2.lt (Nat.le_refl _)) sz_b11)) (ninS (nw (nu (nu Epw2.lt (Nat.le_refl _)) stj)) nin0))).keep K92q (ninS (nw (nu (nu Epw2.lt (Nat.le_refl _)) sz_b11)) (ninS (nw (nu (nu Epw2.lt (Nat.le_refl _)) gb_t78)) nin0)))
   have f101 := ((f73.keep K78q (ninS (nw (nu (nu Apw2.lt (Nat.le_refl _)) sz_b11)) (ninS (nw (nu (nu Apw2.lt (Nat.le_refl _)) stj)) nin0))).keep K92q (ninS (nw (nu (nu Apw2.lt (Nat.le_refl _)) sz_b11)) (ninS (nw (nu (nu Apw2.lt (Nat.le_refl _)) gb_t78)) nin0)))
   have Ts102 : Str Z T92.heap x2 wl2 := ⟨_, _, f98, f99, f100, f101⟩
   refine cVW (rest := []) X92 hx hZ hown (ow hw 316 rfl) (ow hw 98 rfl) (nfs hZ (ow hw 100 rfl)) (ow hw 100 rfl) (ow hw 99 rfl) (ow hw 73 rfl) (ow hw 101 rfl) (rm_saX l Z a0 hw [] b11 t92 kb92 ((W ++ [(10 : Int32)]) ++ (List.replicate ls.length (32 : Int32))) M92 x2 wl2 z s96 T92.heap n0 Z95 O95 f97 F92v F92c F92n E92t V92q (by omega) (by omega) g_b11 g_t92 S0 hz Ts102 hb_2 (by omega) (by omega) (Nat.le_of_eq es96.symm) (by omega)) hby d55_117 rfl pd_836 0 (by rw [hml]; rfl) f97 rfl rfl rfl rfl ⟨by decide, nb rfl, nb rfl, nb rfl⟩ (by dsimp only; omega) fun _ T103 Lc103 X103 hQ103 => ?_
   obtain ⟨t103, kb103, rfl, N103q, K103q, o103t, F103v, F103c, F103n, E103t, V103q⟩ := hQ103
   have N103 := Fr.app N92 N103q
   have g_t103 : n0 ≤ t103 := o103t.elim (fun q => q ▸ g_t92) (fun q => nt Z95 q)
   have zs104 := nt zs93 K92q.1
   have ne_ur9_t103 : ur9 ≠ t103 := o103t.elim (fun q => q ▸ ne_ur9_t92) (fun q => nw (nu (nu Anj.lt zs104) q))
   have sz_t103 : h0.size ≤ t103 := o103t.elim (fun q => q ▸ sz_t92) (fun q => nt K95.1 q)
   have zs105 := nt zs94 K92q.1
   have gb_t103 : h0.size ≤ t103 := o103t.elim (fun q => q ▸ gb_t92) (fun q => nt zs105 q)
   have r106 : CHr Z jo vmj T92.heap vmj T103.heap := CHr.keep K103q (sfS (Safe.exa hZ.alike f97 (by first | decide | exact nb rfl) (by first | decide | exact nb rfl)) (sfS sfc92 sf0)) R95.1
   have R106 := R95.trans r106
   have Z106 := nt Z95 K103q.1
   have O106 := O95.keep K103q (allS g_b11 (allS g_t92 all0))
   have K106 := K95.trans K103q (allS (Or.inr sz_b11) (allS (Or.inr sz_t92) all0))
   have sfc103 := Safe.keep K103q (sfS (Safe.exa hZ.alike f97 (by first | decide | exact nb rfl) (by first | decide | exact nb rfl)) (sfS sfc92 sf0)) R95.1 (o103t.elim (fun q => by rw [q]; exact sfc92) (fun q => Safe.new q))
   obtain ⟨M103, eM103⟩ : ∃ q, q = jw M92 (((W ++ [(10 : Int32)]) ++ (List.replicate ls.length (32 : Int32))).length + wl2.length) := ⟨_, rfl⟩
   rw [← eM103] at V103q sp96 nb96 kc96
   have ln103 : (((W ++ [(10 : Int32)]) ++ (List.replicate ls.length (32 : Int32))) ++ wl2).length = (((W ++ [(10 : Int32)]) ++ (List.replicate ls.length (32 : Int32))).length + wl2.length) := by rw [List.length_append]
   refine gsW (fun _ k => jW X103 hq d55_120 rfl (jf (v := (1 : Int32)) X103 hq d55_121 (je X103 hq d55_122 (jF rfl rfl) (jp (pc' := 33) X103 hq d55_124 (jy X103 hq d55_33 rfl rfl k))))) ?_
   have f107 := ((f86.keep K92q).keep K103q)
   have f108 := ((f87.keep K92q).keep K103q)
   have f109 := (f97.keep K103q)
   have f110 := ((E78t.keep K92q).keep K103q)
   have f111 := (E92t.keep K103q)
   have f112 := (((J59t.keep K78q (ninS (Exa.ne f107 f109 (by first | decide | exact nb rfl)) (ninS (Exa.ne f107 f108 (by first | decide | exact nb rfl)) nin0))).keep K92q (ninS (Exa.ne f107 f109 (by first | decide | exact nb rfl)) (ninS (Exa.ne f107 f110 (by first | decide | exact nb rfl)) nin0))).keep K103q (ninS (Exa.ne f107 f109 (by first | decide | exact nb rfl)) (ninS (Exa.ne f107 f111 (by first | decide | exact nb rfl)) nin0)))
   have f113 := (((J59c.keep K78q (ninS (Exa.ne f107 f109 (by first | decide | exact nb rfl)) (ninS (Exa.ne f107 f108 (by first | decide | exact nb rfl)) nin0))).keep K92q (ninS (Exa.ne f107 f109 (by first | decide | exact nb rfl)) (ninS (Exa.ne f107 f110 (by first | decide | exact nb rfl)) nin0))).keep K103q (ninS (Exa.ne f107 f109 (by first | decide | exact nb rfl)) (ninS (Exa.ne f107 f111 (by first | decide | exact nb rfl)) nin0)))
   have f114 := ((((f53.keep K59q (ninS (nw (nu (nu E_a.lt (Nat.le_refl _)) sz_t23)) nin0)).keep K78q (ninS (nw (nu (nu E_a.lt (Nat.le_refl _)) sz_b11)) (ninS (nw (nu (nu E_a.lt (Nat.le_refl _)) stj)) nin0))).keep K92q (ninS (nw (nu (nu E_a.lt (Nat.le_refl _)) sz_b11)) (ninS (nw (nu (nu E_a.lt (Nat.le_refl _)) gb_t78)) nin0))).keep K103q (ninS (nw (nu (nu E_a.lt (Nat.le_refl _)) sz_b11)) (ninS (nw (nu (nu E_a.lt (Nat.le_refl _)) gb_t92)) nin0)))
   obtain ⟨cq115, kq115, q115a, q115b, q115c⟩ := isOf hZ rfl f107
   obtain ⟨_, _, ⟨T115, L115, k115, n115⟩, -, X115, ⟨Lc115, hQ115, l115, y115, z115⟩, st115⟩ := X103.interfaceBack hx (xi := my2) (y := my0) hown (mvT hZ (ow hw 157 rfl)) (mvT hZ (ow hw 158 rfl)) (mvT hZ (ow hw 159 rfl)) (mvT hZ (ow hw 160 rfl)) (mvT hZ (ow hw 161 rfl)) (mvT hZ (ow hw 162 rfl)) (mvT hZ (ow hw 163 rfl)) (mvT hZ (ow hw 164 rfl)) (by first | decide | exact nb rfl) (backC (W := 0) (rm_hn33 l Z a0 hw [] t23 a T103.heap n0 Z106 O106 f112 f113 f114) hZ (ow hw 165 rfl) (ow hw 143 rfl) (by first | decide | exact nb rfl) (by first | decide | exact nb rfl)) q115a q115b q115c (g := (mkF m 35 #[rv ld, rv a, rv a9, rv b11, iv ((oI (W ++ [(10 : Int32)]).length)), iv (1 : Int32), rv t23, rv x2] [(.ref t23)])) rfl (by rw [hml]; rfl) (Steps.refl _) (argsL := []) (rest := []) (lenOf pd_93 rfl) rfl (jL rfl) (hb hby d55_35) (fun _ _ => ⟨rfl, rfl, (show 17 + 0 ≤ _ from by first | decide | exact nb rfl), (by dsimp only [Pt.cells, Pt.slots]; omega)⟩)
   dsimp only [Pt.U, Pt.locs, Pt.cells, Pt.slots] at X115 l115 y115 z115 st115 hQ115
   subst l115 y115 z115
   obtain ⟨rfl, N115q, e115q⟩ := hQ115
   have N115 := Fr.app N103 N115q
   refine gsW (S' := T115.setTop (mkF m 40 #[rv ld, rv a, rv a9, rv b11, iv ((oI (W ++ [(10 : Int32)]).length)), iv (1 : Int32), rv t23, rv x2] [(.int (0 : Int32))])) (fun _ k => st115.trans k) ?_
   obtain ⟨s116, es116⟩ : ∃ q, q = jS M103 ((((W ++ [(10 : Int32)]) ++ (List.replicate ls.length (32 : Int32))) ++ wl2).length + 1) := ⟨_, rfl⟩
   have sp116 := jN M103 ((((W ++ [(10 : Int32)]) ++ (List.replicate ls.length (32 : Int32))) ++ wl2).length + 1)
   rw [← es116] at sp116
   have kb116 : ((((W ++ [(10 : Int32)]) ++ (List.replicate ls.length (32 : Int32))) ++ wl2).length + 1) ≤ 765 := by omega
   have nb116 : jw M103 ((((W ++ [(10 : Int32)]) ++ (List.replicate ls.length (32 : Int32))) ++ wl2).length + 1) ≤ 1530 := jO (by omega) (by omega)
   have kc116 := jP M103 ((((W ++ [(10 : Int32)]) ++ (List.replicate ls.length (32 : Int32))) ++ wl2).length + 1)
   refine gsW (fun _ k => jI (pc' := 127) X115 hq d55_40 ((if0 _ _).trans (teq (show (0 : Int32) = (0 : Int32) from by first | decide | exact nb rfl)).1) (jb X115 hq d55_127 rfl rfl (jz (v := (10 : Int32)) X115 hq d55_128 k))) ?_
   refine cVW (rest := []) X115 hx hZ hown (ow hw 170 rfl) (ow hw 171 rfl) (nfs hZ (ow hw 173 rfl)) (ow hw 173 rfl) (ow hw 172 rfl) (ow hw 73 rfl) (ow hw 174 rfl) (rm_scX l Z a0 hw [] b11 t103 kb103 (((W ++ [(10 : Int32)]) ++ (List.replicate ls.length (32 : Int32))) ++ wl2) M103 (10 : Int32) z s116 T103.heap n0 Z106 O106 f109 F103v F103c F103n E103t V103q (by omega) (by omega) g_b11 g_t103 S0 hz (by first | decide | exact nb rfl) (by omega) (Nat.le_of_eq es116.symm) (by omega)) hby d55_130 e115q pd_904 0 (by rw [hml]; rfl) f109 rfl rfl rfl rfl ⟨by decide, nb rfl, nb rfl, nb rfl⟩ (by dsimp only; omega) fun _ T117 Lc117 X117 hQ117 => ?_
   obtain ⟨t117, kb117, rfl, N117q, K117q, o117t, F117v, F117c, F117n, E117t, V117q⟩ := hQ117
   have N117 := Fr.app N115 N117q
   have g_t117 : n0 ≤ t117 := o117t.elim (fun q => q ▸ g_t103) (fun q => nt Z106 q)
   have zs118 := nt zs104 K103q.1
   have ne_ur9_t117 : ur9 ≠ t117 := o117t.elim (fun q => q ▸ ne_ur9_t103) (fun q => nw (nu (nu Anj.lt zs118) q))
   have sz_t117 : h0.size ≤ t117 := o117t.elim (fun q => q ▸ sz_t103) (fun q => nt K106.1 q)
   have zs119 := nt zs105 K103q.1
   have gb_t117 : h0.size ≤ t117 := o117t.elim (fun q => q ▸ gb_t103) (fun q => nt zs119 q)
   have r120 : CHr Z jo vmj T103.heap vmj T117.heap := CHr.keep K117q (sfS (Safe.exa hZ.alike f109 (by first | decide | exact nb rfl) (by first | decide | exact nb rfl)) (sfS sfc103 sf0)) R106.1
   have R120 := R106.trans r120
   have Z120 := nt Z106 K117q.1
   have O120 := O106.keep K117q (allS g_b11 (allS g_t103 all0))
   have K120 := K106.trans K117q (allS (Or.inr sz_b11) (allS (Or.inr sz_t103) all0))
   have sfc117 := Safe.keep K117q (sfS (Safe.exa hZ.alike f109 (by first | decide | exact nb rfl) (by first | decide | exact nb rfl)) (sfS sfc103 sf0)) R106.1 (o117t.elim (fun q => by rw [q]; exact sfc103) (fun q => Safe.new q))
   obtain ⟨M117, eM117⟩ : ∃ q, q = jw M103 ((((W ++ [(10 : Int32)]) ++ (List.replicate ls.length (32 : Int32))) ++ wl2).length + 1) := ⟨_, rfl⟩
   rw [← eM117] at V117q sp116 nb116 kc116
   have ln117 : ((((W ++ [(10 : Int32)]) ++ (List.replicate ls.length (32 : Int32))) ++ wl2) ++ [(10 : Int32)]).length = ((((W ++ [(10 : Int32)]) ++ (List.replicate ls.length (32 : Int32))) ++ wl2).length + 1) := by rw [List.length_append]; rfl
   have f121 := (f109.keep K117q)
   refine cVW (rest := []) X117 hx hZ hown (ow hw 188 rfl) (ow hw 189 rfl) (nfs hZ (ow hw 191 rfl)) (ow hw 191 rfl) (ow hw 190 rfl) (ow hw 73 rfl) (ow hw 192 rfl) (rm_tsT l Z a0 hw [] b11 t117 kb117 ((((W ++ [(10 : Int32)]) ++ (List.replicate ls.length (32 : Int32))) ++ wl2) ++ [(10 : Int32)]) M117 z T117.heap n0 Z120 O120 f121 F117v F117c F117n E117t V117q (by omega) (by omega) S0 hz (by omega)) hby d55_133 rfl pd_906 0 (by rw [hml]; rfl) f121 rfl rfl rfl rfl ⟨by decide, nb rfl, nb rfl, nb rfl⟩ (by dsimp only; omega) fun _ T122 Lc122 X122 hQ122 => ?_
   obtain ⟨a122, rfl, N122q, K122q, T122q⟩ := hQ122
   have N122 := Fr.app N117 N122q
   have r123 : CHr Z jo vmj T117.heap vmj T122.heap := CHr.keep K122q sf0 R120.1
   have R123 := R120.trans r123
   have Z123 := nt Z120 K122q.1
   have O123 := O120.keep K122q all0
   have K123 := K120.trans K122q all0
   have d3 : own_C3 ls wl0 wl1 wl2 := by have q := (own_c80 (A := W.length) (B := sj) (C := wl2.length) hsW (by omega) (by omega)).mp hc76; show 80 < _; omega
   have zs124 := nt zs118 K117q.1
   have zs125 := nt zs124 K122q.1
   refine goutW (v := some (.ref a122)) X122 hS (nt hkj zs125) hZ (jJ hw) hh rfl R123 Bd.notSynchronized (jA Bd.returns) (by first | decide | exact nb rfl) (by dsimp only [Pt.cells, Pt.slots]; omega) ?_ (fun fs hr => retOut X122 hx Bd.returns rfl (Or.inr (Or.inr (Or.inr (Or.inr ⟨rfl, rfl, rfl⟩)))) (hb hby d55_136) hr)
   exact ⟨_, rfl, N122, K123, by unfold jr; rw [if_pos d3, ← hW]; exact T122q⟩
  ·obtain ⟨s126, es126⟩ : ∃ q, q = jS Mj (W.length + 1) := ⟨_, rfl⟩
   have sp126 := jN Mj (W.length + 1)
   rw [← es126] at sp126
   have kb126 : (W.length + 1) ≤ 765 := by omega
   have nb126 : jw Mj (W.length + 1) ≤ 1530 := jO (by omega) (by omega)
   have kc126 := jP Mj (W.length + 1)
   refine gsW (fun _ k => jh (pc' := 102) X75 hq d55_77 (flt hc76).2.2.2 (ja X75 hq d55_102 rfl (jG X75 hq d55_104 ((if0 _ _).trans (feq (by decide : ¬ ((1 : Int32) = (0 : Int32)))).1) (jb X75 hq d55_107 rfl rfl (jz (v := (32 : Int32)) X75 hq d55_108 k))))) ?_
   refine cVW (rest := []) X75 hx hZ hown (ow hw 170 rfl) (ow hw 171 rfl) (nfs hZ (ow hw 173 rfl)) (ow hw 173 rfl) (ow hw 172 rfl) (ow hw 73 rfl) (ow hw 174 rfl) (rm_scX l Z a0 hw [] b11 tj kbj W Mj (32 : Int32) z s126 T59.heap n0 Z60 O60 f63 f65 f66 f67 f68 f69 (by omega) (by omega) g_b11 gtj S0 hz (by first | decide | exact nb rfl) (by omega) (Nat.le_of_eq es126.symm) (by omega)) hby d55_110 e75q pd_904 0 (by rw [hml]; rfl) f63 rfl rfl rfl rfl ⟨by decide, nb rfl, nb rfl, nb rfl⟩ (by dsimp only; omega) fun _ T127 Lc127 X127 hQ127 => ?_
   obtain ⟨t127, kb127, rfl, N127q, K127q, o127t, F127v, F127c, F127n, E127t, V127q⟩ := hQ127
   have N127 := Fr.app N75 N127q
   have f128 := (r60.safe (nu Etj.lt (Nat.le_refl _)) Qj)
   have g_t127 : n0 ≤ t127 := o127t.elim (fun q => q ▸ gtj) (fun q => nt Z60 q)
   have ne_ur9_t127 : ur9 ≠ t127 := o127t.elim (fun q => q ▸ nut) (fun q => nw (nu (nu Anj.lt K59q.1) q))
   have sz_t127 : h0.size ≤ t127 := o127t.elim (fun q => q ▸ stj) (fun q => nt K60.1 q)
   have zs129 := nt Kj.1 K59q.1
   have gb_t127 : h0.size ≤ t127 := o127t.elim (fun q => q ▸ stj) (fun q => nt zs129 q)
   have r130 : CHr Z jo vmj T59.heap vmj T127.heap := CHr.keep K127q (sfS (Safe.exa hZ.alike f63 (by first | decide | exact nb rfl) (by first | decide | exact nb rfl)) (sfS f128 sf0)) R60.1
   have R130 := R60.trans r130
   have Z130 := nt Z60 K127q.1
   have O130 := O60.keep K127q (allS g_b11 (allS gtj all0))
   have K130 := K60.trans K127q (allS (Or.inr sz_b11) (allS (Or.inr stj) all0))
   have sfc127 := Safe.keep K127q (sfS (Safe.exa hZ.alike f63 (by first | decide | exact nb rfl) (by first | decide | exact nb rfl)) (sfS f128 sf0)) R60.1 (o127t.elim (fun q => by rw [q]; exact f128) (fun q => Safe.new q))
   obtain ⟨M127, eM127⟩ : ∃ q, q = jw Mj (W.length + 1) := ⟨_, rfl⟩
   rw [← eM127] at V127q sp126 nb126 kc126
   have ln127 : (W ++ [(32 : Int32)]).length = (W.length + 1) := by rw [List.length_append]; rfl
   obtain ⟨s131, es131⟩ : ∃ q, q = jS M127 ((W ++ [(32 : Int32)]).length + wl2.length) := ⟨_, rfl⟩
   have sp131 := jN M127 ((W ++ [(32 : Int32)]).length + wl2.length)
   rw [← es131] at sp131
   have kb131 : ((W ++ [(32 : Int32)]).length + wl2.length) ≤ 765 := by omega
   have nb131 : jw M127 ((W ++ [(32 : Int32)]).length + wl2.length) ≤ 1530 := jO (by omega) (by omega)
   have kc131 := jP M127 ((W ++ [(32 : Int32)]).length + wl2.length)
   refine gsW (fun _ k => jW X127 hq d55_113 rfl (jb X127 hq d55_114 rfl rfl (jy X127 hq d55_115 rfl rfl k))) ?_
   have f132 := (f63.keep K127q)
   have f133 := (Ts74.exa.keep K127q)
   have f134 := (f71.keep K127q (ninS (nw (nu (nu Epw2.lt (Nat.le_refl _)) sz_b11)) (ninS (nw (nu (nu Epw2.lt (Nat.le_refl _)) stj)) nin0)))
   have f135 := (f72.keep K127q (ninS (nw (nu (nu Epw2.lt (Nat.le_refl _)) sz_b11)) (ninS (nw (nu (nu Epw2.lt (Nat.le_refl _)) stj)) nin0)))
   have f136 := (f73.keep K127q (ninS (nw (nu (nu Apw2.lt (Nat.le_refl _)) sz_b11)) (ninS (nw (nu (nu Apw2.lt (Nat.le_refl _)) stj)) nin0)))
   have Ts137 : Str Z T127.heap x2 wl2 := ⟨_, _, f133, f134, f135, f136⟩
   refine cVW (rest := []) X127 hx hZ hown (ow hw 316 rfl) (ow hw 98 rfl) (nfs hZ (ow hw 100 rfl)) (ow hw 100 rfl) (ow hw 99 rfl) (ow hw 73 rfl) (ow hw 101 rfl) (rm_saX l Z a0 hw [] b11 t127 kb127 (W ++ [(32 : Int32)]) M127 x2 wl2 z s131 T127.heap n0 Z130 O130 f132 F127v F127c F127n E127t V127q (by omega) (by omega) g_b11 g_t127 S0 hz Ts137 hb_2 (by omega) (by omega) (Nat.le_of_eq es131.symm) (by omega)) hby d55_117 rfl pd_836 0 (by rw [hml]; rfl) f132 rfl rfl rfl rfl ⟨by decide, nb rfl, nb rfl, nb rfl⟩ (by dsimp only; omega) fun _ T138 Lc138 X138 hQ138 => ?_
   obtain ⟨t138, kb138, rfl, N138q, K138q, o138t, F138v, F138c, F138n, E138t, V138q⟩ := hQ138
   have N138 := Fr.app N127 N138q
   have g_t138 : n0 ≤ t138 := o138t.elim (fun q => q ▸ g_t127) (fun q => nt Z130 q)
   have zs139 := nt K59q.1 K127q.1
   have ne_ur9_t138 : ur9 ≠ t138 := o138t.elim (fun q => q ▸ ne_ur9_t127) (fun q => nw (nu (nu Anj.lt zs139) q))
   have sz_t138 : h0.size ≤ t138 := o138t.elim (fun q => q ▸ sz_t127) (fun q => nt K130.1 q)
   have zs140 := nt zs129 K127q.1
   have gb_t138 : h0.size ≤ t138 := o138t.elim (fun q => q ▸ gb_t127) (fun q => nt zs140 q)
   have r141 : CHr Z jo vmj T127.heap vmj T138.heap := CHr.keep K138q (sfS (Safe.exa hZ.alike f132 (by first | decide | exact nb rfl) (by first | decide | exact nb rfl)) (sfS sfc127 sf0)) R130.1
   have R141 := R130.trans r141
   have Z141 := nt Z130 K138q.1
   have O141 := O130.keep K138q (allS g_b11 (allS g_t127 all0))
   have K141 := K130.trans K138q (allS (Or.inr sz_b11) (allS (Or.inr sz_t127) all0))
   have sfc138 := Safe.keep K138q (sfS (Safe.exa hZ.alike f132 (by first | decide | exact nb rfl) (by first | decide | exact nb rfl)) (sfS sfc127 sf0)) R130.1 (o138t.elim (fun q => by rw [q]; exact sfc127) (fun q => Safe.new q))
   obtain ⟨M138, eM138⟩ : ∃ q, q = jw M127 ((W ++ [(32 : Int32)]).length + wl2.length) := ⟨_, rfl⟩
   rw [← eM138] at V138q sp131 nb131 kc131
   have ln138 : ((W ++ [(32 : Int32)]) ++ wl2).length = ((W ++ [(32 : Int32)]).length + wl2.length) := by rw [List.length_append]
   refine gsW (fun _ k => jW X138 hq d55_120 rfl (jf (v := (1 : Int32)) X138 hq d55_121 (je X138 hq d55_122 (jF rfl rfl) (jp (pc' := 33) X138 hq d55_124 (jy X138 hq d55_33 rfl rfl k))))) ?_
   have f142 := ((f64.keep K127q).keep K138q)
   have f143 := ((f68.keep K127q).keep K138q)
   have f144 := (f132.keep K138q)
   have f145 := (E127t.keep K138q)
   have f146 := ((J59t.keep K127q (ninS (Exa.ne f142 f144 (by first | decide | exact nb rfl)) (ninS (Exa.ne f142 f143 (by first | decide | exact nb rfl)) nin0))).keep K138q (ninS (Exa.ne f142 f144 (by first | decide | exact nb rfl)) (ninS (Exa.ne f142 f145 (by first | decide | exact nb rfl)) nin0)))
   have f147 := ((J59c.keep K127q (ninS (Exa.ne f142 f144 (by first | decide | exact nb rfl)) (ninS (Exa.ne f142 f143 (by first | decide | exact nb rfl)) nin0))).keep K138q (ninS (Exa.ne f142 f144 (by first | decide | exact nb rfl)) (ninS (Exa.ne f142 f145 (by first | decide | exact nb rfl)) nin0)))
   have f148 := (((f53.keep K59q (ninS (nw (nu (nu E_a.lt (Nat.le_refl _)) sz_t23)) nin0)).keep K127q (ninS (nw (nu (nu E_a.lt (Nat.le_refl _)) sz_b11)) (ninS (nw (nu (nu E_a.lt (Nat.le_refl _)) stj)) nin0))).keep K138q (ninS (nw (nu (nu E_a.lt (Nat.le_refl _)) sz_b11)) (ninS (nw (nu (nu E_a.lt (Nat.le_refl _)) gb_t127)) nin0)))
   obtain ⟨cq149, kq149, q149a, q149b, q149c⟩ := isOf hZ rfl f142
   obtain ⟨_, _, ⟨T149, L149, k149, n149⟩, -, X149, ⟨Lc149, hQ149, l149, y149, z149⟩, st149⟩ := X138.interfaceBack hx (xi := my2) (y := my0) hown (mvT hZ (ow hw 157 rfl)) (mvT hZ (ow hw 158 rfl)) (mvT hZ (ow hw 159 rfl)) (mvT hZ (ow hw 160 rfl)) (mvT hZ (ow hw 161 rfl)) (mvT hZ (ow hw 162 rfl)) (mvT hZ (ow hw 163 rfl)) (mvT hZ (ow hw 164 rfl)) (by first | decide | exact nb rfl) (backC (W := 0) (rm_hn33 l Z a0 hw [] t23 a T138.heap n0 Z141 O141 f146 f147 f148) hZ (ow hw 165 rfl) (ow hw 143 rfl) (by first | decide | exact nb rfl) (by first | decide | exact nb rfl)) q149a q149b q149c (g := (mkF m 35 #[rv ld, rv a, rv a9, rv b11, iv (oI sj), iv (1 : Int32), rv t23, rv x2] [(.ref t23)])) rfl (by rw [hml]; rfl) (Steps.refl _) (argsL := []) (rest := []) (lenOf pd_93 rfl) rfl (jL rfl) (hb hby d55_35) (fun _ _ => ⟨rfl, rfl, (show 16 + 0 ≤ _ from by first | decide | exact nb rfl), (by dsimp only [Pt.cells, Pt.slots]; omega)⟩)
   dsimp only [Pt.U, Pt.locs, Pt.cells, Pt.slots] at X149 l149 y149 z149 st149 hQ149
   subst l149 y149 z149
   obtain ⟨rfl, N149q, e149q⟩ := hQ149
   have N149 := Fr.app N138 N149q
   refine gsW (S' := T149.setTop (mkF m 40 #[rv ld, rv a, rv a9, rv b11, iv (oI sj), iv (1 : Int32), rv t23, rv x2] [(.int (0 : Int32))])) (fun _ k => st149.trans k) ?_
   obtain ⟨s150, es150⟩ : ∃ q, q = jS M138 (((W ++ [(32 : Int32)]) ++ wl2).length + 1) := ⟨_, rfl⟩
   have sp150 := jN M138 (((W ++ [(32 : Int32)]) ++ wl2).length + 1)
   rw [← es150] at sp150
   have kb150 : (((W ++ [(32 : Int32)]) ++ wl2).length + 1) ≤ 765 := by omega
   have nb150 : jw M138 (((W ++ [(32 : Int32)]) ++ wl2).length + 1) ≤ 1530 := jO (by omega) (by omega)
   have kc150 := jP M138 (((W ++ [(32 : Int32)]) ++ wl2).length + 1)
   refine gsW (fun _ k => jI (pc' := 127) X149 hq d55_40 ((if0 _ _).trans (teq (show (0 : Int32) = (0 : Int32) from by first | decide | exact nb rfl)).1) (jb X149 hq d55_127 rfl rfl (jz (v := (10 : Int32)) X149 hq d55_128 k))) ?_
   refine cVW (rest := []) X149 hx hZ hown (ow hw 170 rfl) (ow hw 171 rfl) (nfs hZ (ow hw 173 rfl)) (ow hw 173 rfl) (ow hw 172 rfl) (ow hw 73 rfl) (ow hw 174 rfl) (rm_scX l Z a0 hw [] b11 t138 kb138 ((W ++ [(32 : Int32)]) ++ wl2) M138 (10 : Int32) z s150 T138.heap n0 Z141 O141 f144 F138v F138c F138n E138t V138q (by omega) (by omega) g_b11 g_t138 S0 hz (by first | decide | exact nb rfl) (by omega) (Nat.le_of_eq es150.symm) (by omega)) hby d55_130 e149q pd_904 0 (by rw [hml]; rfl) f144 rfl rfl rfl rfl ⟨by decide, nb rfl, nb rfl, nb rfl⟩ (by dsimp only; omega) fun _ T151 Lc151 X151 hQ151 => ?_
   obtain ⟨t151, kb151, rfl, N151q, K151q, o151t, F151v, F151c, F151n, E151t, V151q⟩ := hQ151
   have N151 := Fr.app N149 N151q
   have g_t151 : n0 ≤ t151 := o151t.elim (fun q => q ▸ g_t138) (fun q => nt Z141 q)
   have zs152 := nt zs139 K138q.1
   have ne_ur9_t151 : ur9 ≠ t151 := o151t.elim (fun q => q ▸ ne_ur9_t138) (fun q => nw (nu (nu Anj.lt zs152) q))
   have sz_t151 : h0.size ≤ t151 := o151t.elim (fun q => q ▸ sz_t138) (fun q => nt K141.1 q)
   have zs153 := nt zs140 K138q.1
   have gb_t151 : h0.size ≤ t151 := o151t.elim (fun q => q ▸ gb_t138) (fun q => nt zs153 q)
   have r154 : CHr Z jo vmj T138.heap vmj T151.heap := CHr.keep K151q (sfS (Safe.exa hZ.alike f144 (by first | decide | exact nb rfl) (by first | decide | exact nb rfl)) (sfS sfc138 sf0)) R141.1
   have R154 := R141.trans r154
   have Z154 := nt Z141 K151q.1
   have O154 := O141.keep K151q (allS g_b11 (allS g_t138 all0))
   have K154 := K141.trans K151q (allS (Or.inr sz_b11) (allS (Or.inr sz_t138) all0))
   have sfc151 := Safe.keep K151q (sfS (Safe.exa hZ.alike f144 (by first | decide | exact nb rfl) (by first | decide | exact nb rfl)) (sfS sfc138 sf0)) R141.1 (o151t.elim (fun q => by rw [q]; exact sfc138) (fun q => Safe.new q))
   obtain ⟨M151, eM151⟩ : ∃ q, q = jw M138 (((W ++ [(32 : Int32)]) ++ wl2).length + 1) := ⟨_, rfl⟩
   rw [← eM151] at V151q sp150 nb150 kc150
   have ln151 : (((W ++ [(32 : Int32)]) ++ wl2) ++ [(10 : Int32)]).length = (((W ++ [(32 : Int32)]) ++ wl2).length + 1) := by rw [List.length_append]; rfl
   have f155 := (f144.keep K151q)
   refine cVW (rest := []) X151 hx hZ hown (ow hw 188 rfl) (ow hw 189 rfl) (nfs hZ (ow hw 191 rfl)) (ow hw 191 rfl) (ow hw 190 rfl) (ow hw 73 rfl) (ow hw 192 rfl) (rm_tsT l Z a0 hw [] b11 t151 kb151 (((W ++ [(32 : Int32)]) ++ wl2) ++ [(10 : Int32)]) M151 z T151.heap n0 Z154 O154 f155 F151v F151c F151n E151t V151q (by omega) (by omega) S0 hz (by omega)) hby d55_133 rfl pd_906 0 (by rw [hml]; rfl) f155 rfl rfl rfl rfl ⟨by decide, nb rfl, nb rfl, nb rfl⟩ (by dsimp only; omega) fun _ T156 Lc156 X156 hQ156 => ?_
   obtain ⟨a156, rfl, N156q, K156q, T156q⟩ := hQ156
   have N156 := Fr.app N151 N156q
   have r157 : CHr Z jo vmj T151.heap vmj T156.heap := CHr.keep K156q sf0 R154.1
   have R157 := R154.trans r157
   have Z157 := nt Z154 K156q.1
   have O157 := O154.keep K156q all0
   have K157 := K154.trans K156q all0
   have d3 : ¬ own_C3 ls wl0 wl1 wl2 := fun q => hc76 ((own_c80 (A := W.length) (B := sj) (C := wl2.length) hsW (by omega) (by omega)).mpr (by have q' : 80 < own_col2 ls wl0 wl1 + 1 + wl2.length := q; omega))
   have zs158 := nt zs152 K151q.1
   have zs159 := nt zs158 K156q.1
   refine goutW (v := some (.ref a156)) X156 hS (nt hkj zs159) hZ (jJ hw) hh rfl R157 Bd.notSynchronized (jA Bd.returns) (by first | decide | exact nb rfl) (by dsimp only [Pt.cells, Pt.slots]; omega) ?_ (fun fs hr => retOut X156 hx Bd.returns rfl (Or.inr (Or.inr (Or.inr (Or.inr ⟨rfl, rfl, rfl⟩)))) (hb hby d55_136) hr)
   exact ⟨_, rfl, N156, K157, by unfold jr; rw [if_neg d3, ← hW]; exact T156q⟩
 refine gsW (fun _ k => jy X48 hq d55_33 rfl rfl k) ?_
 have f160 := (J31t.keep K48q (ninS (Ne.symm (nw (nu (nu A11.lt K18q.1) g23t))) (ninS (Ne.symm (nw (nu (nu E18t.lt (Nat.le_refl _)) g23t))) nin0)))
 have f161 := (J31c.keep K48q (ninS (Ne.symm (nw (nu (nu A11.lt K18q.1) g23t))) (ninS (Ne.symm (nw (nu (nu E18t.lt (Nat.le_refl _)) g23t))) nin0)))
 have f162 := ((f25.keep K31q (ninS (nw (nu (nu E_a.lt zs43) g23t)) nin0)).keep K48q (ninS (nw (nu (nu E_a.lt zs21) (Nat.le_of_eq q11.symm))) (ninS (nw (nu (nu E_a.lt zs42) g18t)) nin0)))
 have f164 := ((E23t.keep K31q).keep K48q)
 obtain ⟨cq163, kq163, q163a, q163b, q163c⟩ := isOf hZ rfl f164
 obtain ⟨_, _, ⟨T163, L163, k163, n163⟩, -, X163, ⟨Lc163, hQ163, l163, y163, z163⟩, st163⟩ := X48.interfaceBack hx (xi := my2) (y := my0) hown (mvT hZ (ow hw 157 rfl)) (mvT hZ (ow hw 158 rfl)) (mvT hZ (ow hw 159 rfl)) (mvT hZ (ow hw 160 rfl)) (mvT hZ (ow hw 161 rfl)) (mvT hZ (ow hw 162 rfl)) (mvT hZ (ow hw 163 rfl)) (mvT hZ (ow hw 164 rfl)) (by first | decide | exact nb rfl) (backC (W := 0) (rm_hn13 l Z a0 hw [] t23 a T48.heap n0 Z52 O52 f160 f161 f162) hZ (ow hw 165 rfl) (ow hw 143 rfl) (by first | decide | exact nb rfl) (by first | decide | exact nb rfl)) q163a q163b q163c (g := (mkF m 35 #[rv ld, rv a, rv a9, rv b11, iv (0 : Int32), iv (1 : Int32), rv t23, rv x0] [(.ref t23)])) rfl (by rw [hml]; rfl) (Steps.refl _) (argsL := []) (rest := []) (lenOf pd_93 rfl) rfl (jL rfl) (hb hby d55_35) (fun _ _ => ⟨rfl, rfl, (show 9 + 0 ≤ _ from by first | decide | exact nb rfl), (by dsimp only [Pt.cells, Pt.slots]; omega)⟩)
 dsimp only [Pt.U, Pt.locs, Pt.cells, Pt.slots] at X163 l163 y163 z163 st163 hQ163
 subst l163 y163 z163
 obtain ⟨rfl, N163q, e163q⟩ := hQ163
 have N163 := Fr.app N48 N163q
 refine gsW (S' := T163.setTop (mkF m 40 #[rv ld, rv a, rv a9, rv b11, iv (0 : Int32), iv (1 : Int32), rv t23, rv x0] [(.int (1 : Int32))])) (fun _ k => st163.trans k) ?_
 refine gsW (fun _ k => jG X163 hq d55_40 ((if0 _ _).trans (feq (by decide : ¬ ((1 : Int32) = (0 : Int32)))).1) (jy X163 hq d55_43 rfl rfl k)) ?_
 have f165 := (J31l.keep K48q (ninS (Ne.symm (nw (nu (nu A11.lt K18q.1) g23t))) (ninS (Ne.symm (nw (nu (nu E18t.lt (Nat.le_refl _)) g23t))) nin0)))
 have f166 := (J31m.keep K48q (ninS (Ne.symm (nw (nu (nu A11.lt K18q.1) g23t))) (ninS (Ne.symm (nw (nu (nu E18t.lt (Nat.le_refl _)) g23t))) nin0)))
 have f167 := ((f27.keep K31q).keep K48q)
 have f168 := ((f28.keep K31q (ninS (nw (nu (nu E_a.lt zs43) g23t)) nin0)).keep K48q (ninS (nw (nu (nu E_a.lt zs21) (Nat.le_of_eq q11.symm))) (ninS (nw (nu (nu E_a.lt zs42) g18t)) nin0)))
 have f169 := ((f29.keep K31q (ninS (nw (nu (nu E_a.lt zs43) g23t)) nin0)).keep K48q (ninS (nw (nu (nu E_a.lt zs21) (Nat.le_of_eq q11.symm))) (ninS (nw (nu (nu E_a.lt zs42) g18t)) nin0)))
 have f170 := ((f30.keep K31q (ninS (nw (nu (nu V_ar.lt zs43) g23t)) nin0)).keep K48q (ninS (nw (nu (nu V_ar.lt zs21) (Nat.le_of_eq q11.symm))) (ninS (nw (nu (nu V_ar.lt zs42) g18t)) nin0)))
 obtain ⟨cq171, kq171, q171a, q171b, q171c⟩ := isOf hZ e163q f164
 obtain ⟨_, _, ⟨T171, L171, k171, n171⟩, -, X171, ⟨Lc171, hQ171, l171, y171, z171⟩, st171⟩ := X163.interfaceBack hx (xi := my5) (y := my1) hown (mvT hZ (ow hw 301 rfl)) (mvT hZ (ow hw 302 rfl)) (mvT hZ (ow hw 303 rfl)) (mvT hZ (ow hw 304 rfl)) (mvT hZ (ow hw 305 rfl)) (mvT hZ (ow hw 306 rfl)) (mvT hZ (ow hw 307 rfl)) (mvT hZ (ow hw 164 rfl)) (by first | decide | exact nb rfl) (backC (W := 0) (rm_nx13 l Z a0 hw [] t23 a ar ka x0 x1 x2 T48.heap n0 Z52 O52 f164 f160 f161 f165 f166 g_t23 f167 f168 f162 f169 f170) hZ (ow hw 308 rfl) (ow hw 143 rfl) (by first | decide | exact nb rfl) (by first | decide | exact nb rfl)) q171a q171b q171c (g := (mkF m 45 #[rv ld, rv a, rv a9, rv b11, iv (0 : Int32), iv (1 : Int32), rv t23, rv x0] [(.ref t23)])) rfl (by rw [hml]; rfl) (Steps.refl _) (argsL := []) (rest := []) (lenOf pd_912 rfl) rfl (jL rfl) (hb hby d55_45) (fun _ _ => ⟨rfl, e163q, (show 9 + 0 ≤ _ from by first | decide | exact nb rfl), (by dsimp only [Pt.cells, Pt.slots]; omega)⟩)
 dsimp only [Pt.U, Pt.locs, Pt.cells, Pt.slots] at X171 l171 y171 z171 st171 hQ171
 subst l171 y171 z171
 obtain ⟨rfl, N171q, K171q, J171t, J171c, J171l, J171m⟩ := hQ171
 have N171 := Fr.app N163 N171q
 have r172 : CHr Z jo T9.vm T48.heap T9.vm T171.heap := CHr.keep K171q (sfS (Safe.exa hZ.alike f164 (by first | decide | exact nb rfl) (by first | decide | exact nb rfl)) sf0) R52.1
 have R172 := R52.trans r172
 have Z172 := nt Z52 K171q.1
 have O172 := O52.keep K171q (allS g_t23 all0)
 have K172 := K52.trans K171q (allS (Or.inr sz_t23) all0)
 refine gsW (S' := T171.setTop (mkF m 50 #[rv ld, rv a, rv a9, rv b11, iv (0 : Int32), iv (1 : Int32), rv t23, rv x0] [(.ref x1)])) (fun _ k => st171.trans k) ?_
 have f173 := ((((((((Epw1.ext E1).keep K9q).ext E11).keep K18q).keep K23q).keep K31q).keep K48q).keep K171q)
 obtain ⟨T174, X174, e174, st174⟩ := castY X171 hx hZ hown (ow hw 315 rfl) rfl (Ins.self f173) (g := (mkF m 50 #[rv ld, rv a, rv a9, rv b11, iv (0 : Int32), iv (1 : Int32), rv t23, rv x0] [(.ref x1)])) rfl rfl (hb hby d55_50)
 refine gsW (S' := T174.setTop (mkF m 53 #[rv ld, rv a, rv a9, rv b11, iv (0 : Int32), iv (1 : Int32), rv t23, rv x0] [(.ref x1)])) st174 ?_
 refine gsW (fun _ k => jQ X174 hq d55_53 rfl (jF rfl rfl) (ja X174 hq d55_55 rfl (jG X174 hq d55_57 ((if0 _ _).trans (feq (by decide : ¬ ((1 : Int32) = (0 : Int32)))).1) (jb X174 hq d55_60 rfl rfl k)))) ?_
 have f175 := ((f36.keep K48q).keep K171q)
 have f176 := (F48v.keep K171q (ninS (nw (nu (nu A11.lt K18q.1) g23t)) nin0))
 have f177 := (F48c.keep K171q (ninS (nw (nu (nu A11.lt K18q.1) g23t)) nin0))
 have f178 := (F48n.keep K171q (ninS (nw (nu (nu A11.lt K18q.1) g23t)) nin0))
 have f179 := (E48t.keep K171q)
 have f180 := (f164.keep K171q)
 have f181 := (V48q.keep K171q (ninS (Exa.ne f179 f180 (by first | decide | exact nb rfl)) nin0))
 refine cVW (rest := []) X174 hx hZ hown (ow hw 332 rfl) (ow hw 333 rfl) (nfs hZ (ow hw 334 rfl)) (ow hw 334 rfl) (ow hw 209 rfl) (ow hw 73 rfl) (ow hw 210 rfl) (rm_slT l Z a0 hw [] b11 t48 kb48 (ls ++ wl0) M48 T171.heap n0 Z172 O172 f175 f176 f177 f178 f179 f181 (by omega) (by omega)) hby d55_61 e174 pd_644 0 (by rw [hml]; rfl) f175 rfl rfl rfl rfl ⟨by decide, nb rfl, nb rfl, nb rfl⟩ (by dsimp only; omega) fun _ T182 Lc182 X182 hQ182 => ?_
 obtain ⟨rfl, N182q, e182q⟩ := hQ182
 have N182 := Fr.app N171 N182q
 have f183 := ((((((((Cpw1.ext E1).keep K9q nin0).ext E11).keep K18q (ninS (nw (nu (nu Epw1.lt zs21) (Nat.le_of_eq q11.symm))) nin0)).keep K23q nin0).keep K31q (ninS (nw (nu (nu Epw1.lt zs43) g23t)) nin0)).keep K48q (ninS (nw (nu (nu Epw1.lt zs21) (Nat.le_of_eq q11.symm))) (ninS (nw (nu (nu Epw1.lt zs42) g18t)) nin0))).keep K171q (ninS (nw (nu (nu Epw1.lt zs43) g23t)) nin0))
 have f184 := ((((((((Vpw1.ext E1).keep K9q nin0).ext E11).keep K18q (ninS (nw (nu (nu Epw1.lt zs21) (Nat.le_of_eq q11.symm))) nin0)).keep K23q nin0).keep K31q (ninS (nw (nu (nu Epw1.lt zs43) g23t)) nin0)).keep K48q (ninS (nw (nu (nu Epw1.lt zs21) (Nat.le_of_eq q11.symm))) (ninS (nw (nu (nu Epw1.lt zs42) g18t)) nin0))).keep K171q (ninS (nw (nu (nu Epw1.lt zs43) g23t)) nin0))
 have f185 := ((((((((Apw1.ext E1).keep K9q nin0).ext E11).keep K18q (ninS (nw (nu (nu Apw1.lt zs21) (Nat.le_of_eq q11.symm))) nin0)).keep K23q nin0).keep K31q (ninS (nw (nu (nu Apw1.lt zs43) g23t)) nin0)).keep K48q (ninS (nw (nu (nu Apw1.lt zs21) (Nat.le_of_eq q11.symm))) (ninS (nw (nu (nu Apw1.lt zs42) g18t)) nin0))).keep K171q (ninS (nw (nu (nu Apw1.lt zs43) g23t)) nin0))
 have Ts186 : Str Z T171.heap x1 wl1 := ⟨_, _, f173, f183, f184, f185⟩
 refine gsW (fun _ k => ja X182 hq d55_64 rfl (o_isub X182 hq d55_66 (jf (v := (1 : Int32)) X182 hq d55_67 (jt X182 hq d55_68 (jy X182 hq d55_69 rfl rfl k))))) ?_
 refine cVW (rest := [(.int (((oI (ls ++ wl0).length) - (0 : Int32)) + (1 : Int32)))]) X182 hx hZ hown (ow hw 55 rfl) (ow hw 56 rfl) (nfs hZ (ow hw 58 rfl)) (ow hw 58 rfl) (ow hw 57 rfl) (ow hw 7 rfl) (ow hw 59 rfl) (rm_lenL l Z a0 hw [] x1 wl1 z T171.heap n0 Z172 O172 Ts186 S0 hz) hby d55_71 e182q pd_644 1 (by rw [hml]; rfl) Ts186.exa rfl rfl rfl rfl ⟨by decide, nb rfl, nb rfl, nb rfl⟩ (by dsimp only; omega) fun _ T187 Lc187 X187 hQ187 => ?_
 obtain ⟨rfl, N187q, e187q⟩ := hQ187
 have N187 := Fr.app N182 N187q
 refine gsW (fun _ k => jt X187 hq d55_74 (jz (v := (80 : Int32)) X187 hq d55_75 k)) ?_
 by_cases hc188 : (80 : Int32) < ((((oI (ls ++ wl0).length) - (0 : Int32)) + (1 : Int32)) + (oI wl1.length))
 ·obtain ⟨s189, es189⟩ : ∃ q, q = jS M48 ((ls ++ wl0).length + 1) := ⟨_, rfl⟩
  have sp189 := jN M48 ((ls ++ wl0).length + 1)
  rw [← es189] at sp189
  have kb189 : ((ls ++ wl0).length + 1) ≤ 765 := by omega
  have nb189 : jw M48 ((ls ++ wl0).length + 1) ≤ 1530 := jO (by omega) (by omega)
  have kc189 := jP M48 ((ls ++ wl0).length + 1)
  refine gsW (fun _ k => jm X187 hq d55_77 (tlt hc188).2.2.2 (jb X187 hq d55_80 rfl rfl (jz (v := (10 : Int32)) X187 hq d55_81 k))) ?_
  refine cVW (rest := []) X187 hx hZ hown (ow hw 170 rfl) (ow hw 171 rfl) (nfs hZ (ow hw 173 rfl)) (ow hw 173 rfl) (ow hw 172 rfl) (ow hw 73 rfl) (ow hw 174 rfl) (rm_scX l Z a0 hw [] b11 t48 kb48 (ls ++ wl0) M48 (10 : Int32) z s189 T171.heap n0 Z172 O172 f175 f176 f177 f178 f179 f181 (by omega) (by omega) g_b11 g_t48 S0 hz (by first | decide | exact nb rfl) (by omega) (Nat.le_of_eq es189.symm) (by omega)) hby d55_83 e187q pd_904 0 (by rw [hml]; rfl) f175 rfl rfl rfl rfl ⟨by decide, nb rfl, nb rfl, nb rfl⟩ (by dsimp only; omega) fun _ T190 Lc190 X190 hQ190 => ?_
  obtain ⟨t190, kb190, rfl, N190q, K190q, o190t, F190v, F190c, F190n, E190t, V190q⟩ := hQ190
  have N190 := Fr.app N187 N190q
  have f191 := (r172.safe (nu E48t.lt (Nat.le_refl _)) sfc48)
  have g_t190 : n0 ≤ t190 := o190t.elim (fun q => q ▸ g_t48) (fun q => nt Z172 q)
  have sz_t190 : h0.size ≤ t190 := o190t.elim (fun q => q ▸ sz_t48) (fun q => nt K172.1 q)
  have zs192 := nt zs51 K48q.1
  have zs193 := nt zs192 K171q.1
  have gb_t190 : h11.size ≤ t190 := o190t.elim (fun q => q ▸ gb_t48) (fun q => nt zs193 q)
  have r194 : CHr Z jo T9.vm T171.heap T9.vm T190.heap := CHr.keep K190q (sfS (Safe.exa hZ.alike f175 (by first | decide | exact nb rfl) (by first | decide | exact nb rfl)) (sfS f191 sf0)) R172.1
  have R194 := R172.trans r194
  have Z194 := nt Z172 K190q.1
  have O194 := O172.keep K190q (allS g_b11 (allS g_t48 all0))
  have K194 := K172.trans K190q (allS (Or.inr sz_b11) (allS (Or.inr sz_t48) all0))
  have sfc190 := Safe.keep K190q (sfS (Safe.exa hZ.alike f175 (by first | decide | exact nb rfl) (by first | decide | exact nb rfl)) (sfS f191 sf0)) R172.1 (o190t.elim (fun q => by rw [q]; exact f191) (fun q => Safe.new q))
  obtain ⟨M190, eM190⟩ : ∃ q, q = jw M48 ((ls ++ wl0).length + 1) := ⟨_, rfl⟩
  rw [← eM190] at V190q sp189 nb189 kc189
  have ln190 : ((ls ++ wl0) ++ [(10 : Int32)]).length = ((ls ++ wl0).length + 1) := by rw [List.length_append]; rfl
  refine gsW (fun _ k => jW X190 hq d55_86 rfl (jb X190 hq d55_87 rfl rfl k)) ?_
  have f195 := (f175.keep K190q)
  refine cVW (rest := []) X190 hx hZ hown (ow hw 332 rfl) (ow hw 333 rfl) (nfs hZ (ow hw 334 rfl)) (ow hw 334 rfl) (ow hw 209 rfl) (ow hw 73 rfl) (ow hw 210 rfl) (rm_slT l Z a0 hw [] b11 t190 kb190 ((ls ++ wl0) ++ [(10 : Int32)]) M190 T190.heap n0 Z194 O194 f195 F190v F190c F190n E190t V190q (by omega) (by omega)) hby d55_88 rfl pd_644 0 (by rw [hml]; rfl) f195 rfl rfl rfl rfl ⟨by decide, nb rfl, nb rfl, nb rfl⟩ (by dsimp only; omega) fun _ T196 Lc196 X196 hQ196 => ?_
  obtain ⟨rfl, N196q, e196q⟩ := hQ196
  have N196 := Fr.app N190 N196q
  obtain ⟨s197, es197⟩ : ∃ q, q = jS M190 (((ls ++ wl0) ++ [(10 : Int32)]).length + (List.replicate ls.length (32 : Int32)).length) := ⟨_, rfl⟩
  have sp197 := jN M190 (((ls ++ wl0) ++ [(10 : Int32)]).length + (List.replicate ls.length (32 : Int32)).length)
  rw [← es197] at sp197
  have kb197 : (((ls ++ wl0) ++ [(10 : Int32)]).length + (List.replicate ls.length (32 : Int32)).length) ≤ 765 := by omega
  have nb197 : jw M190 (((ls ++ wl0) ++ [(10 : Int32)]).length + (List.replicate ls.length (32 : Int32)).length) ≤ 1530 := jO (by omega) (by omega)
  have kc197 := jP M190 (((ls ++ wl0) ++ [(10 : Int32)]).length + (List.replicate ls.length (32 : Int32)).length)
  refine gsW (fun _ k => je X196 hq d55_91 (jF rfl rfl) (jb X196 hq d55_93 rfl rfl (jb X196 hq d55_94 rfl rfl k))) ?_
  have f198 := (((((((Epr9.ext E11).keep K18q).keep K23q).keep K31q).keep K48q).keep K171q).keep K190q)
  have zs199 := nt E11.1 K18q.1
  have f200 := (((((((Cpr9.ext E11).keep K18q (ninS (nw (nu (nu Epr9.lt (Nat.le_refl _)) (Nat.le_of_eq q11.symm))) nin0)).keep K23q nin0).keep K31q (ninS (nw (nu (nu Epr9.lt zs199) g23t)) nin0)).keep K48q (ninS (nw (nu (nu Epr9.lt (Nat.le_refl _)) (Nat.le_of_eq q11.symm))) (ninS (nw (nu (nu Epr9.lt E11.1) g18t)) nin0))).keep K171q (ninS (nw (nu (nu Epr9.lt zs199) g23t)) nin0)).keep K190q (ninS (nw (nu (nu Epr9.lt (Nat.le_refl _)) (Nat.le_of_eq q11.symm))) (ninS (nw (nu (nu Epr9.lt E11.1) gb_t48)) nin0)))
  have f201 := (((((((Vpr9.ext E11).keep K18q (ninS (nw (nu (nu Epr9.lt (Nat.le_refl _)) (Nat.le_of_eq q11.symm))) nin0)).keep K23q nin0).keep K31q (ninS (nw (nu (nu Epr9.lt zs199) g23t)) nin0)).keep K48q (ninS (nw (nu (nu Epr9.lt (Nat.le_refl _)) (Nat.le_of_eq q11.symm))) (ninS (nw (nu (nu Epr9.lt E11.1) g18t)) nin0))).keep K171q (ninS (nw (nu (nu Epr9.lt zs199) g23t)) nin0)).keep K190q (ninS (nw (nu (nu Epr9.lt (Nat.le_refl _)) (Nat.le_of_eq q11.symm))) (ninS (nw (nu (nu Epr9.lt E11.1) gb_t48)) nin0)))
  have f202 := (((((((Apr9.ext E11).keep K18q (ninS (nw (nu (nu Apr9.lt (Nat.le_refl _)) (Nat.le_of_eq q11.symm))) nin0)).keep K23q nin0).keep K31q (ninS (nw (nu (nu Apr9.lt zs199) g23t)) nin0)).keep K48q (ninS (nw (nu (nu Apr9.lt (Nat.le_refl _)) (Nat.le_of_eq q11.symm))) (ninS (nw (nu (nu Apr9.lt E11.1) g18t)) nin0))).keep K171q (ninS (nw (nu (nu Apr9.lt zs199) g23t)) nin0)).keep K190q (ninS (nw (nu (nu Apr9.lt (Nat.le_refl _)) (Nat.le_of_eq q11.symm))) (ninS (nw (nu (nu Apr9.lt E11.1) gb_t48)) nin0)))
  have Ts203 : Str Z T190.heap a9 (List.replicate ls.length (32 : Int32)) := ⟨_, _, f198, f200, f201, f202⟩
  refine cVW (rest := []) X196 hx hZ hown (ow hw 316 rfl) (ow hw 98 rfl) (nfs hZ (ow hw 100 rfl)) (ow hw 100 rfl) (ow hw 99 rfl) (ow hw 73 rfl) (ow hw 101 rfl) (rm_saX l Z a0 hw [] b11 t190 kb190 ((ls ++ wl0) ++ [(10 : Int32)]) M190 a9 (List.replicate ls.length (32 : Int32)) z s197 T190.heap n0 Z194 O194 f195 F190v F190c F190n E190t V190q (by omega) (by omega) g_b11 g_t190 S0 hz Ts203 (own_rpb _) (by omega) (by omega) (Nat.le_of_eq es197.symm) (by omega)) hby d55_95 e196q pd_836 0 (by rw [hml]; rfl) f195 rfl rfl rfl rfl ⟨by decide, nb rfl, nb rfl, nb rfl⟩ (by dsimp only; omega) fun _ T204 Lc204 X204 hQ204 => ?_
  obtain ⟨t204, kb204, rfl, N204q, K204q, o204t, F204v, F204c, F204n, E204t, V204q⟩ := hQ204
  have N204 := Fr.app N196 N204q
  have g_t204 : n0 ≤ t204 := o204t.elim (fun q => q ▸ g_t190) (fun q => nt Z194 q)
  have sz_t204 : h0.size ≤ t204 := o204t.elim (fun q => q ▸ sz_t190) (fun q => nt K194.1 q)
  have zs205 := nt zs193 K190q.1
  have gb_t204 : h11.size ≤ t204 := o204t.elim (fun q => q ▸ gb_t190) (fun q => nt zs205 q)
  have r206 : CHr Z jo T9.vm T190.heap T9.vm T204.heap := CHr.keep K204q (sfS (Safe.exa hZ.alike f195 (by first | decide | exact nb rfl) (by first | decide | exact nb rfl)) (sfS sfc190 sf0)) R194.1
  have R206 := R194.trans r206
  have Z206 := nt Z194 K204q.1
  have O206 := O194.keep K204q (allS g_b11 (allS g_t190 all0))
  have K206 := K194.trans K204q (allS (Or.inr sz_b11) (allS (Or.inr sz_t190) all0))
  have sfc204 := Safe.keep K204q (sfS (Safe.exa hZ.alike f195 (by first | decide | exact nb rfl) (by first | decide | exact nb rfl)) (sfS sfc190 sf0)) R194.1 (o204t.elim (fun q => by rw [q]; exact sfc190) (fun q => Safe.new q))
  obtain ⟨M204, eM204⟩ : ∃ q, q = jw M190 (((ls ++ wl0) ++ [(10 : Int32)]).length + (List.replicate ls.length (32 : Int32)).length) := ⟨_, rfl⟩
  rw [← eM204] at V204q sp197 nb197 kc197
  have ln204 : (((ls ++ wl0) ++ [(10 : Int32)]) ++ (List.replicate ls.length (32 : Int32))).length = (((ls ++ wl0) ++ [(10 : Int32)]).length + (List.replicate ls.length (32 : Int32)).length) := by rw [List.length_append]
  obtain ⟨s207, es207⟩ : ∃ q, q = jS M204 ((((ls ++ wl0) ++ [(10 : Int32)]) ++ (List.replicate ls.length (32 : Int32))).length + wl1.length) := ⟨_, rfl⟩
  have sp207 := jN M204 ((((ls ++ wl0) ++ [(10 : Int32)]) ++ (List.replicate ls.length (32 : Int32))).length + wl1.length)
  rw [← es207] at sp207
  have kb207 : ((((ls ++ wl0) ++ [(10 : Int32)]) ++ (List.replicate ls.length (32 : Int32))).length + wl1.length) ≤ 765 := by omega
  have nb207 : jw M204 ((((ls ++ wl0) ++ [(10 : Int32)]) ++ (List.replicate ls.length (32 : Int32))).length + wl1.length) ≤ 1530 := jO (by omega) (by omega)
  have kc207 := jP M204 ((((ls ++ wl0) ++ [(10 : Int32)]) ++ (List.replicate ls.length (32 : Int32))).length + wl1.length)
  refine gsW (fun _ k => jW X204 hq d55_98 rfl (jf (v := (0 : Int32)) X204 hq d55_99 (je X204 hq d55_100 (jF rfl rfl) (ja X204 hq d55_102 rfl (jI (pc' := 114) X204 hq d55_104 ((if0 _ _).trans (teq (show (0 : Int32) = (0 : Int32) from by first | decide | exact nb rfl)).1) (jb X204 hq d55_114 rfl rfl (jy X204 hq d55_115 rfl rfl k))))))) ?_
  have f208 := (f195.keep K204q)
  have f209 := ((Ts186.exa.keep K190q).keep K204q)
  have f210 := ((f183.keep K190q (ninS (nw (nu (nu Epw1.lt zs21) (Nat.le_of_eq q11.symm))) (ninS (nw (nu (nu Epw1.lt zs42) gb_t48)) nin0))).keep K204q (ninS (nw (nu (nu Epw1.lt zs21) (Nat.le_of_eq q11.symm))) (ninS (nw (nu (nu Epw1.lt zs42) gb_t190)) nin0)))
  have f211 := ((f184.keep K190q (ninS (nw (nu (nu Epw1.lt zs21) (Nat.le_of_eq q11.symm))) (ninS (nw (nu (nu Epw1.lt zs42) gb_t48)) nin0))).keep K204q (ninS (nw (nu (nu Epw1.lt zs21) (Nat.le_of_eq q11.symm))) (ninS (nw (nu (nu Epw1.lt zs42) gb_t190)) nin0)))
  have f212 := ((f185.keep K190q (ninS (nw (nu (nu Apw1.lt zs21) (Nat.le_of_eq q11.symm))) (ninS (nw (nu (nu Apw1.lt zs42) gb_t48)) nin0))).keep K204q (ninS (nw (nu (nu Apw1.lt zs21) (Nat.le_of_eq q11.symm))) (ninS (nw (nu (nu Apw1.lt zs42) gb_t190)) nin0)))
  have Ts213 : Str Z T204.heap x1 wl1 := ⟨_, _, f209, f210, f211, f212⟩
  refine cVW (rest := []) X204 hx hZ hown (ow hw 316 rfl) (ow hw 98 rfl) (nfs hZ (ow hw 100 rfl)) (ow hw 100 rfl) (ow hw 99 rfl) (ow hw 73 rfl) (ow hw 101 rfl) (rm_saX l Z a0 hw [] b11 t204 kb204 (((ls ++ wl0) ++ [(10 : Int32)]) ++ (List.replicate ls.length (32 : Int32))) M204 x1 wl1 z s207 T204.heap n0 Z206 O206 f208 F204v F204c F204n E204t V204q (by omega) (by omega) g_b11 g_t204 S0 hz Ts213 hb_1 (by omega) (by omega) (Nat.le_of_eq es207.symm) (by omega)) hby d55_117 rfl pd_836 0 (by rw [hml]; rfl) f208 rfl rfl rfl rfl ⟨by decide, nb rfl, nb rfl, nb rfl⟩ (by dsimp only; omega) fun _ T214 Lc214 X214 hQ214 => ?_
  obtain ⟨t214, kb214, rfl, N214q, K214q, o214t, F214v, F214c, F214n, E214t, V214q⟩ := hQ214
  have N214 := Fr.app N204 N214q
  have g_t214 : n0 ≤ t214 := o214t.elim (fun q => q ▸ g_t204) (fun q => nt Z206 q)
  have sz_t214 : h0.size ≤ t214 := o214t.elim (fun q => q ▸ sz_t204) (fun q => nt K206.1 q)
  have zs215 := nt zs205 K204q.1
  have gb_t214 : h11.size ≤ t214 := o214t.elim (fun q => q ▸ gb_t204) (fun q => nt zs215 q)
  have r216 : CHr Z jo T9.vm T204.heap T9.vm T214.heap := CHr.keep K214q (sfS (Safe.exa hZ.alike f208 (by first | decide | exact nb rfl) (by first | decide | exact nb rfl)) (sfS sfc204 sf0)) R206.1
  have R216 := R206.trans r216
  have Z216 := nt Z206 K214q.1
  have O216 := O206.keep K214q (allS g_b11 (allS g_t204 all0))
  have K216 := K206.trans K214q (allS (Or.inr sz_b11) (allS (Or.inr sz_t204) all0))
  have sfc214 := Safe.keep K214q (sfS (Safe.exa hZ.alike f208 (by first | decide | exact nb rfl) (by first | decide | exact nb rfl)) (sfS sfc204 sf0)) R206.1 (o214t.elim (fun q => by rw [q]; exact sfc204) (fun q => Safe.new q))
  obtain ⟨M214, eM214⟩ : ∃ q, q = jw M204 ((((ls ++ wl0) ++ [(10 : Int32)]) ++ (List.replicate ls.length (32 : Int32))).length + wl1.length) := ⟨_, rfl⟩
  rw [← eM214] at V214q sp207 nb207 kc207
  have ln214 : ((((ls ++ wl0) ++ [(10 : Int32)]) ++ (List.replicate ls.length (32 : Int32))) ++ wl1).length = ((((ls ++ wl0) ++ [(10 : Int32)]) ++ (List.replicate ls.length (32 : Int32))).length + wl1.length) := by rw [List.length_append]
  refine gsW (fun _ k => jW X214 hq d55_120 rfl (jf (v := (1 : Int32)) X214 hq d55_121 (je X214 hq d55_122 (jF rfl rfl) (jp (pc' := 33) X214 hq d55_124 k)))) ?_
  have d2 : jaa ls wl0 wl1 := by have q := (own_c80z (by omega) (by omega)).mp hc188; show 80 < _; rw [List.length_append] at q; exact q
  have f217 := (f208.keep K214q)
  have zs218 := nt zs199 K23q.1
  have zs219 := nt zs218 K31q.1
  have zs220 := nt zs219 K48q.1
  have zs221 := nt zs220 K171q.1
  have zs222 := nt zs221 K190q.1
  have zs223 := nt zs222 K204q.1
  have zs224 := nt zs223 K214q.1
  have f225 := (((f180.keep K190q).keep K204q).keep K214q)
  have f226 := (((f179.keep K190q).keep K204q).keep K214q)
  have f227 := ((E190t.keep K204q).keep K214q)
  have f228 := (E204t.keep K214q)
  have f229 := (((J171t.keep K190q (ninS (Ne.symm (nw (nu (nu A11.lt K18q.1) g23t))) (ninS (Exa.ne f225 f226 (by first | decide | exact nb rfl)) nin0))).keep K204q (ninS (Ne.symm (nw (nu (nu A11.lt K18q.1) g23t))) (ninS (Exa.ne f225 f227 (by first | decide | exact nb rfl)) nin0))).keep K214q (ninS (Ne.symm (nw (nu (nu A11.lt K18q.1) g23t))) (ninS (Exa.ne f225 f228 (by first | decide | exact nb rfl)) nin0)))
  have f230 := (((J171c.keep K190q (ninS (Ne.symm (nw (nu (nu A11.lt K18q.1) g23t))) (ninS (Exa.ne f225 f226 (by first | decide | exact nb rfl)) nin0))).keep K204q (ninS (Ne.symm (nw (nu (nu A11.lt K18q.1) g23t))) (ninS (Exa.ne f225 f227 (by first | decide | exact nb rfl)) nin0))).keep K214q (ninS (Ne.symm (nw (nu (nu A11.lt K18q.1) g23t))) (ninS (Exa.ne f225 f228 (by first | decide | exact nb rfl)) nin0)))
  have f231 := (((J171l.keep K190q (ninS (Ne.symm (nw (nu (nu A11.lt K18q.1) g23t))) (ninS (Exa.ne f225 f226 (by first | decide | exact nb rfl)) nin0))).keep K204q (ninS (Ne.symm (nw (nu (nu A11.lt K18q.1) g23t))) (ninS (Exa.ne f225 f227 (by first | decide | exact nb rfl)) nin0))).keep K214q (ninS (Ne.symm (nw (nu (nu A11.lt K18q.1) g23t))) (ninS (Exa.ne f225 f228 (by first | decide | exact nb rfl)) nin0)))
  have f232 := (((J171m.keep K190q (ninS (Ne.symm (nw (nu (nu A11.lt K18q.1) g23t))) (ninS (Exa.ne f225 f226 (by first | decide | exact nb rfl)) nin0))).keep K204q (ninS (Ne.symm (nw (nu (nu A11.lt K18q.1) g23t))) (ninS (Exa.ne f225 f227 (by first | decide | exact nb rfl)) nin0))).keep K214q (ninS (Ne.symm (nw (nu (nu A11.lt K18q.1) g23t))) (ninS (Exa.ne f225 f228 (by first | decide | exact nb rfl)) nin0)))
  have f233 := ((f198.keep K204q).keep K214q)
  have f234 := ((f200.keep K204q (ninS (nw (nu (nu Epr9.lt (Nat.le_refl _)) (Nat.le_of_eq q11.symm))) (ninS (nw (nu (nu Epr9.lt E11.1) gb_t190)) nin0))).keep K214q (ninS (nw (nu (nu Epr9.lt (Nat.le_refl _)) (Nat.le_of_eq q11.symm))) (ninS (nw (nu (nu Epr9.lt E11.1) gb_t204)) nin0)))
  have f235 := ((f201.keep K204q (ninS (nw (nu (nu Epr9.lt (Nat.le_refl _)) (Nat.le_of_eq q11.symm))) (ninS (nw (nu (nu Epr9.lt E11.1) gb_t190)) nin0))).keep K214q (ninS (nw (nu (nu Epr9.lt (Nat.le_refl _)) (Nat.le_of_eq q11.symm))) (ninS (nw (nu (nu Epr9.lt E11.1) gb_t204)) nin0)))
  have f236 := ((f202.keep K204q (ninS (nw (nu (nu Apr9.lt (Nat.le_refl _)) (Nat.le_of_eq q11.symm))) (ninS (nw (nu (nu Apr9.lt E11.1) gb_t190)) nin0))).keep K214q (ninS (nw (nu (nu Apr9.lt (Nat.le_refl _)) (Nat.le_of_eq q11.symm))) (ninS (nw (nu (nu Apr9.lt E11.1) gb_t204)) nin0)))
  exact mid T9.vm _ T214 T214.heap _ t214 kb214 ((((ls ++ wl0) ++ [(10 : Int32)]) ++ (List.replicate ls.length (32 : Int32))) ++ wl1) ((ls ++ wl0) ++ [(10 : Int32)]).length M214 (((((((((290 + s35) + 0) + 0) + 0) + 0) + s189) + 0) + s197) + s207) hS (nt (Nat.le_refl T9.heap.size) zs224) hZ hown (X214.more (by first | decide | exact nb rfl) (Nat.le_refl _)) rfl N214 Z216 O216 K216 R216 (by unfold js; rw [if_pos d2]) (by omega) (by unfold own_col2; rw [if_pos d2]; omega) (by omega) (by omega) (by omega) (by omega) f217 F214v F214c F214n E214t V214q sfc214 g_t214 sz_t214 f225 f229 f230 f231 f232 f233 f234 f235 f236 (nw (nu (nu Apr9.lt E11.1) gb_t214))
 ·obtain ⟨s237, es237⟩ : ∃ q, q = jS M48 ((ls ++ wl0).length + 1) := ⟨_, rfl⟩
  have sp237 := jN M48 ((ls ++ wl0).length + 1)
  rw [← es237] at sp237
  have kb237 : ((ls ++ wl0).length + 1) ≤ 765 := by omega
  have nb237 : jw M48 ((ls ++ wl0).length + 1) ≤ 1530 := jO (by omega) (by omega)
  have kc237 := jP M48 ((ls ++ wl0).length + 1)
  refine gsW (fun _ k => jh (pc' := 102) X187 hq d55_77 (flt hc188).2.2.2 (ja X187 hq d55_102 rfl (jG X187 hq d55_104 ((if0 _ _).trans (feq (by decide : ¬ ((1 : Int32) = (0 : Int32)))).1) (jb X187 hq d55_107 rfl rfl (jz (v := (32 : Int32)) X187 hq d55_108 k))))) ?_
  refine cVW (rest := []) X187 hx hZ hown (ow hw 170 rfl) (ow hw 171 rfl) (nfs hZ (ow hw 173 rfl)) (ow hw 173 rfl) (ow hw 172 rfl) (ow hw 73 rfl) (ow hw 174 rfl) (rm_scX l Z a0 hw [] b11 t48 kb48 (ls ++ wl0) M48 (32 : Int32) z s237 T171.heap n0 Z172 O172 f175 f176 f177 f178 f179 f181 (by omega) (by omega) g_b11 g_t48 S0 hz (by first | decide | exact nb rfl) (by omega) (Nat.le_of_eq es237.symm) (by omega)) hby d55_110 e187q pd_904 0 (by rw [hml]; rfl) f175 rfl rfl rfl rfl ⟨by decide, nb rfl, nb rfl, nb rfl⟩ (by dsimp only; omega) fun _ T238 Lc238 X238 hQ238 => ?_
  obtain ⟨t238, kb238, rfl, N238q, K238q, o238t, F238v, F238c, F238n, E238t, V238q⟩ := hQ238
  have N238 := Fr.app N187 N238q
  have f239 := (r172.safe (nu E48t.lt (Nat.le_refl _)) sfc48)
  have g_t238 : n0 ≤ t238 := o238t.elim (fun q => q ▸ g_t48) (fun q => nt Z172 q)
  have sz_t238 : h0.size ≤ t238 := o238t.elim (fun q => q ▸ sz_t48) (fun q => nt K172.1 q)
  have zs240 := nt zs51 K48q.1
  have zs241 := nt zs240 K171q.1
  have gb_t238 : h11.size ≤ t238 := o238t.elim (fun q => q ▸ gb_t48) (fun q => nt zs241 q)
  have r242 : CHr Z jo T9.vm T171.heap T9.vm T238.heap := CHr.keep K238q (sfS (Safe.exa hZ.alike f175 (by first | decide | exact nb rfl) (by first | decide | exact nb rfl)) (sfS f239 sf0)) R172.1
  have R242 := R172.trans r242
  have Z242 := nt Z172 K238q.1
  have O242 := O172.keep K238q (allS g_b11 (allS g_t48 all0))
  have K242 := K172.trans K238q (allS (Or.inr sz_b11) (allS (Or.inr sz_t48) all0))
  have sfc238 := Safe.keep K238q (sfS (Safe.exa hZ.alike f175 (by first | decide | exact nb rfl) (by first | decide | exact nb rfl)) (sfS f239 sf0)) R172.1 (o238t.elim (fun q => by rw [q]; exact f239) (fun q => Safe.new q))
  obtain ⟨M238, eM238⟩ : ∃ q, q = jw M48 ((ls ++ wl0).length + 1) := ⟨_, rfl⟩
  rw [← eM238] at V238q sp237 nb237 kc237
  have ln238 : ((ls ++ wl0) ++ [(32 : Int32)]).length = ((ls ++ wl0).length + 1) := by rw [List.length_append]; rfl
  obtain ⟨s243, es243⟩ : ∃ q, q = jS M238 (((ls ++ wl0) ++ [(32 : Int32)]).length + wl1.length) := ⟨_, rfl⟩
  have sp243 := jN M238 (((ls ++ wl0) ++ [(32 : Int32)]).length + wl1.length)
  rw [← es243] at sp243
  have kb243 : (((ls ++ wl0) ++ [(32 : Int32)]).length + wl1.length) ≤ 765 := by omega
  have nb243 : jw M238 (((ls ++ wl0) ++ [(32 : Int32)]).length + wl1.length) ≤ 1530 := jO (by omega) (by omega)
  have kc243 := jP M238 (((ls ++ wl0) ++ [(32 : Int32)]).length + wl1.length)
  refine gsW (fun _ k => jW X238 hq d55_113 rfl (jb X238 hq d55_114 rfl rfl (jy X238 hq d55_115 rfl rfl k))) ?_
  have f244 := (f175.keep K238q)
  have f245 := (Ts186.exa.keep K238q)
  have f246 := (f183.keep K238q (ninS (nw (nu (nu Epw1.lt zs21) (Nat.le_of_eq q11.symm))) (ninS (nw (nu (nu Epw1.lt zs42) gb_t48)) nin0)))
  have f247 := (f184.keep K238q (ninS (nw (nu (nu Epw1.lt zs21) (Nat.le_of_eq q11.symm))) (ninS (nw (nu (nu Epw1.lt zs42) gb_t48)) nin0)))
  have f248 := (f185.keep K238q (ninS (nw (nu (nu Apw1.lt zs21) (Nat.le_of_eq q11.symm))) (ninS (nw (nu (nu Apw1.lt zs42) gb_t48)) nin0)))
  have Ts249 : Str Z T238.heap x1 wl1 := ⟨_, _, f245, f246, f247, f248⟩
  refine cVW (rest := []) X238 hx hZ hown (ow hw 316 rfl) (ow hw 98 rfl) (nfs hZ (ow hw 100 rfl)) (ow hw 100 rfl) (ow hw 99 rfl) (ow hw 73 rfl) (ow hw 101 rfl) (rm_saX l Z a0 hw [] b11 t238 kb238 ((ls ++ wl0) ++ [(32 : Int32)]) M238 x1 wl1 z s243 T238.heap n0 Z242 O242 f244 F238v F238c F238n E238t V238q (by omega) (by omega) g_b11 g_t238 S0 hz Ts249 hb_1 (by omega) (by omega) (Nat.le_of_eq es243.symm) (by omega)) hby d55_117 rfl pd_836 0 (by rw [hml]; rfl) f244 rfl rfl rfl rfl ⟨by decide, nb rfl, nb rfl, nb rfl⟩ (by dsimp only; omega) fun _ T250 Lc250 X250 hQ250 => ?_
  obtain ⟨t250, kb250, rfl, N250q, K250q, o250t, F250v, F250c, F250n, E250t, V250q⟩ := hQ250
  have N250 := Fr.app N238 N250q
  have g_t250 : n0 ≤ t250 := o250t.elim (fun q => q ▸ g_t238) (fun q => nt Z242 q)
  have sz_t250 : h0.size ≤ t250 := o250t.elim (fun q => q ▸ sz_t238) (fun q => nt K242.1 q)
  have zs251 := nt zs241 K238q.1
  have gb_t250 : h11.size ≤ t250 := o250t.elim (fun q => q ▸ gb_t238) (fun q => nt zs251 q)
  have r252 : CHr Z jo T9.vm T238.heap T9.vm T250.heap := CHr.keep K250q (sfS (Safe.exa hZ.alike f244 (by first | decide | exact nb rfl) (by first | decide | exact nb rfl)) (sfS sfc238 sf0)) R242.1
  have R252 := R242.trans r252
  have Z252 := nt Z242 K250q.1
  have O252 := O242.keep K250q (allS g_b11 (allS g_t238 all0))
  have K252 := K242.trans K250q (allS (Or.inr sz_b11) (allS (Or.inr sz_t238) all0))
  have sfc250 := Safe.keep K250q (sfS (Safe.exa hZ.alike f244 (by first | decide | exact nb rfl) (by first | decide | exact nb rfl)) (sfS sfc238 sf0)) R242.1 (o250t.elim (fun q => by rw [q]; exact sfc238) (fun q => Safe.new q))
  obtain ⟨M250, eM250⟩ : ∃ q, q = jw M238 (((ls ++ wl0) ++ [(32 : Int32)]).length + wl1.length) := ⟨_, rfl⟩
  rw [← eM250] at V250q sp243 nb243 kc243
  have ln250 : (((ls ++ wl0) ++ [(32 : Int32)]) ++ wl1).length = (((ls ++ wl0) ++ [(32 : Int32)]).length + wl1.length) := by rw [List.length_append]
  refine gsW (fun _ k => jW X250 hq d55_120 rfl (jf (v := (1 : Int32)) X250 hq d55_121 (je X250 hq d55_122 (jF rfl rfl) (jp (pc' := 33) X250 hq d55_124 k)))) ?_
  have d2 : ¬ jaa ls wl0 wl1 := fun q => hc188 ((own_c80z (by omega) (by omega)).mpr (by rw [List.length_append]; exact q))
  have f253 := (f244.keep K250q)
  have zs254 := nt E11.1 K18q.1
  have zs255 := nt zs254 K23q.1
  have zs256 := nt zs255 K31q.1
  have zs257 := nt zs256 K48q.1
  have zs258 := nt zs257 K171q.1
  have zs259 := nt zs258 K238q.1
  have zs260 := nt zs259 K250q.1
  have f261 := ((f180.keep K238q).keep K250q)
  have f262 := ((f179.keep K238q).keep K250q)
  have f263 := (E238t.keep K250q)
  have f264 := ((J171t.keep K238q (ninS (Ne.symm (nw (nu (nu A11.lt K18q.1) g23t))) (ninS (Exa.ne f261 f262 (by first | decide | exact nb rfl)) nin0))).keep K250q (ninS (Ne.symm (nw (nu (nu A11.lt K18q.1) g23t))) (ninS (Exa.ne f261 f263 (by first | decide | exact nb rfl)) nin0)))
  have f265 := ((J171c.keep K238q (ninS (Ne.symm (nw (nu (nu A11.lt K18q.1) g23t))) (ninS (Exa.ne f261 f262 (by first | decide | exact nb rfl)) nin0))).keep K250q (ninS (Ne.symm (nw (nu (nu A11.lt K18q.1) g23t))) (ninS (Exa.ne f261 f263 (by first | decide | exact nb rfl)) nin0)))
  have f266 := ((J171l.keep K238q (ninS (Ne.symm (nw (nu (nu A11.lt K18q.1) g23t))) (ninS (Exa.ne f261 f262 (by first | decide | exact nb rfl)) nin0))).keep K250q (ninS (Ne.symm (nw (nu (nu A11.lt K18q.1) g23t))) (ninS (Exa.ne f261 f263 (by first | decide | exact nb rfl)) nin0)))
  have f267 := ((J171m.keep K238q (ninS (Ne.symm (nw (nu (nu A11.lt K18q.1) g23t))) (ninS (Exa.ne f261 f262 (by first | decide | exact nb rfl)) nin0))).keep K250q (ninS (Ne.symm (nw (nu (nu A11.lt K18q.1) g23t))) (ninS (Exa.ne f261 f263 (by first | decide | exact nb rfl)) nin0)))
  have f268 := ((((((((Epr9.ext E11).keep K18q).keep K23q).keep K31q).keep K48q).keep K171q).keep K238q).keep K250q)
  have f269 := ((((((((Cpr9.ext E11).keep K18q (ninS (nw (nu (nu Epr9.lt (Nat.le_refl _)) (Nat.le_of_eq q11.symm))) nin0)).keep K23q nin0).keep K31q (ninS (nw (nu (nu Epr9.lt zs254) g23t)) nin0)).keep K48q (ninS (nw (nu (nu Epr9.lt (Nat.le_refl _)) (Nat.le_of_eq q11.symm))) (ninS (nw (nu (nu Epr9.lt E11.1) g18t)) nin0))).keep K171q (ninS (nw (nu (nu Epr9.lt zs254) g23t)) nin0)).keep K238q (ninS (nw (nu (nu Epr9.lt (Nat.le_refl _)) (Nat.le_of_eq q11.symm))) (ninS (nw (nu (nu Epr9.lt E11.1) gb_t48)) nin0))).keep K250q (ninS (nw (nu (nu Epr9.lt (Nat.le_refl _)) (Nat.le_of_eq q11.symm))) (ninS (nw (nu (nu Epr9.lt E11.1) gb_t238)) nin0)))
  have f270 := ((((((((Vpr9.ext E11).keep K18q (ninS (nw (nu (nu Epr9.lt (Nat.le_refl _)) (Nat.le_of_eq q11.symm))) nin0)).keep K23q nin0).keep K31q (ninS (nw (nu (nu Epr9.lt zs254) g23t)) nin0)).keep K48q (ninS (nw (nu (nu Epr9.lt (Nat.le_refl _)) (Nat.le_of_eq q11.symm))) (ninS (nw (nu (nu Epr9.lt E11.1) g18t)) nin0))).keep K171q (ninS (nw (nu (nu Epr9.lt zs254) g23t)) nin0)).keep K238q (ninS (nw (nu (nu Epr9.lt (Nat.le_refl _)) (Nat.le_of_eq q11.symm))) (ninS (nw (nu (nu Epr9.lt E11.1) gb_t48)) nin0))).keep K250q (ninS (nw (nu (nu Epr9.lt (Nat.le_refl _)) (Nat.le_of_eq q11.symm))) (ninS (nw (nu (nu Epr9.lt E11.1) gb_t238)) nin0)))
  have f271 := ((((((((Apr9.ext E11).keep K18q (ninS (nw (nu (nu Apr9.lt (Nat.le_refl _)) (Nat.le_of_eq q11.symm))) nin0)).keep K23q nin0).keep K31q (ninS (nw (nu (nu Apr9.lt zs254) g23t)) nin0)).keep K48q (ninS (nw (nu (nu Apr9.lt (Nat.le_refl _)) (Nat.le_of_eq q11.symm))) (ninS (nw (nu (nu Apr9.lt E11.1) g18t)) nin0))).keep K171q (ninS (nw (nu (nu Apr9.lt zs254) g23t)) nin0)).keep K238q (ninS (nw (nu (nu Apr9.lt (Nat.le_refl _)) (Nat.le_of_eq q11.symm))) (ninS (nw (nu (nu Apr9.lt E11.1) gb_t48)) nin0))).keep K250q (ninS (nw (nu (nu Apr9.lt (Nat.le_refl _)) (Nat.le_of_eq q11.symm))) (ninS (nw (nu (nu Apr9.lt E11.1) gb_t238)) nin0)))
  exact mid T9.vm _ T250 T250.heap _ t250 kb250 (((ls ++ wl0) ++ [(32 : Int32)]) ++ wl1) 0 M250 (((((((290 + s35) + 0) + 0) + 0) + 0) + s237) + s243) hS (nt (Nat.le_refl T9.heap.size) zs260) hZ hown (X250.more (by first | decide | exact nb rfl) (Nat.le_refl _)) rfl N250 Z252 O252 K252 R252 (by unfold js; rw [if_neg d2]) (by omega) (by unfold own_col2; rw [if_neg d2]; omega) (by omega) (by omega) (by omega) (by omega) f253 F250v F250c F250n E250t V250q sfc250 g_t250 sz_t250 f261 f264 f265 f266 f267 f268 f269 f270 f271 (nw (nu (nu Apr9.lt E11.1) gb_t250))
theorem ef_956 (m : MethodId) (x0 : Int32) (x1 : Int32) (x2 : Int32) (x3 : Int32) (x4 : Int32) (x5 : Int32) : entryFrame m #[(.int x0), (.int x1), (.int x2), (.int x3), (.int x4), (.int x5)] maxLocals = mkF m 0 #[.val (.int x0), .val (.int x1), .val (.int x2), .val (.int x3), .val (.int x4), .val (.int x5), .unset, .unset, .unset, .unset, .unset, .unset, .unset, .unset, .unset, .unset, .unset, .unset, .unset, .unset, .unset, .unset, .unset, .unset, .unset, .unset, .unset, .unset, .unset, .unset] [] := by first | (simp [entryFrame, mkF, argsToLocals, Value.category, maxLocals]; done) | rfl
theorem pd_957 : parseMethodDescriptor "(IC)Ljava/lang/String;" = some ⟨[.int, .char], some (.object "java/lang/String")⟩ := by decide +kernel
theorem pd_958 : parseMethodDescriptor "(Ljava/lang/String;Ljava/util/List;)Ljava/lang/String;" = some ⟨[(.object "java/lang/String"), (.object "java/util/List")], some (.object "java/lang/String")⟩ := by decide +kernel
theorem pd_959 : parseMethodDescriptor "(I)C" = some ⟨[.int], some .char⟩ := by decide +kernel
theorem pd_960 : parseMethodDescriptor "(Ljava/lang/Object;)Z" = some ⟨[(.object "java/lang/Object")], some .boolean⟩ := by decide +kernel
theorem rm_law (l : Launch) (Z : State) (a0 : Array Value) (hw : HW Z a0) (ws : List Jvm.Cond) (i0 : Int32) (i1 : Int32) (i2 : Int32) (i3 : Int32) (i4 : Int32) (i5 : Int32) (z : Int32) (fm : Value) (de : Addr) (kd : ClassId) (h0 : Heap) (n0 : Nat) (Z0 : n0 ≤ h0.size) (O0 : Old Z n0 h0) (S0 : PS0 Z (.int z)) (hz : ¬ z = 0) (S4 : PS2 Z fm) (hfm : fm.isRef = true) (S_de : PS1 Z (.ref de)) (V_de : Arv Z Z.heap de kd (.object "java/lang/Object") (0 : Int32) [] .null) :
  CtrW l Z jo x code maxLocals ret ws room_1 #[(.int i0), (.int i1), (.int i2), (.int i3), (.int i4), (.int i5)] h0 (fun v h L => v = some (.int 1) ∧ Fr n0 L) := by
 refine CtrW.of (MetFree.of_bodySF (plainFor_of_name pn_265) hisR ?_)
 intro p e s m args below meth c s₁ Bd hml0 hP hK
 obtain ⟨rfl, hZ0, hh, hC⟩ := hP
 have hx := Bd.exec
 have hby := Bd.bytes
 have hq := And.intro hx hby
 have hml : c.maxLocals = 30 := hml0
 have hZ : Z.Warmed39 (s.setVm s.vm).vm := hZ0
 have hown : (s.setVm s.vm).vm.findClass "com/example/caddisfly/caddisfly/SyntaxWrapPinLaw" = some m.cls := findClass_of_methodNamed Bd.named
 have hnm := (name_of_methodNamed Bd.named Bd.method).1
 have X0 : Stand p l e room_1 (s.setVm s.vm) m #[(.int i0), (.int i1), (.int i2), (.int i3), (.int i4), (.int i5)] below meth c s₁ [] 0 0 := Stand.of_body Bd
 have e0 : s₁.heap = h0 := by rw [← hh, Bd.state]; rfl
 have N0 := Fr.nil n0
 have K0 : Keep h0 h0 [] := Keep.refl h0 []
 have hS : s.Since s.vm 0 := (State.WarmedH.refl s).since 0
 have hk : 0 ≤ h0.size := Nat.zero_le _
 have R0 : CHr Z jo s.vm h0 s.vm h0 := CHr.refl hC
 show OwnGoW p e below s Z jo (fun v h L => v = some (.int 1) ∧ Fr n0 L) room_1.cells room_1.slots _
 refine gsW (S' := s₁.setTop (mkF m 0 #[iv i0, iv i1, iv i2, iv i3, iv i4, iv i5, uu, uu, uu, uu, uu, uu, uu, uu, uu, uu, uu, uu, uu, uu, uu, uu, uu, uu, uu, uu, uu, uu, uu, uu] [])) (fun tg kg => castTop (ef_956 m i0 i1 i2 i3 i4 i5) kg) ?_
 refine gsW (fun _ k => ji X0 hq at_0 rfl (jz (v := (127 : Int32)) X0 hq at_1 (jab X0 hq at_3 k))) ?_
 obtain ⟨nl, el0, hl0⟩ := own_and127 i0
 rw [el0]
 refine gsW (fun _ k => je X0 hq at_4 (jj rfl) (ji X0 hq at_6 rfl (jz (v := (127 : Int32)) X0 hq at_7 (jab X0 hq at_9 k)))) ?_
 obtain ⟨n1, el1, hl1⟩ := own_and127 i1
 rw [el1]
 refine gsW (fun _ k => je X0 hq at_10 (jj rfl) (ji X0 hq at_12 rfl (jz (v := (127 : Int32)) X0 hq at_13 (jab X0 hq at_15 k)))) ?_
 obtain ⟨n2, el2, hl2⟩ := own_and127 i2
 rw [el2]
 refine gsW (fun _ k => je X0 hq at_16 (jj rfl) (ji X0 hq at_18 rfl (jz (v := (127 : Int32)) X0 hq at_19 (jab X0 hq at_21 k)))) ?_
 obtain ⟨n3, el3, hl3⟩ := own_and127 i3
 rw [el3]
 refine gsW (fun _ k => je X0 hq at_22 (jj rfl) (ji X0 hq at_24 rfl (jz (v := (7 : Int32)) X0 hq at_25 (o_iushr X0 hq at_27 (o_sipush (v := (255 : Int32)) X0 hq at_28 (jab X0 hq at_31 (o_i2c X0 hq at_32 k))))))) ?_
 obtain ⟨mL, em0⟩ : ∃ q, q = ((((i0.toUInt32 >>> ((7 : Int32) &&& 31).toUInt32).toInt32) &&& (255 : Int32)).toUInt32.toUInt16.toUInt32.toInt32) := ⟨_, rfl⟩
 have hm0 : ¬ mL < 0 ∧ ¬ (255 : Int32) < mL := by rw [em0]; exact own_ci _
 rw [← em0]
 refine gsW (fun _ k => je X0 hq at_33 (jj rfl) (ji X0 hq at_35 rfl (jz (v := (7 : Int32)) X0 hq at_36 (o_iushr X0 hq at_38 (o_sipush (v := (255 : Int32)) X0 hq at_39 (jab X0 hq at_42 (o_i2c X0 hq at_43 k))))))) ?_
 obtain ⟨m1, em1⟩ : ∃ q, q = ((((i1.toUInt32 >>> ((7 : Int32) &&& 31).toUInt32).toInt32) &&& (255 : Int32)).toUInt32.toUInt16.toUInt32.toInt32) := ⟨_, rfl⟩
 have hm1 : ¬ m1 < 0 ∧ ¬ (255 : Int32) < m1 := by rw [em1]; exact own_ci _
 rw [← em1]
 refine gsW (fun _ k => je X0 hq at_44 (jj rfl) (ji X0 hq at_46 rfl (jz (v := (7 : Int32)) X0 hq at_47 (o_iushr X0 hq at_49 (o_sipush (v := (255 : Int32)) X0 hq at_50 (jab X0 hq at_53 (o_i2c X0 hq at_54 k))))))) ?_
 obtain ⟨m2, em2⟩ : ∃ q, q = ((((i2.toUInt32 >>> ((7 : Int32) &&& 31).toUInt32).toInt32) &&& (255 : Int32)).toUInt32.toUInt16.toUInt32.toInt32) := ⟨_, rfl⟩
 have hm2 : ¬ m2 < 0 ∧ ¬ (255 : Int32) < m2 := by rw [em2]; exact own_ci _
 rw [← em2]
 refine gsW (fun _ k => je X0 hq at_55 (jj rfl) k) ?_
 refine gsW (S' := s₁.setTop (mkF m 57 #[iv i0, iv i1, iv i2, iv i3, iv i4, iv i5, iv (oI nl), iv (oI n1), iv (oI n2), iv (oI n3), iv mL, iv m1, iv m2, uu, uu, uu, uu, uu, uu, uu, uu, uu, uu, uu, uu, uu, uu, uu, uu, uu] [])) (fun _ k => k) ?_
 refine gsW (fun _ k => ji X0 hq at_57 rfl (jz (v := (7 : Int32)) X0 hq at_58 (o_iushr X0 hq at_60 (o_sipush (v := (255 : Int32)) X0 hq at_61 (jab X0 hq at_64 (o_i2c X0 hq at_65 k)))))) ?_
 obtain ⟨m3, em3⟩ : ∃ q, q = ((((i3.toUInt32 >>> ((7 : Int32) &&& 31).toUInt32).toInt32) &&& (255 : Int32)).toUInt32.toUInt16.toUInt32.toInt32) := ⟨_, rfl⟩
 have hm3 : ¬ m3 < 0 ∧ ¬ (255 : Int32) < m3 := by rw [em3]; exact own_ci _
 rw [← em3]
 refine gsW (fun _ k => je X0 hq at_66 (jj rfl) (ja X0 hq at_68 rfl (jf (v := (3 : Int32)) X0 hq at_70 (jab X0 hq at_71 k)))) ?_
 by_cases hc1 : (i4 &&& (3 : Int32)) = (0 : Int32)
 ·rw [hc1]
  refine gsW (fun _ k => je X0 hq at_72 (jj rfl) (ja X0 hq at_74 rfl (ja X0 hq at_76 rfl k))) ?_
  refine cSS (rest := []) X0 hx hS hk hZ hown (ow hw 0 rfl) (ow hw 1 rfl) (ow hw 2 rfl) (ow hw 3 rfl) (rm_dw l Z a0 hw [] nl mL z h0 n0 Z0 O0 S0 hz hl0 hm0) (jJ hw) R0.1 hby at_78 e0 pd_957 0 (by rw [hml]; rfl) rfl rfl rfl rfl (by decide) (by decide) fun _ T2 Lc2 X2 hS hZ hown hQ2 rq2 => ?_
  obtain ⟨a2, rfl, N2q, K2q, T2q⟩ := hQ2
  have N2 := Fr.app N0 N2q
  have r3 : CHr Z jo s.vm h0 T2.vm T2.heap := rq2
  have R3 := R0.trans r3
  have Z3 := nt Z0 K2q.1
  have O3 := O0.keep K2q all0
  have K3 := K0.trans K2q all0
  refine gsW (fun _ k => jQ X2 hq at_81 rfl (jj rfl) k) ?_
  obtain ⟨T4, h4, X4, e4, E4, A4, D4, -, st4⟩ := newO X2 hx hZ hown (ow hw 26 rfl) (ow hw 27 rfl) (ow hw 28 rfl) rfl (g := (mkF m 83 #[iv i0, iv i1, iv i2, iv i3, iv i4, iv i5, iv (oI nl), iv (oI n1), iv (oI n2), iv (oI n3), iv mL, iv m1, iv m2, iv m3, iv (0 : Int32), rv a2, uu, uu, uu, uu, uu, uu, uu, uu, uu, uu, uu, uu, uu, uu] [])) rfl (hb hby at_83) (by decide) (by decide)
  obtain ⟨b4, q4⟩ : ∃ z, z = T2.heap.size := ⟨_, rfl⟩
  rw [← q4] at A4 D4 st4
  have g_b4 : n0 ≤ b4 := nt Z3 (Nat.le_of_eq q4.symm)
  have sz_b4 : h0.size ≤ b4 := nt K3.1 (Nat.le_of_eq q4.symm)
  have r5 : CHr Z jo T2.vm T2.heap T2.vm h4 := CHr.ext E4 R3.1
  have R5 := R3.trans r5
  have Z5 := nt Z3 E4.1
  have O5 := O3.ext E4
  have K5 := K3.ext E4
  have F_modCount_b4 : Fld Z h4 b4 "java/util/AbstractList" "modCount" "I" (.int (0 : Int32)) := D4 (Or.inl (ow hw 46 rfl)) (ty := .int) (by decide)
  have F_elementData_b4 : Fld Z h4 b4 "java/util/ArrayList" "elementData" "[Ljava/lang/Object;" .null := D4 (Or.inl (ow hw 49 rfl)) (ty := (.array (.object "java/lang/Object"))) (by decide)
  have F_size_b4 : Fld Z h4 b4 "java/util/ArrayList" "size" "I" (.int (0 : Int32)) := D4 (Or.inl (ow hw 169 rfl)) (ty := .int) (by decide)
  refine gsW (S' := T4.setTop (mkF m 86 #[iv i0, iv i1, iv i2, iv i3, iv i4, iv i5, iv (oI nl), iv (oI n1), iv (oI n2), iv (oI n3), iv mL, iv m1, iv m2, iv m3, iv (0 : Int32), rv a2, uu, uu, uu, uu, uu, uu, uu, uu, uu, uu, uu, uu, uu, uu] [(.ref b4)])) st4 ?_
  refine gsW (fun _ k => jad X4 hq at_86 rfl k) ?_
  refine cIW (rest := [(.ref b4)]) X4 hx hZ hown rfl (ow hw 29 rfl) (ow hw 30 rfl) (ow hw 28 rfl) (ow hw 31 rfl) (rm_ali l Z a0 hw [] b4 de h4 n0 Z5 O5 A4 F_modCount_b4 F_size_b4 F_elementData_b4 g_b4 S_de) hby at_87 e4 pd_276 1 (by rw [hml]; rfl) rfl rfl rfl rfl (by decide) (by decide) fun _ T6 Lc6 X6 hQ6 => ?_
  obtain ⟨rfl, N6q, K6q, F6m, F6s, F6e⟩ := hQ6
  have N6 := Fr.app N2 N6q
  have r7 : CHr Z jo T2.vm h4 T2.vm T6.heap := CHr.keep K6q (sfS (Safe.exa hZ.alike A4 (by decide) (by decide)) sf0) R5.1
  have R7 := R5.trans r7
  have Z7 := nt Z5 K6q.1
  have O7 := O5.keep K6q (allS g_b4 all0)
  have K7 := K5.trans K6q (allS (Or.inr sz_b4) all0)
  refine gsW (fun _ k => jQ X6 hq at_90 rfl (jj rfl) (ja X6 hq at_92 rfl (jf (v := (1 : Int32)) X6 hq at_94 (jh (pc' := 113) X6 hq at_95 (tlt (by decide : (0 : Int32) < (1 : Int32))).1 (ja X6 hq at_113 rfl (jf (v := (2 : Int32)) X6 hq at_115 (jh (pc' := 134) X6 hq at_116 (tlt (by decide : (0 : Int32) < (2 : Int32))).1 (ja X6 hq at_134 rfl (jf (v := (3 : Int32)) X6 hq at_136 (jh (pc' := 155) X6 hq at_137 (tlt (by decide : (0 : Int32) < (3 : Int32))).1 (jy X6 hq at_155 rfl rfl (jy X6 hq at_157 rfl rfl k)))))))))))) ?_
  have f8 := (A4.keep K6q)
  have f9 := ((T2q.ext E4).keepE K6q A4 (by decide) (ow hw 27 rfl))
  have zs11 := nt E4.1 K6q.1
  refine cSS (rest := []) X6 hx hS (nt (Nat.le_refl T2.heap.size) zs11) hZ hown (ow hw 50 rfl) (ow hw 51 rfl) (ow hw 52 rfl) (ow hw 53 rfl) (rm_wrap0 l Z a0 hw [] a2 (jc nl mL) b4 de kd z T6.heap n0 Z7 O7 S0 hz f8 F6m F6s F6e f9 (jK hm0) (by rw [jq]; exact hl0)) (jJ hw) R7.1 hby at_159 rfl pd_958 0 (by rw [hml]; rfl) rfl rfl rfl rfl (by decide) (by decide) fun _ T10 Lc10 X10 hS hZ hown hQ10 rq10 => ?_
  obtain ⟨a10, rfl, N10q, K10q, T10q⟩ := hQ10
  have N10 := Fr.app N6 N10q
  have r12 : CHr Z jo T2.vm T6.heap T10.vm T10.heap := rq10
  have R12 := R7.trans r12
  have Z12 := nt Z7 K10q.1
  have O12 := O7.keep K10q all0
  have K12 := K7.trans K10q all0
  refine gsW (fun _ k => jQ X10 hq at_162 rfl (jj rfl) (ja X10 hq at_164 rfl (je X10 hq at_166 (jj rfl) (ja X10 hq at_168 rfl (je X10 hq at_170 (jj rfl) k))))) ?_
  refine gsW (S' := T10.setTop (mkF m 172 #[iv i0, iv i1, iv i2, iv i3, iv i4, iv i5, iv (oI nl), iv (oI n1), iv (oI n2), iv (oI n3), iv mL, iv m1, iv m2, iv m3, iv (0 : Int32), rv a2, rv b4, rv a10, iv (oI nl), iv (oI nl), uu, uu, uu, uu, uu, uu, uu, uu, uu, uu] [])) (fun _ k => k) ?_
  refine gsW (fun _ k => ja X10 hq at_172 rfl (je X10 hq at_174 (jj rfl) (ja X10 hq at_176 rfl (jf (v := (1 : Int32)) X10 hq at_178 (jh (pc' := 196) X10 hq at_179 (tlt (by decide : (0 : Int32) < (1 : Int32))).1 (jf (v := (0 : Int32)) X10 hq at_196 (je X10 hq at_197 (jj rfl) (ja X10 hq at_199 rfl (je X10 hq at_201 (jj rfl) (ja X10 hq at_203 rfl (je X10 hq at_205 (jj rfl) (ja X10 hq at_207 rfl (jf (v := (2 : Int32)) X10 hq at_209 (jh (pc' := 279) X10 hq at_210 (tlt (by decide : (0 : Int32) < (2 : Int32))).1 (jf (v := (0 : Int32)) X10 hq at_279 (je X10 hq at_280 (jj rfl) (ja X10 hq at_282 rfl (je X10 hq at_284 (jj rfl) (ja X10 hq at_286 rfl (je X10 hq at_288 (jj rfl) k)))))))))))))))))))) ?_
  refine gsW (S' := T10.setTop (mkF m 290 #[iv i0, iv i1, iv i2, iv i3, iv i4, iv i5, iv (oI nl), iv (oI n1), iv (oI n2), iv (oI n3), iv mL, iv m1, iv m2, iv m3, iv (0 : Int32), rv a2, rv b4, rv a10, iv (oI nl), iv (oI nl), iv (oI nl), iv (0 : Int32), iv (oI nl), iv (oI nl), iv (0 : Int32), iv (oI nl), iv (oI nl), uu, uu, uu] [])) (fun _ k => k) ?_
  refine gsW (fun _ k => ja X10 hq at_290 rfl (jf (v := (3 : Int32)) X10 hq at_292 (jh (pc' := 362) X10 hq at_293 (tlt (by decide : (0 : Int32) < (3 : Int32))).1 (ja X10 hq at_362 rfl (jf (v := (1 : Int32)) X10 hq at_364 (jt X10 hq at_365 k)))))) ?_
  have hln : ((jc nl mL) ++ [10]).length = (nl + 1) := by simp only [List.length_append, List.length_replicate, List.length_cons, List.length_nil, jq]
  have hl4 : ((jc nl mL) ++ [10]).length ≤ 4000 := by omega
  have et : ((oI nl) + (1 : Int32)) = oI ((nl + 1)) := by simp only [jd, jk, jl]
  rw [et]
  refine gsW (fun _ k => je X10 hq at_366 (jj rfl) (jy X10 hq at_368 rfl rfl k)) ?_
  refine cVW (rest := []) X10 hx hZ hown (ow hw 229 rfl) (ow hw 56 rfl) (nfs hZ (ow hw 58 rfl)) (ow hw 58 rfl) (ow hw 57 rfl) (ow hw 7 rfl) (ow hw 59 rfl) (rm_lenL l Z a0 hw [] a10 ((jc nl mL) ++ [10]) z T10.heap n0 Z12 O12 T10q S0 hz) hby at_370 rfl pd_644 0 (by rw [hml]; rfl) T10q.exa rfl rfl rfl rfl (by decide) (by decide) fun _ T13 Lc13 X13 hQ13 => ?_
  obtain ⟨rfl, N13q, e13q⟩ := hQ13
  have N13 := Fr.app N10 N13q
  refine gsW (fun _ k => ja X13 hq at_373 rfl (jh (pc' := 380) X13 hq at_375 (teq (by rw [hln])).1 (ja X13 hq at_380 rfl (jac X13 hq hown (mvT hZ (ow hw 230 rfl)) at_382 (jab X13 hq at_384 (ja X13 hq at_385 rfl (Jvm.RoadKit.iremM X13 hx (g := (mkF m 387 #[iv i0, iv i1, iv i2, iv i3, iv i4, iv i5, iv (oI nl), iv (oI n1), iv (oI n2), iv (oI n3), iv mL, iv m1, iv m2, iv m3, iv (0 : Int32), rv a2, rv b4, rv a10, iv (oI nl), iv (oI nl), iv (oI nl), iv (0 : Int32), iv (oI nl), iv (oI nl), iv (0 : Int32), iv (oI nl), iv (oI nl), iv ((oI ((nl + 1)))), uu, uu] [(.int (oI ((nl + 1)))), (.int (i5 &&& (2147483647 : Int32)))])) rfl (hb hby at_387) rfl (jaf (b := 0) (by omega) (by omega) (by omega)) k))))))) ?_
  obtain ⟨jn, ej, hj⟩ := own_rem (x := i5) (t := (nl + 1)) (by omega) (by omega)
  rw [ej]
  refine gsW (fun _ k => je X13 hq at_388 (jj rfl) k) ?_
  have mid14 : ∀ e_14 : Int32, ((((jc nl mL) ++ [10]).getD jn 0) = e_14) → OwnGoW p e below s Z jo (fun v h L => v = some (.int 1) ∧ Fr n0 L) room_1.cells room_1.slots (T13.setTop (mkF m 581 #[iv i0, iv i1, iv i2, iv i3, iv i4, iv i5, iv (oI nl), iv (oI n1), iv (oI n2), iv (oI n3), iv mL, iv m1, iv m2, iv m3, iv (0 : Int32), rv a2, rv b4, rv a10, iv (oI nl), iv (oI nl), iv (oI nl), iv (0 : Int32), iv (oI nl), iv (oI nl), iv (0 : Int32), iv (oI nl), iv (oI nl), iv ((oI ((nl + 1)))), iv (oI jn), iv e_14] [])) := by
   intro e_14 hfin
   refine gsW (fun _ k => jy X13 hq at_581 rfl rfl (ja X13 hq at_583 rfl k)) ?_
   refine cVW (rest := []) X13 hx hZ hown (ow hw 231 rfl) (ow hw 232 rfl) (nfs hZ (ow hw 234 rfl)) (ow hw 234 rfl) (ow hw 233 rfl) (ow hw 7 rfl) (ow hw 235 rfl) (rm_chL l Z a0 hw [] a10 ((jc nl mL) ++ [10]) jn (oI jn) z fm T10.heap n0 Z12 O12 T10q (jU (jK hm0) (by decide)) (by rw [hln]; exact hj) hl4 rfl S0 hz S4 hfm) hby at_585 e13q pd_959 0 (by rw [hml]; rfl) T10q.exa rfl rfl rfl rfl (by decide) (by decide) fun _ T15 Lc15 X15 hQ15 => ?_
   obtain ⟨rfl, N15q, e15q⟩ := hQ15
   have N15 := Fr.app N13 N15q
   refine gsW (fun _ k => ja X15 hq at_588 rfl (jm X15 hq at_590 (teq hfin).2 (jf (v := (1 : Int32)) X15 hq at_593 (jp (pc' := 598) X15 hq at_594 k)))) ?_
   refine goutW (v := some (.int (1 : Int32))) X15 hS (Nat.le_refl T10.heap.size) hZ (jJ hw) hh e15q R12 Bd.notSynchronized (jA Bd.returns) (by decide) (by decide) ?_ (fun fs hr => retN X15 hx (t := .boolean) Bd.returns (by simp) (hb hby at_598) hr)
   exact ⟨rfl, N15⟩
  refine gsW (fun _ k => ja X13 hq at_390 rfl (ja X13 hq at_392 rfl k)) ?_
  by_cases hc16 : (oI jn) < (oI nl)
  ·refine gsW (fun _ k => jm X13 hq at_394 (tlt hc16).2.1 (ja X13 hq at_397 rfl k)) ?_
   by_cases hc17 : (oI jn) = (0 : Int32)
   ·refine gsW (fun _ k => jG X13 hq at_399 ((if0 _ _).trans (teq hc17).2) (ja X13 hq at_402 rfl (jp (pc' := 408) X13 hq at_404 (je X13 hq at_408 (jj rfl) (jp (pc' := 581) X13 hq at_410 k))))) ?_
    have yhc16 : jn < nl := (jg (by omega) (by omega)).mp hc16
    have yhc17 : jn = 0 := (jB (b := 0) (by omega) (by omega)).mp hc17
    have fin : (((jc nl mL) ++ [10]).getD jn 0) = mL := by
     simp only [jC, jv, ju, jD, List.length_append, List.length_replicate, List.length_cons, List.length_nil, jq]
     repeat' split
     all_goals first | rfl | (exfalso; omega)
    exact mid14 mL fin
   ·refine gsW (fun _ k => jI (pc' := 407) X13 hq at_399 ((if0 _ _).trans (feq hc17).2) (jf (v := (0 : Int32)) X13 hq at_407 (je X13 hq at_408 (jj rfl) (jp (pc' := 581) X13 hq at_410 k)))) ?_
    have yhc16 : jn < nl := (jg (by omega) (by omega)).mp hc16
    have yhc17 : ¬ jn = 0 := fun q => hc17 ((jB (b := 0) (by omega) (by omega)).mpr q)
    have fin : (((jc nl mL) ++ [10]).getD jn 0) = (0 : Int32) := by
     simp only [jC, jv, ju, jD, List.length_append, List.length_replicate, List.length_cons, List.length_nil, jq]
     repeat' split
     all_goals first | rfl | (exfalso; omega)
    exact mid14 (0 : Int32) fin
  ·refine gsW (fun _ k => jh (pc' := 413) X13 hq at_394 (flt hc16).2.1 (ja X13 hq at_413 rfl (jf (v := (1 : Int32)) X13 hq at_415 (jh (pc' := 447) X13 hq at_416 (tlt (by decide : (0 : Int32) < (1 : Int32))).1 (ja X13 hq at_447 rfl (jf (v := (2 : Int32)) X13 hq at_449 (jh (pc' := 512) X13 hq at_450 (tlt (by decide : (0 : Int32) < (2 : Int32))).1 (ja X13 hq at_512 rfl (jf (v := (3 : Int32)) X13 hq at_514 (jh (pc' := 577) X13 hq at_515 (tlt (by decide : (0 : Int32) < (3 : Int32))).1 (jz (v := (10 : Int32)) X13 hq at_577 (je X13 hq at_579 (jj rfl) k)))))))))))) ?_
   have yhc16 : ¬ jn < nl := mt (jg (by omega) (by omega)).mpr hc16
   have fin : (((jc nl mL) ++ [10]).getD jn 0) = (10 : Int32) := by
    simp only [jC, jv, ju, jD, List.length_append, List.length_replicate, List.length_cons, List.length_nil, jq]
    repeat' split
    all_goals first | rfl | (exfalso; omega)
   exact mid14 (10 : Int32) fin
 ·by_cases hc18 : (i4 &&& (3 : Int32)) = (1 : Int32)
  ·rw [hc18]
   refine gsW (fun _ k => je X0 hq at_72 (jj rfl) (ja X0 hq at_74 rfl (ja X0 hq at_76 rfl k))) ?_
   refine cSS (rest := []) X0 hx hS hk hZ hown (ow hw 0 rfl) (ow hw 1 rfl) (ow hw 2 rfl) (ow hw 3 rfl) (rm_dw l Z a0 hw [] nl mL z h0 n0 Z0 O0 S0 hz hl0 hm0) (jJ hw) R0.1 hby at_78 e0 pd_957 0 (by rw [hml]; rfl) rfl rfl rfl rfl (by decide) (by decide) fun _ T19 Lc19 X19 hS hZ hown hQ19 rq19 => ?_
   obtain ⟨a19, rfl, N19q, K19q, T19q⟩ := hQ19
   have N19 := Fr.app N0 N19q
   have r20 : CHr Z jo s.vm h0 T19.vm T19.heap := rq19
   have R20 := R0.trans r20
   have Z20 := nt Z0 K19q.1
   have O20 := O0.keep K19q all0
   have K20 := K0.trans K19q all0
   refine gsW (fun _ k => jQ X19 hq at_81 rfl (jj rfl) k) ?_
   obtain ⟨T21, h21, X21, e21, E21, A21, D21, -, st21⟩ := newO X19 hx hZ hown (ow hw 26 rfl) (ow hw 27 rfl) (ow hw 28 rfl) rfl (g := (mkF m 83 #[iv i0, iv i1, iv i2, iv i3, iv i4, iv i5, iv (oI nl), iv (oI n1), iv (oI n2), iv (oI n3), iv mL, iv m1, iv m2, iv m3, iv (1 : Int32), rv a19, uu, uu, uu, uu, uu, uu, uu, uu, uu, uu, uu, uu, uu, uu] [])) rfl (hb hby at_83) (by decide) (by decide)
   obtain ⟨b21, q21⟩ : ∃ z, z = T19.heap.size := ⟨_, rfl⟩
   rw [← q21] at A21 D21 st21
   have g_b21 : n0 ≤ b21 := nt Z20 (Nat.le_of_eq q21.symm)
   have sz_b21 : h0.size ≤ b21 := nt K20.1 (Nat.le_of_eq q21.symm)
   have r22 : CHr Z jo T19.vm T19.heap T19.vm h21 := CHr.ext E21 R20.1
   have R22 := R20.trans r22
   have Z22 := nt Z20 E21.1
   have O22 := O20.ext E21
   have K22 := K20.ext E21
   have F_modCount_b21 : Fld Z h21 b21 "java/util/AbstractList" "modCount" "I" (.int (0 : Int32)) := D21 (Or.inl (ow hw 46 rfl)) (ty := .int) (by decide)
   have F_elementData_b21 : Fld Z h21 b21 "java/util/ArrayList" "elementData" "[Ljava/lang/Object;" .null := D21 (Or.inl (ow hw 49 rfl)) (ty := (.array (.object "java/lang/Object"))) (by decide)
   have F_size_b21 : Fld Z h21 b21 "java/util/ArrayList" "size" "I" (.int (0 : Int32)) := D21 (Or.inl (ow hw 169 rfl)) (ty := .int) (by decide)
   refine gsW (S' := T21.setTop (mkF m 86 #[iv i0, iv i1, iv i2, iv i3, iv i4, iv i5, iv (oI nl), iv (oI n1), iv (oI n2), iv (oI n3), iv mL, iv m1, iv m2, iv m3, iv (1 : Int32), rv a19, uu, uu, uu, uu, uu, uu, uu, uu, uu, uu, uu, uu, uu, uu] [(.ref b21)])) st21 ?_
   refine gsW (fun _ k => jad X21 hq at_86 rfl k) ?_
   refine cIW (rest := [(.ref b21)]) X21 hx hZ hown rfl (ow hw 29 rfl) (ow hw 30 rfl) (ow hw 28 rfl) (ow hw 31 rfl) (rm_ali l Z a0 hw [] b21 de h21 n0 Z22 O22 A21 F_modCount_b21 F_size_b21 F_elementData_b21 g_b21 S_de) hby at_87 e21 pd_276 1 (by rw [hml]; rfl) rfl rfl rfl rfl (by decide) (by decide) fun _ T23 Lc23 X23 hQ23 => ?_
   obtain ⟨rfl, N23q, K23q, F23m, F23s, F23e⟩ := hQ23
   have N23 := Fr.app N19 N23q
   have r24 : CHr Z jo T19.vm h21 T19.vm T23.heap := CHr.keep K23q (sfS (Safe.exa hZ.alike A21 (by decide) (by decide)) sf0) R22.1
   have R24 := R22.trans r24
   have Z24 := nt Z22 K23q.1
   have O24 := O22.keep K23q (allS g_b21 all0)
   have K24 := K22.trans K23q (allS (Or.inr sz_b21) all0)
   refine gsW (fun _ k => jQ X23 hq at_90 rfl (jj rfl) (ja X23 hq at_92 rfl (jf (v := (1 : Int32)) X23 hq at_94 (jm X23 hq at_95 (flt (by decide : ¬ ((1 : Int32) < (1 : Int32)))).1 (jy X23 hq at_98 rfl rfl (ja X23 hq at_100 rfl (ja X23 hq at_102 rfl k))))))) ?_
   have zs26 := nt E21.1 K23q.1
   refine cSS (rest := [(.ref b21)]) X23 hx hS (nt (Nat.le_refl T19.heap.size) zs26) hZ hown (ow hw 0 rfl) (ow hw 1 rfl) (ow hw 2 rfl) (ow hw 3 rfl) (rm_dw l Z a0 hw [] n1 m1 z T23.heap n0 Z24 O24 S0 hz hl1 hm1) (jJ hw) R24.1 hby at_104 rfl pd_957 1 (by rw [hml]; rfl) rfl rfl rfl rfl (by decide) (by decide) fun _ T25 Lc25 X25 hS hZ hown hQ25 rq25 => ?_
   obtain ⟨a25, rfl, N25q, K25q, T25q⟩ := hQ25
   have N25 := Fr.app N23 N25q
   have r27 : CHr Z jo T19.vm T23.heap T25.vm T25.heap := rq25
   have R27 := R24.trans r27
   have Z27 := nt Z24 K25q.1
   have O27 := O24.keep K25q all0
   have K27 := K24.trans K25q all0
   have f28 := ((A21.keep K23q).keep K25q)
   have f29 := (F23m.keep K25q nin0)
   have f30 := (F23s.keep K25q nin0)
   have f31 := (F23e.keep K25q nin0)
   obtain ⟨cq32, kq32, q32a, q32b, q32c⟩ := isOf hZ rfl f28
   obtain ⟨_, _, ⟨T32, L32, k32, n32⟩, -, X32, ⟨Lc32, hQ32, l32, y32, z32⟩, st32⟩ := X25.interfaceBack hx (xi := my6) (y := my3) hown (mvT hZ (ow hw 270 rfl)) (mvT hZ (ow hw 271 rfl)) (mvT hZ (ow hw 272 rfl)) (mvT hZ (ow hw 273 rfl)) (mvT hZ (ow hw 274 rfl)) (mvT hZ (ow hw 275 rfl)) (mvT hZ (ow hw 276 rfl)) (mvT hZ (ow hw 139 rfl)) (by decide) (backC (W := 0) (rm_add0 l Z a0 hw [] b21 de kd a25 T25.heap n0 Z27 O27 f28 f29 f30 f31 g_b21 T25q.exa S_de (V_de.ext O27.2)) hZ (ow hw 277 rfl) (ow hw 28 rfl) (by decide) (by decide)) q32a q32b q32c (g := (mkF m 107 #[iv i0, iv i1, iv i2, iv i3, iv i4, iv i5, iv (oI nl), iv (oI n1), iv (oI n2), iv (oI n3), iv mL, iv m1, iv m2, iv m3, iv (1 : Int32), rv a19, rv b21, uu, uu, uu, uu, uu, uu, uu, uu, uu, uu, uu, uu, uu] [(.ref a25), (.ref b21)])) rfl (by rw [hml]; rfl) (Steps.refl _) (argsL := [(.ref a25)]) (rest := []) (lenOf pd_960 rfl) rfl (jL rfl) (hb hby at_107) (fun _ _ => ⟨rfl, rfl, (by decide : 13 + 1 ≤ _), (by decide : 519 + 10 ≤ _)⟩)
   dsimp only [Pt.U, Pt.locs, Pt.cells, Pt.slots] at X32 l32 y32 z32 st32 hQ32
   subst l32 y32 z32
   obtain ⟨t32, kb32, rfl, N32q, K32q, g32t, Ov32q, V32q, F32m, F32s, F32e⟩ := hQ32
   have N32 := Fr.app N25 N32q
   have g_t32 : n0 ≤ t32 := nt Z27 g32t
   have sz_t32 : h0.size ≤ t32 := nt K27.1 g32t
   have r33 : CHr Z jo T25.vm T25.heap T25.vm T32.heap := CHr.keep K32q (sfS (Safe.exa hZ.alike f28 (by decide) (by decide)) sf0) R27.1
   have R33 := R27.trans r33
   have Z33 := nt Z27 K32q.1
   have O33 := O27.keep K32q (allS g_b21 all0)
   have K33 := K27.trans K32q (allS (Or.inr sz_b21) all0)
   refine gsW (S' := T32.setTop (mkF m 112 #[iv i0, iv i1, iv i2, iv i3, iv i4, iv i5, iv (oI nl), iv (oI n1), iv (oI n2), iv (oI n3), iv mL, iv m1, iv m2, iv m3, iv (1 : Int32), rv a19, rv b21, uu, uu, uu, uu, uu, uu, uu, uu, uu, uu, uu, uu, uu] [(.int (1 : Int32))])) (fun _ k => st32.trans k) ?_
   refine gsW (fun _ k => jW X32 hq at_112 rfl (ja X32 hq at_113 rfl (jf (v := (2 : Int32)) X32 hq at_115 (jh (pc' := 134) X32 hq at_116 (tlt (by decide : (1 : Int32) < (2 : Int32))).1 (ja X32 hq at_134 rfl (jf (v := (3 : Int32)) X32 hq at_136 (jh (pc' := 155) X32 hq at_137 (tlt (by decide : (1 : Int32) < (3 : Int32))).1 (jy X32 hq at_155 rfl rfl (jy X32 hq at_157 rfl rfl k))))))))) ?_
   have f34 := (f28.keep K32q)
   have f35 := ((((T19q.ext E21).keepE K23q A21 (by decide) (ow hw 27 rfl)).keep0 K25q).keepE K32q ((A21.keep K23q).keep K25q) (by decide) (ow hw 27 rfl))
   have f36 := (T25q.keepE K32q ((A21.keep K23q).keep K25q) (by decide) (ow hw 27 rfl))
   refine cSS (rest := []) X32 hx hS (nt (Nat.le_refl T25.heap.size) K32q.1) hZ hown (ow hw 50 rfl) (ow hw 51 rfl) (ow hw 52 rfl) (ow hw 53 rfl) (rm_wrap1 l Z a0 hw [] a19 (jc nl mL) b21 t32 kb32 a25 (jc n1 m1) z T32.heap n0 Z33 O33 S0 hz f34 F32m F32s F32e V32q f35 (jK hm0) (by rw [jq]; exact hl0) f36 (jK hm1) (by rw [jq]; exact hl1)) (jJ hw) R33.1 hby at_159 rfl pd_958 0 (by rw [hml]; rfl) rfl rfl rfl rfl (by decide) (by decide) fun _ T37 Lc37 X37 hS hZ hown hQ37 rq37 => ?_
   obtain ⟨a37, rfl, N37q, K37q, T37q⟩ := hQ37
   have N37 := Fr.app N32 N37q
   have r38 : CHr Z jo T25.vm T32.heap T37.vm T37.heap := rq37
   have R38 := R33.trans r38
   have Z38 := nt Z33 K37q.1
   have O38 := O33.keep K37q all0
   have K38 := K33.trans K37q all0
   refine gsW (fun _ k => jQ X37 hq at_162 rfl (jj rfl) (ja X37 hq at_164 rfl (je X37 hq at_166 (jj rfl) (ja X37 hq at_168 rfl (je X37 hq at_170 (jj rfl) k))))) ?_
   refine gsW (S' := T37.setTop (mkF m 172 #[iv i0, iv i1, iv i2, iv i3, iv i4, iv i5, iv (oI nl), iv (oI n1), iv (oI n2), iv (oI n3), iv mL, iv m1, iv m2, iv m3, iv (1 : Int32), rv a19, rv b21, rv a37, iv (oI nl), iv (oI nl), uu, uu, uu, uu, uu, uu, uu, uu, uu, uu] [])) (fun _ k => k) ?_
   refine gsW (fun _ k => ja X37 hq at_172 rfl (je X37 hq at_174 (jj rfl) (ja X37 hq at_176 rfl (jf (v := (1 : Int32)) X37 hq at_178 (jm X37 hq at_179 (flt (by decide : ¬ ((1 : Int32) < (1 : Int32)))).1 (ja X37 hq at_182 rfl (ja X37 hq at_184 rfl (jt X37 hq at_186 (je X37 hq at_187 (jF rfl rfl) (ja X37 hq at_189 rfl (ja X37 hq at_191 rfl (jt X37 hq at_193 (je X37 hq at_194 (jF rfl rfl) (jf (v := (0 : Int32)) X37 hq at_196 (je X37 hq at_197 (jj rfl) (ja X37 hq at_199 rfl (je X37 hq at_201 (jj rfl) (ja X37 hq at_203 rfl (je X37 hq at_205 (jj rfl) (ja X37 hq at_207 rfl (jf (v := (2 : Int32)) X37 hq at_209 (jh (pc' := 279) X37 hq at_210 (tlt (by decide : (1 : Int32) < (2 : Int32))).1 (jf (v := (0 : Int32)) X37 hq at_279 (je X37 hq at_280 (jj rfl) k)))))))))))))))))))))))) ?_
   refine gsW (S' := T37.setTop (mkF m 282 #[iv i0, iv i1, iv i2, iv i3, iv i4, iv i5, iv (oI nl), iv (oI n1), iv (oI n2), iv (oI n3), iv mL, iv m1, iv m2, iv m3, iv (1 : Int32), rv a19, rv b21, rv a37, iv (((oI nl) + (oI n1))), iv (((oI nl) + (oI n1))), iv (oI nl), iv (0 : Int32), iv (((oI nl) + (oI n1))), iv (((oI nl) + (oI n1))), iv (0 : Int32), uu, uu, uu, uu, uu] [])) (fun _ k => k) ?_
   refine gsW (fun _ k => ja X37 hq at_282 rfl (je X37 hq at_284 (jj rfl) (ja X37 hq at_286 rfl (je X37 hq at_288 (jj rfl) (ja X37 hq at_290 rfl (jf (v := (3 : Int32)) X37 hq at_292 (jh (pc' := 362) X37 hq at_293 (tlt (by decide : (1 : Int32) < (3 : Int32))).1 (ja X37 hq at_362 rfl (jf (v := (1 : Int32)) X37 hq at_364 (jt X37 hq at_365 k)))))))))) ?_
   have hln : ((jZ (jc nl mL) (jc n1 m1)) ++ [10]).length = ((nl + n1) + 1) := by unfold jZ; simp only [List.length_append, List.length_replicate, List.length_cons, List.length_nil, jq]
   have hl4 : ((jZ (jc nl mL) (jc n1 m1)) ++ [10]).length ≤ 4000 := by omega
   have et : (((oI nl) + (oI n1)) + (1 : Int32)) = oI (((nl + n1) + 1)) := by simp only [jd, jk, jl]
   rw [et]
   refine gsW (fun _ k => je X37 hq at_366 (jj rfl) (jy X37 hq at_368 rfl rfl k)) ?_
   refine cVW (rest := []) X37 hx hZ hown (ow hw 229 rfl) (ow hw 56 rfl) (nfs hZ (ow hw 58 rfl)) (ow hw 58 rfl) (ow hw 57 rfl) (ow hw 7 rfl) (ow hw 59 rfl) (rm_lenL l Z a0 hw [] a37 ((jZ (jc nl mL) (jc n1 m1)) ++ [10]) z T37.heap n0 Z38 O38 T37q S0 hz) hby at_370 rfl pd_644 0 (by rw [hml]; rfl) T37q.exa rfl rfl rfl rfl (by decide) (by decide) fun _ T39 Lc39 X39 hQ39 => ?_
   obtain ⟨rfl, N39q, e39q⟩ := hQ39
   have N39 := Fr.app N37 N39q
   refine gsW (fun _ k => ja X39 hq at_373 rfl (jh (pc' := 380) X39 hq at_375 (teq (by rw [hln])).1 (ja X39 hq at_380 rfl (jac X39 hq hown (mvT hZ (ow hw 230 rfl)) at_382 (jab X39 hq at_384 (ja X39 hq at_385 rfl (Jvm.RoadKit.iremM X39 hx (g := (mkF m 387 #[iv i0, iv i1, iv i2, iv i3, iv i4, iv i5, iv (oI nl), iv (oI n1), iv (oI n2), iv (oI n3), iv mL, iv m1, iv m2, iv m3, iv (1 : Int32), rv a19, rv b21, rv a37, iv (((oI nl) + (oI n1))), iv (((oI nl) + (oI n1))), iv (oI nl), iv (0 : Int32), iv (((oI nl) + (oI n1))), iv (((oI nl) + (oI n1))), iv (0 : Int32), iv (((oI nl) + (oI n1))), iv (((oI nl) + (oI n1))), iv ((oI (((nl + n1) + 1)))), uu, uu] [(.int (oI (((nl + n1) + 1)))), (.int (i5 &&& (2147483647 : Int32)))])) rfl (hb hby at_387) rfl (jaf (b := 0) (by omega) (by omega) (by omega)) k))))))) ?_
   obtain ⟨jn, ej, hj⟩ := own_rem (x := i5) (t := ((nl + n1) + 1)) (by omega) (by omega)
   rw [ej]
   refine gsW (fun _ k => je X39 hq at_388 (jj rfl) k) ?_
   have mid40 : ∀ e_40 : Int32, ((((jZ (jc nl mL) (jc n1 m1)) ++ [10]).getD jn 0) = e_40) → OwnGoW p e below s Z jo (fun v h L => v = some (.int 1) ∧ Fr n0 L) room_1.cells room_1.slots (T39.setTop (mkF m 581 #[iv i0, iv i1, iv i2, iv i3, iv i4, iv i5, iv (oI nl), iv (oI n1), iv (oI n2), iv (oI n3), iv mL, iv m1, iv m2, iv m3, iv (1 : Int32), rv a19, rv b21, rv a37, iv (((oI nl) + (oI n1))), iv (((oI nl) + (oI n1))), iv (oI nl), iv (0 : Int32), iv (((oI nl) + (oI n1))), iv (((oI nl) + (oI n1))), iv (0 : Int32), iv (((oI nl) + (oI n1))), iv (((oI nl) + (oI n1))), iv ((oI (((nl + n1) + 1)))), iv (oI jn), iv e_40] [])) := by
    intro e_40 hfin
    refine gsW (fun _ k => jy X39 hq at_581 rfl rfl (ja X39 hq at_583 rfl k)) ?_
    refine cVW (rest := []) X39 hx hZ hown (ow hw 231 rfl) (ow hw 232 rfl) (nfs hZ (ow hw 234 rfl)) (ow hw 234 rfl) (ow hw 233 rfl) (ow hw 7 rfl) (ow hw 235 rfl) (rm_chL l Z a0 hw [] a37 ((jZ (jc nl mL) (jc n1 m1)) ++ [10]) jn (oI jn) z fm T37.heap n0 Z38 O38 T37q (jU (jU (jK hm0) (jK hm1)) (by decide)) (by rw [hln]; exact hj) hl4 rfl S0 hz S4 hfm) hby at_585 e39q pd_959 0 (by rw [hml]; rfl) T37q.exa rfl rfl rfl rfl (by decide) (by decide) fun _ T41 Lc41 X41 hQ41 => ?_
    obtain ⟨rfl, N41q, e41q⟩ := hQ41
    have N41 := Fr.app N39 N41q
    refine gsW (fun _ k => ja X41 hq at_588 rfl (jm X41 hq at_590 (teq hfin).2 (jf (v := (1 : Int32)) X41 hq at_593 (jp (pc' := 598) X41 hq at_594 k)))) ?_
    refine goutW (v := some (.int (1 : Int32))) X41 hS (Nat.le_refl T37.heap.size) hZ (jJ hw) hh e41q R38 Bd.notSynchronized (jA Bd.returns) (by decide) (by decide) ?_ (fun fs hr => retN X41 hx (t := .boolean) Bd.returns (by simp) (hb hby at_598) hr)
    exact ⟨rfl, N41⟩
   refine gsW (fun _ k => ja X39 hq at_390 rfl (ja X39 hq at_392 rfl k)) ?_
   by_cases hc42 : (oI jn) < (oI nl)
   ·refine gsW (fun _ k => jm X39 hq at_394 (tlt hc42).2.1 (ja X39 hq at_397 rfl k)) ?_
    by_cases hc43 : (oI jn) = (0 : Int32)
    ·refine gsW (fun _ k => jG X39 hq at_399 ((if0 _ _).trans (teq hc43).2) (ja X39 hq at_402 rfl (jp (pc' := 408) X39 hq at_404 (je X39 hq at_408 (jj rfl) (jp (pc' := 581) X39 hq at_410 k))))) ?_
     have yhc42 : jn < nl := (jg (by omega) (by omega)).mp hc42
     have yhc43 : jn = 0 := (jB (b := 0) (by omega) (by omega)).mp hc43
     have fin : (((jZ (jc nl mL) (jc n1 m1)) ++ [10]).getD jn 0) = mL := by
      unfold jZ; simp only [jC, jv, ju, jD, List.length_append, List.length_replicate, List.length_cons, List.length_nil, jq]
      repeat' split
      all_goals first | rfl | (exfalso; omega)
     exact mid40 mL fin
    ·refine gsW (fun _ k => jI (pc' := 407) X39 hq at_399 ((if0 _ _).trans (feq hc43).2) (jf (v := (0 : Int32)) X39 hq at_407 (je X39 hq at_408 (jj rfl) (jp (pc' := 581) X39 hq at_410 k)))) ?_
     have yhc42 : jn < nl := (jg (by omega) (by omega)).mp hc42
     have yhc43 : ¬ jn = 0 := fun q => hc43 ((jB (b := 0) (by omega) (by omega)).mpr q)
     have fin : (((jZ (jc nl mL) (jc n1 m1)) ++ [10]).getD jn 0) = (0 : Int32) := by
      unfold jZ; simp only [jC, jv, ju, jD, List.length_append, List.length_replicate, List.length_cons, List.length_nil, jq]
      repeat' split
      all_goals first | rfl | (exfalso; omega)
     exact mid40 (0 : Int32) fin
   ·refine gsW (fun _ k => jh (pc' := 413) X39 hq at_394 (flt hc42).2.1 (ja X39 hq at_413 rfl (jf (v := (1 : Int32)) X39 hq at_415 (jm X39 hq at_416 (flt (by decide : ¬ ((1 : Int32) < (1 : Int32)))).1 (ja X39 hq at_419 rfl (ja X39 hq at_421 rfl (ja X39 hq at_423 rfl (jt X39 hq at_425 k)))))))) ?_
    by_cases hc44 : (oI jn) < ((oI nl) + (oI n1))
    ·refine gsW (fun _ k => jm X39 hq at_426 (tlt hc44).2.1 (ja X39 hq at_429 rfl (ja X39 hq at_431 rfl k))) ?_
     by_cases hc45 : (oI jn) = (oI nl)
     ·refine gsW (fun _ k => jm X39 hq at_433 (teq hc45).2 (ja X39 hq at_436 rfl (jp (pc' := 442) X39 hq at_438 (je X39 hq at_442 (jj rfl) (jp (pc' := 581) X39 hq at_444 k))))) ?_
      have yhc42 : ¬ jn < nl := mt (jg (by omega) (by omega)).mpr hc42
      have yhc44 : jn < (nl + n1) := (jg (by omega) (by omega)).mp (by have q := hc44; (try simp only [jd, jk, jl] at q); exact q)
      have yhc45 : jn = nl := (jB (by omega) (by omega)).mp hc45
      have fin : (((jZ (jc nl mL) (jc n1 m1)) ++ [10]).getD jn 0) = m1 := by
       unfold jZ; simp only [jC, jv, ju, jD, List.length_append, List.length_replicate, List.length_cons, List.length_nil, jq]
       repeat' split
       all_goals first | rfl | (exfalso; omega)
      exact mid40 m1 fin
     ·refine gsW (fun _ k => jh (pc' := 441) X39 hq at_433 (feq hc45).2 (jf (v := (0 : Int32)) X39 hq at_441 (je X39 hq at_442 (jj rfl) (jp (pc' := 581) X39 hq at_444 k)))) ?_
      have yhc42 : ¬ jn < nl := mt (jg (by omega) (by omega)).mpr hc42
      have yhc44 : jn < (nl + n1) := (jg (by omega) (by omega)).mp (by have q := hc44; (try simp only [jd, jk, jl] at q); exact q)
      have yhc45 : ¬ jn = nl := mt (jB (by omega) (by omega)).mpr hc45
      have fin : (((jZ (jc nl mL) (jc n1 m1)) ++ [10]).getD jn 0) = (0 : Int32) := by
       unfold jZ; simp only [jC, jv, ju, jD, List.length_append, List.length_replicate, List.length_cons, List.length_nil, jq]
       repeat' split
       all_goals first | rfl | (exfalso; omega)
      exact mid40 (0 : Int32) fin
    ·refine gsW (fun _ k => jh (pc' := 447) X39 hq at_426 (flt hc44).2.1 (ja X39 hq at_447 rfl (jf (v := (2 : Int32)) X39 hq at_449 (jh (pc' := 512) X39 hq at_450 (tlt (by decide : (1 : Int32) < (2 : Int32))).1 (ja X39 hq at_512 rfl (jf (v := (3 : Int32)) X39 hq at_514 (jh (pc' := 577) X39 hq at_515 (tlt (by decide : (1 : Int32) < (3 : Int32))).1 (jz (v := (10 : Int32)) X39 hq at_577 (je X39 hq at_579 (jj rfl) k))))))))) ?_
     have yhc42 : ¬ jn < nl := mt (jg (by omega) (by omega)).mpr hc42
     have yhc44 : ¬ jn < (nl + n1) := fun q => hc44 (by (try simp only [jd, jk, jl]); exact (jg (by omega) (by omega)).mpr q)
     have fin : (((jZ (jc nl mL) (jc n1 m1)) ++ [10]).getD jn 0) = (10 : Int32) := by
      unfold jZ; simp only [jC, jv, ju, jD, List.length_append, List.length_replicate, List.length_cons, List.length_nil, jq]
      repeat' split
      all_goals first | rfl | (exfalso; omega)
     exact mid40 (10 : Int32) fin
  ·by_cases hc46 : (i4 &&& (3 : Int32)) = (2 : Int32)
   ·rw [hc46]
    refine gsW (fun _ k => je X0 hq at_72 (jj rfl) (ja X0 hq at_74 rfl (ja X0 hq at_76 rfl k))) ?_
    refine cSS (rest := []) X0 hx hS hk hZ hown (ow hw 0 rfl) (ow hw 1 rfl) (ow hw 2 rfl) (ow hw 3 rfl) (rm_dw l Z a0 hw [] nl mL z h0 n0 Z0 O0 S0 hz hl0 hm0) (jJ hw) R0.1 hby at_78 e0 pd_957 0 (by rw [hml]; rfl) rfl rfl rfl rfl (by decide) (by decide) fun _ T47 Lc47 X47 hS hZ hown hQ47 rq47 => ?_
    obtain ⟨a47, rfl, N47q, K47q, T47q⟩ := hQ47
    have N47 := Fr.app N0 N47q
    have r48 : CHr Z jo s.vm h0 T47.vm T47.heap := rq47
    have R48 := R0.trans r48
    have Z48 := nt Z0 K47q.1
    have O48 := O0.keep K47q all0
    have K48 := K0.trans K47q all0
    refine gsW (fun _ k => jQ X47 hq at_81 rfl (jj rfl) k) ?_
    obtain ⟨T49, h49, X49, e49, E49, A49, D49, -, st49⟩ := newO X47 hx hZ hown (ow hw 26 rfl) (ow hw 27 rfl) (ow hw 28 rfl) rfl (g := (mkF m 83 #[iv i0, iv i1, iv i2, iv i3, iv i4, iv i5, iv (oI nl), iv (oI n1), iv (oI n2), iv (oI n3), iv mL, iv m1, iv m2, iv m3, iv (2 : Int32), rv a47, uu, uu, uu, uu, uu, uu, uu, uu, uu, uu, uu, uu, uu, uu] [])) rfl (hb hby at_83) (by decide) (by decide)
    obtain ⟨b49, q49⟩ : ∃ z, z = T47.heap.size := ⟨_, rfl⟩
    rw [← q49] at A49 D49 st49
    have g_b49 : n0 ≤ b49 := nt Z48 (Nat.le_of_eq q49.symm)
    have sz_b49 : h0.size ≤ b49 := nt K48.1 (Nat.le_of_eq q49.symm)
    have r50 : CHr Z jo T47.vm T47.heap T47.vm h49 := CHr.ext E49 R48.1
    have R50 := R48.trans r50
    have Z50 := nt Z48 E49.1
    have O50 := O48.ext E49
    have K50 := K48.ext E49
    have F_modCount_b49 : Fld Z h49 b49 "java/util/AbstractList" "modCount" "I" (.int (0 : Int32)) := D49 (Or.inl (ow hw 46 rfl)) (ty := .int) (by decide)
    have F_elementData_b49 : Fld Z h49 b49 "java/util/ArrayList" "elementData" "[Ljava/lang/Object;" .null := D49 (Or.inl (ow hw 49 rfl)) (ty := (.array (.object "java/lang/Object"))) (by decide)
    have F_size_b49 : Fld Z h49 b49 "java/util/ArrayList" "size" "I" (.int (0 : Int32)) := D49 (Or.inl (ow hw 169 rfl)) (ty := .int) (by decide)
    refine gsW (S' := T49.setTop (mkF m 86 #[iv i0, iv i1, iv i2, iv i3, iv i4, iv i5, iv (oI nl), iv (oI n1), iv (oI n2), iv (oI n3), iv mL, iv m1, iv m2, iv m3, iv (2 : Int32), rv a47, uu, uu, uu, uu, uu, uu, uu, uu, uu, uu, uu, uu, uu, uu] [(.ref b49)])) st49 ?_
    refine gsW (fun _ k => jad X49 hq at_86 rfl k) ?_
    refine cIW (rest := [(.ref b49)]) X49 hx hZ hown rfl (ow hw 29 rfl) (ow hw 30 rfl) (ow hw 28 rfl) (ow hw 31 rfl) (rm_ali l Z a0 hw [] b49 de h49 n0 Z50 O50 A49 F_modCount_b49 F_size_b49 F_elementData_b49 g_b49 S_de) hby at_87 e49 pd_276 1 (by rw [hml]; rfl) rfl rfl rfl rfl (by decide) (by decide) fun _ T51 Lc51 X51 hQ51 => ?_
    obtain ⟨rfl, N51q, K51q, F51m, F51s, F51e⟩ := hQ51
    have N51 := Fr.app N47 N51q
    have r52 : CHr Z jo T47.vm h49 T47.vm T51.heap := CHr.keep K51q (sfS (Safe.exa hZ.alike A49 (by decide) (by decide)) sf0) R50.1
    have R52 := R50.trans r52
    have Z52 := nt Z50 K51q.1
    have O52 := O50.keep K51q (allS g_b49 all0)
    have K52 := K50.trans K51q (allS (Or.inr sz_b49) all0)
    refine gsW (fun _ k => jQ X51 hq at_90 rfl (jj rfl) (ja X51 hq at_92 rfl (jf (v := (1 : Int32)) X51 hq at_94 (jm X51 hq at_95 (flt (by decide : ¬ ((2 : Int32) < (1 : Int32)))).1 (jy X51 hq at_98 rfl rfl (ja X51 hq at_100 rfl (ja X51 hq at_102 rfl k))))))) ?_
    have zs54 := nt E49.1 K51q.1
    refine cSS (rest := [(.ref b49)]) X51 hx hS (nt (Nat.le_refl T47.heap.size) zs54) hZ hown (ow hw 0 rfl) (ow hw 1 rfl) (ow hw 2 rfl) (ow hw 3 rfl) (rm_dw l Z a0 hw [] n1 m1 z T51.heap n0 Z52 O52 S0 hz hl1 hm1) (jJ hw) R52.1 hby at_104 rfl pd_957 1 (by rw [hml]; rfl) rfl rfl rfl rfl (by decide) (by decide) fun _ T53 Lc53 X53 hS hZ hown hQ53 rq53 => ?_
    obtain ⟨a53, rfl, N53q, K53q, T53q⟩ := hQ53
    have N53 := Fr.app N51 N53q
    have r55 : CHr Z jo T47.vm T51.heap T53.vm T53.heap := rq53
    have R55 := R52.trans r55
    have Z55 := nt Z52 K53q.1
    have O55 := O52.keep K53q all0
    have K55 := K52.trans K53q all0
    have f56 := ((A49.keep K51q).keep K53q)
    have f57 := (F51m.keep K53q nin0)
    have f58 := (F51s.keep K53q nin0)
    have f59 := (F51e.keep K53q nin0)
    obtain ⟨cq60, kq60, q60a, q60b, q60c⟩ := isOf hZ rfl f56
    obtain ⟨_, _, ⟨T60, L60, k60, n60⟩, -, X60, ⟨Lc60, hQ60, l60, y60, z60⟩, st60⟩ := X53.interfaceBack hx (xi := my6) (y := my3) hown (mvT hZ (ow hw 270 rfl)) (mvT hZ (ow hw 271 rfl)) (mvT hZ (ow hw 272 rfl)) (mvT hZ (ow hw 273 rfl)) (mvT hZ (ow hw 274 rfl)) (mvT hZ (ow hw 275 rfl)) (mvT hZ (ow hw 276 rfl)) (mvT hZ (ow hw 139 rfl)) (by decide) (backC (W := 0) (rm_add0 l Z a0 hw [] b49 de kd a53 T53.heap n0 Z55 O55 f56 f57 f58 f59 g_b49 T53q.exa S_de (V_de.ext O55.2)) hZ (ow hw 277 rfl) (ow hw 28 rfl) (by decide) (by decide)) q60a q60b q60c (g := (mkF m 107 #[iv i0, iv i1, iv i2, iv i3, iv i4, iv i5, iv (oI nl), iv (oI n1), iv (oI n2), iv (oI n3), iv mL, iv m1, iv m2, iv m3, iv (2 : Int32), rv a47, rv b49, uu, uu, uu, uu, uu, uu, uu, uu, uu, uu, uu, uu, uu] [(.ref a53), (.ref b49)])) rfl (by rw [hml]; rfl) (Steps.refl _) (argsL := [(.ref a53)]) (rest := []) (lenOf pd_960 rfl) rfl (jL rfl) (hb hby at_107) (fun _ _ => ⟨rfl, rfl, (by decide : 13 + 1 ≤ _), (by decide : 519 + 10 ≤ _)⟩)
    dsimp only [Pt.U, Pt.locs, Pt.cells, Pt.slots] at X60 l60 y60 z60 st60 hQ60
    subst l60 y60 z60
    obtain ⟨t60, kb60, rfl, N60q, K60q, g60t, Ov60q, V60q, F60m, F60s, F60e⟩ := hQ60
    have N60 := Fr.app N53 N60q
    have g_t60 : n0 ≤ t60 := nt Z55 g60t
    have sz_t60 : h0.size ≤ t60 := nt K55.1 g60t
    have r61 : CHr Z jo T53.vm T53.heap T53.vm T60.heap := CHr.keep K60q (sfS (Safe.exa hZ.alike f56 (by decide) (by decide)) sf0) R55.1
    have R61 := R55.trans r61
    have Z61 := nt Z55 K60q.1
    have O61 := O55.keep K60q (allS g_b49 all0)
    have K61 := K55.trans K60q (allS (Or.inr sz_b49) all0)
    refine gsW (S' := T60.setTop (mkF m 112 #[iv i0, iv i1, iv i2, iv i3, iv i4, iv i5, iv (oI nl), iv (oI n1), iv (oI n2), iv (oI n3), iv mL, iv m1, iv m2, iv m3, iv (2 : Int32), rv a47, rv b49, uu, uu, uu, uu, uu, uu, uu, uu, uu, uu, uu, uu, uu] [(.int (1 : Int32))])) (fun _ k => st60.trans k) ?_
    refine gsW (fun _ k => jW X60 hq at_112 rfl (ja X60 hq at_113 rfl (jf (v := (2 : Int32)) X60 hq at_115 (jm X60 hq at_116 (flt (by decide : ¬ ((2 : Int32) < (2 : Int32)))).1 (jy X60 hq at_119 rfl rfl (ja X60 hq at_121 rfl (ja X60 hq at_123 rfl k))))))) ?_
    refine cSS (rest := [(.ref b49)]) X60 hx hS (nt (Nat.le_refl T53.heap.size) K60q.1) hZ hown (ow hw 0 rfl) (ow hw 1 rfl) (ow hw 2 rfl) (ow hw 3 rfl) (rm_dw l Z a0 hw [] n2 m2 z T60.heap n0 Z61 O61 S0 hz hl2 hm2) (jJ hw) R61.1 hby at_125 rfl pd_957 1 (by rw [hml]; rfl) rfl rfl rfl rfl (by decide) (by decide) fun _ T62 Lc62 X62 hS hZ hown hQ62 rq62 => ?_
    obtain ⟨a62, rfl, N62q, K62q, T62q⟩ := hQ62
    have N62 := Fr.app N60 N62q
    have r63 : CHr Z jo T53.vm T60.heap T62.vm T62.heap := rq62
    have R63 := R61.trans r63
    have Z63 := nt Z61 K62q.1
    have O63 := O61.keep K62q all0
    have K63 := K61.trans K62q all0
    have f64 := (V60q.keep K62q nin0)
    have f65 := ((f56.keep K60q).keep K62q)
    have f66 := (((((T47q.ext E49).keepE K51q A49 (by decide) (ow hw 27 rfl)).keep0 K53q).keepE K60q ((A49.keep K51q).keep K53q) (by decide) (ow hw 27 rfl)).keep0 K62q)
    have f67 := ((T53q.keepE K60q ((A49.keep K51q).keep K53q) (by decide) (ow hw 27 rfl)).keep0 K62q)
    have f68 := (F60m.keep K62q nin0)
    have f69 := (F60s.keep K62q nin0)
    have f70 := (F60e.keep K62q nin0)
    obtain ⟨cq71, kq71, q71a, q71b, q71c⟩ := isOf hZ rfl f65
    obtain ⟨_, _, ⟨T71, L71, k71, n71⟩, -, X71, ⟨Lc71, hQ71, l71, y71, z71⟩, st71⟩ := X62.interfaceBack hx (xi := my6) (y := my3) hown (mvT hZ (ow hw 270 rfl)) (mvT hZ (ow hw 271 rfl)) (mvT hZ (ow hw 272 rfl)) (mvT hZ (ow hw 273 rfl)) (mvT hZ (ow hw 274 rfl)) (mvT hZ (ow hw 275 rfl)) (mvT hZ (ow hw 276 rfl)) (mvT hZ (ow hw 139 rfl)) (by decide) (backC (W := 0) (rm_add1 l Z a0 hw [] b49 t60 kb60 a53 a62 T62.heap n0 Z63 O63 f65 f68 f69 f70 g_b49 T62q.exa f64 Ov60q g_t60) hZ (ow hw 277 rfl) (ow hw 28 rfl) (by decide) (by decide)) q71a q71b q71c (g := (mkF m 128 #[iv i0, iv i1, iv i2, iv i3, iv i4, iv i5, iv (oI nl), iv (oI n1), iv (oI n2), iv (oI n3), iv mL, iv m1, iv m2, iv m3, iv (2 : Int32), rv a47, rv b49, uu, uu, uu, uu, uu, uu, uu, uu, uu, uu, uu, uu, uu] [(.ref a62), (.ref b49)])) rfl (by rw [hml]; rfl) (Steps.refl _) (argsL := [(.ref a62)]) (rest := []) (lenOf pd_960 rfl) rfl (jL rfl) (hb hby at_128) (fun _ _ => ⟨rfl, rfl, (by decide : 20 + 0 ≤ _), (by decide : 787 + 0 ≤ _)⟩)
    dsimp only [Pt.U, Pt.locs, Pt.cells, Pt.slots] at X71 l71 y71 z71 st71 hQ71
    subst l71 y71 z71
    obtain ⟨rfl, N71q, K71q, V71q, F71m, F71s, F71e⟩ := hQ71
    have N71 := Fr.app N62 N71q
    have r72 : CHr Z jo T62.vm T62.heap T62.vm T71.heap := CHr.keep K71q (sfS (Safe.exa hZ.alike f65 (by decide) (by decide)) (sfS (Safe.arv hZ.alike f64 (by decide)) sf0)) R63.1
    have R72 := R63.trans r72
    have Z72 := nt Z63 K71q.1
    have O72 := O63.keep K71q (allS g_b49 (allS g_t60 all0))
    have K72 := K63.trans K71q (allS (Or.inr sz_b49) (allS (Or.inr sz_t60) all0))
    have Tk71_0 := f66.keepAO K71q f65 (by decide) (ow hw 27 rfl) f64 (ow hw 6 rfl)
    have Tk71_1 := f67.keepAO K71q f65 (by decide) (ow hw 27 rfl) f64 (ow hw 6 rfl)
    have Tk71_2 := T62q.keepAO K71q f65 (by decide) (ow hw 27 rfl) f64 (ow hw 6 rfl)
    refine gsW (S' := T71.setTop (mkF m 133 #[iv i0, iv i1, iv i2, iv i3, iv i4, iv i5, iv (oI nl), iv (oI n1), iv (oI n2), iv (oI n3), iv mL, iv m1, iv m2, iv m3, iv (2 : Int32), rv a47, rv b49, uu, uu, uu, uu, uu, uu, uu, uu, uu, uu, uu, uu, uu] [(.int (1 : Int32))])) (fun _ k => st71.trans k) ?_
    refine gsW (fun _ k => jW X71 hq at_133 rfl (ja X71 hq at_134 rfl (jf (v := (3 : Int32)) X71 hq at_136 (jh (pc' := 155) X71 hq at_137 (tlt (by decide : (2 : Int32) < (3 : Int32))).1 (jy X71 hq at_155 rfl rfl (jy X71 hq at_157 rfl rfl k)))))) ?_
    have f73 := (f65.keep K71q)
    refine cSS (rest := []) X71 hx hS (nt (Nat.le_refl T62.heap.size) K71q.1) hZ hown (ow hw 50 rfl) (ow hw 51 rfl) (ow hw 52 rfl) (ow hw 53 rfl) (rm_wrap2 l Z a0 hw [] a47 (jc nl mL) b49 t60 kb60 a53 a62 (jc n1 m1) (jc n2 m2) z T71.heap n0 Z72 O72 S0 hz f73 F71m F71s F71e V71q Tk71_0 (jK hm0) (by rw [jq]; exact hl0) Tk71_1 (jK hm1) (by rw [jq]; exact hl1) Tk71_2 (jK hm2) (by rw [jq]; exact hl2)) (jJ hw) R72.1 hby at_159 rfl pd_958 0 (by rw [hml]; rfl) rfl rfl rfl rfl (by decide) (by decide) fun _ T74 Lc74 X74 hS hZ hown hQ74 rq74 => ?_
    obtain ⟨a74, rfl, N74q, K74q, T74q⟩ := hQ74
    have N74 := Fr.app N71 N74q
    have r75 : CHr Z jo T62.vm T71.heap T74.vm T74.heap := rq74
    have R75 := R72.trans r75
    have Z75 := nt Z72 K74q.1
    have O75 := O72.keep K74q all0
    have K75 := K72.trans K74q all0
    refine gsW (fun _ k => jQ X74 hq at_162 rfl (jj rfl) (ja X74 hq at_164 rfl (je X74 hq at_166 (jj rfl) (ja X74 hq at_168 rfl (je X74 hq at_170 (jj rfl) k))))) ?_
    refine gsW (S' := T74.setTop (mkF m 172 #[iv i0, iv i1, iv i2, iv i3, iv i4, iv i5, iv (oI nl), iv (oI n1), iv (oI n2), iv (oI n3), iv mL, iv m1, iv m2, iv m3, iv (2 : Int32), rv a47, rv b49, rv a74, iv (oI nl), iv (oI nl), uu, uu, uu, uu, uu, uu, uu, uu, uu, uu] [])) (fun _ k => k) ?_
    refine gsW (fun _ k => ja X74 hq at_172 rfl (je X74 hq at_174 (jj rfl) (ja X74 hq at_176 rfl (jf (v := (1 : Int32)) X74 hq at_178 (jm X74 hq at_179 (flt (by decide : ¬ ((2 : Int32) < (1 : Int32)))).1 (ja X74 hq at_182 rfl (ja X74 hq at_184 rfl (jt X74 hq at_186 (je X74 hq at_187 (jF rfl rfl) (ja X74 hq at_189 rfl (ja X74 hq at_191 rfl (jt X74 hq at_193 (je X74 hq at_194 (jF rfl rfl) (jf (v := (0 : Int32)) X74 hq at_196 (je X74 hq at_197 (jj rfl) (ja X74 hq at_199 rfl (je X74 hq at_201 (jj rfl) (ja X74 hq at_203 rfl (je X74 hq at_205 (jj rfl) (ja X74 hq at_207 rfl (jf (v := (2 : Int32)) X74 hq at_209 (jm X74 hq at_210 (flt (by decide : ¬ ((2 : Int32) < (2 : Int32)))).1 (ja X74 hq at_213 rfl (jf (v := (1 : Int32)) X74 hq at_215 (jt X74 hq at_216 (ja X74 hq at_217 rfl (jt X74 hq at_219 (jz (v := (80 : Int32)) X74 hq at_220 k)))))))))))))))))))))))))))) ?_
    by_cases hc76 : (80 : Int32) < ((((oI nl) + (oI n1)) + (1 : Int32)) + (oI n2))
    ·refine gsW (fun _ k => jm X74 hq at_222 (tlt hc76).2.2.2 (jf (v := (1 : Int32)) X74 hq at_225 (jp (pc' := 230) X74 hq at_226 (je X74 hq at_230 (jF rfl rfl) k)))) ?_
     refine gsW (S' := T74.setTop (mkF m 232 #[iv i0, iv i1, iv i2, iv i3, iv i4, iv i5, iv (oI nl), iv (oI n1), iv (oI n2), iv (oI n3), iv mL, iv m1, iv m2, iv m3, iv (2 : Int32), rv a47, rv b49, rv a74, iv (((oI nl) + (oI n1))), iv (((oI nl) + (oI n1))), iv (oI nl), iv (1 : Int32), iv (((oI nl) + (oI n1))), iv (((oI nl) + (oI n1))), uu, uu, uu, uu, uu, uu] [])) (fun _ k => k) ?_
     refine gsW (fun _ k => ja X74 hq at_232 rfl (ja X74 hq at_234 rfl (jG X74 hq at_236 ((if0 _ _).trans (feq (by decide : ¬ ((1 : Int32) = (0 : Int32)))).1) (jf (v := (1 : Int32)) X74 hq at_239 (ja X74 hq at_240 rfl (jt X74 hq at_242 (jp (pc' := 247) X74 hq at_243 (jt X74 hq at_247 (je X74 hq at_248 (jF rfl rfl) (ja X74 hq at_250 rfl (ja X74 hq at_252 rfl (jt X74 hq at_254 (je X74 hq at_255 (jF rfl rfl) (ja X74 hq at_257 rfl (jG X74 hq at_259 ((if0 _ _).trans (feq (by decide : ¬ ((1 : Int32) = (0 : Int32)))).1) (ja X74 hq at_262 rfl (ja X74 hq at_264 rfl (jt X74 hq at_266 (jp (pc' := 277) X74 hq at_267 (je X74 hq at_277 (jF rfl rfl) (jf (v := (0 : Int32)) X74 hq at_279 (je X74 hq at_280 (jj rfl) (ja X74 hq at_282 rfl (je X74 hq at_284 (jj rfl) (ja X74 hq at_286 rfl (je X74 hq at_288 (jj rfl) (ja X74 hq at_290 rfl (jf (v := (3 : Int32)) X74 hq at_292 (jh (pc' := 362) X74 hq at_293 (tlt (by decide : (2 : Int32) < (3 : Int32))).1 (ja X74 hq at_362 rfl (jf (v := (1 : Int32)) X74 hq at_364 (jt X74 hq at_365 k)))))))))))))))))))))))))))))))) ?_
     have y2 : 80 < (((nl + n1) + 1) + n2) := (jg (a := 80) (by omega) (by omega)).mp (by have q := hc76; (try simp only [jd, jk, jl] at q); exact q)
     have d2 : jaa (jc nl mL) (jc n1 m1) (jc n2 m2) := by unfold jaa; simp only [jq]; exact y2
     have hln : ((js (jc nl mL) (jc n1 m1) (jc n2 m2)) ++ [10]).length = ((((nl + n1) + (1 + nl)) + n2) + 1) := by unfold js; rw [if_pos d2]; simp only [List.length_append, List.length_replicate, List.length_cons, List.length_nil, jq] <;> omega
     have hl4 : ((js (jc nl mL) (jc n1 m1) (jc n2 m2)) ++ [10]).length ≤ 4000 := by omega
     have et : (((((oI nl) + (oI n1)) + ((1 : Int32) + (oI nl))) + (oI n2)) + (1 : Int32)) = oI (((((nl + n1) + (1 + nl)) + n2) + 1)) := by simp only [jd, jk, jl]
     rw [et]
     refine gsW (fun _ k => je X74 hq at_366 (jj rfl) k) ?_
     refine gsW (S' := T74.setTop (mkF m 368 #[iv i0, iv i1, iv i2, iv i3, iv i4, iv i5, iv (oI nl), iv (oI n1), iv (oI n2), iv (oI n3), iv mL, iv m1, iv m2, iv m3, iv (2 : Int32), rv a47, rv b49, rv a74, iv (((oI nl) + (oI n2))), iv (((((oI nl) + (oI n1)) + ((1 : Int32) + (oI nl))) + (oI n2))), iv (oI nl), iv (1 : Int32), iv (((oI nl) + (oI n1))), iv ((((oI nl) + (oI n1)) + ((1 : Int32) + (oI nl)))), iv (0 : Int32), iv (((((oI nl) + (oI n1)) + ((1 : Int32) + (oI nl))) + (oI n2))), iv (((((oI nl) + (oI n1)) + ((1 : Int32) + (oI nl))) + (oI n2))), iv ((oI (((((nl + n1) + (1 + nl)) + n2) + 1)))), uu, uu] [])) (fun _ k => k) ?_
     refine gsW (fun _ k => jy X74 hq at_368 rfl rfl k) ?_
     refine cVW (rest := []) X74 hx hZ hown (ow hw 229 rfl) (ow hw 56 rfl) (nfs hZ (ow hw 58 rfl)) (ow hw 58 rfl) (ow hw 57 rfl) (ow hw 7 rfl) (ow hw 59 rfl) (rm_lenL l Z a0 hw [] a74 ((js (jc nl mL) (jc n1 m1) (jc n2 m2)) ++ [10]) z T74.heap n0 Z75 O75 T74q S0 hz) hby at_370 rfl pd_644 0 (by rw [hml]; rfl) T74q.exa rfl rfl rfl rfl (by decide) (by decide) fun _ T77 Lc77 X77 hQ77 => ?_
     obtain ⟨rfl, N77q, e77q⟩ := hQ77
     have N77 := Fr.app N74 N77q
     refine gsW (fun _ k => ja X77 hq at_373 rfl (jh (pc' := 380) X77 hq at_375 (teq (by rw [hln])).1 (ja X77 hq at_380 rfl (jac X77 hq hown (mvT hZ (ow hw 230 rfl)) at_382 (jab X77 hq at_384 (ja X77 hq at_385 rfl (Jvm.RoadKit.iremM X77 hx (g := (mkF m 387 #[iv i0, iv i1, iv i2, iv i3, iv i4, iv i5, iv (oI nl), iv (oI n1), iv (oI n2), iv (oI n3), iv mL, iv m1, iv m2, iv m3, iv (2 : Int32), rv a47, rv b49, rv a74, iv (((oI nl) + (oI n2))), iv (((((oI nl) + (oI n1)) + ((1 : Int32) + (oI nl))) + (oI n2))), iv (oI nl), iv (1 : Int32), iv (((oI nl) + (oI n1))), iv ((((oI nl) + (oI n1)) + ((1 : Int32) + (oI nl)))), iv (0 : Int32), iv (((((oI nl) + (oI n1)) + ((1 : Int32) + (oI nl))) + (oI n2))), iv (((((oI nl) + (oI n1)) + ((1 : Int32) + (oI nl))) + (oI n2))), iv ((oI (((((nl + n1) + (1 + nl)) + n2) + 1)))), uu, uu] [(.int (oI (((((nl + n1) + (1 + nl)) + n2) + 1)))), (.int (i5 &&& (2147483647 : Int32)))])) rfl (hb hby at_387) rfl (jaf (b := 0) (by omega) (by omega) (by omega)) k))))))) ?_
     obtain ⟨jn, ej, hj⟩ := own_rem (x := i5) (t := ((((nl + n1) + (1 + nl)) + n2) + 1)) (by omega) (by omega)
     rw [ej]
     refine gsW (fun _ k => je X77 hq at_388 (jj rfl) k) ?_
     have mid78 : ∀ e_78 : Int32, ((((js (jc nl mL) (jc n1 m1) (jc n2 m2)) ++ [10]).getD jn 0) = e_78) → OwnGoW p e below s Z jo (fun v h L => v = some (.int 1) ∧ Fr n0 L) room_1.cells room_1.slots (T77.setTop (mkF m 581 #[iv i0, iv i1, iv i2, iv i3, iv i4, iv i5, iv (oI nl), iv (oI n1), iv (oI n2), iv (oI n3), iv mL, iv m1, iv m2, iv m3, iv (2 : Int32), rv a47, rv b49, rv a74, iv (((oI nl) + (oI n2))), iv (((((oI nl) + (oI n1)) + ((1 : Int32) + (oI nl))) + (oI n2))), iv (oI nl), iv (1 : Int32), iv (((oI nl) + (oI n1))), iv ((((oI nl) + (oI n1)) + ((1 : Int32) + (oI nl)))), iv (0 : Int32), iv (((((oI nl) + (oI n1)) + ((1 : Int32) + (oI nl))) + (oI n2))), iv (((((oI nl) + (oI n1)) + ((1 : Int32) + (oI nl))) + (oI n2))), iv ((oI (((((nl + n1) + (1 + nl)) + n2) + 1)))), iv (oI jn), iv e_78] [])) := by
      intro e_78 hfin
      refine gsW (fun _ k => jy X77 hq at_581 rfl rfl (ja X77 hq at_583 rfl k)) ?_
      refine cVW (rest := []) X77 hx hZ hown (ow hw 231 rfl) (ow hw 232 rfl) (nfs hZ (ow hw 234 rfl)) (ow hw 234 rfl) (ow hw 233 rfl) (ow hw 7 rfl) (ow hw 235 rfl) (rm_chL l Z a0 hw [] a74 ((js (jc nl mL) (jc n1 m1) (jc n2 m2)) ++ [10]) jn (oI jn) z fm T74.heap n0 Z75 O75 T74q (jU (own_w2b (jK hm0) (jK hm1) (jK hm2)) (by decide)) (by rw [hln]; exact hj) hl4 rfl S0 hz S4 hfm) hby at_585 e77q pd_959 0 (by rw [hml]; rfl) T74q.exa rfl rfl rfl rfl (by decide) (by decide) fun _ T79 Lc79 X79 hQ79 => ?_
      obtain ⟨rfl, N79q, e79q⟩ := hQ79
      have N79 := Fr.app N77 N79q
      refine gsW (fun _ k => ja X79 hq at_588 rfl (jm X79 hq at_590 (teq hfin).2 (jf (v := (1 : Int32)) X79 hq at_593 (jp (pc' := 598) X79 hq at_594 k)))) ?_
      refine goutW (v := some (.int (1 : Int32))) X79 hS (Nat.le_refl T74.heap.size) hZ (jJ hw) hh e79q R75 Bd.notSynchronized (jA Bd.returns) (by decide) (by decide) ?_ (fun fs hr => retN X79 hx (t := .boolean) Bd.returns (by simp) (hb hby at_598) hr)
      exact ⟨rfl, N79⟩
     refine gsW (fun _ k => ja X77 hq at_390 rfl (ja X77 hq at_392 rfl k)) ?_
     by_cases hc80 : (oI jn) < (oI nl)
     ·refine gsW (fun _ k => jm X77 hq at_394 (tlt hc80).2.1 (ja X77 hq at_397 rfl k)) ?_
      by_cases hc81 : (oI jn) = (0 : Int32)
      ·refine gsW (fun _ k => jG X77 hq at_399 ((if0 _ _).trans (teq hc81).2) (ja X77 hq at_402 rfl (jp (pc' := 408) X77 hq at_404 (je X77 hq at_408 (jj rfl) (jp (pc' := 581) X77 hq at_410 k))))) ?_
       have yhc80 : jn < nl := (jg (by omega) (by omega)).mp hc80
       have yhc81 : jn = 0 := (jB (b := 0) (by omega) (by omega)).mp hc81
       have fin : (((js (jc nl mL) (jc n1 m1) (jc n2 m2)) ++ [10]).getD jn 0) = mL := by
        unfold js; rw [if_pos d2]; simp only [jC, jv, ju, jD, List.length_append, List.length_replicate, List.length_cons, List.length_nil, jq]
        repeat' split
        all_goals first | rfl | (exfalso; omega)
       exact mid78 mL fin
      ·refine gsW (fun _ k => jI (pc' := 407) X77 hq at_399 ((if0 _ _).trans (feq hc81).2) (jf (v := (0 : Int32)) X77 hq at_407 (je X77 hq at_408 (jj rfl) (jp (pc' := 581) X77 hq at_410 k)))) ?_
       have yhc80 : jn < nl := (jg (by omega) (by omega)).mp hc80
       have yhc81 : ¬ jn = 0 := fun q => hc81 ((jB (b := 0) (by omega) (by omega)).mpr q)
       have fin : (((js (jc nl mL) (jc n1 m1) (jc n2 m2)) ++ [10]).getD jn 0) = (0 : Int32) := by
        unfold js; rw [if_pos d2]; simp only [jC, jv, ju, jD, List.length_append, List.length_replicate, List.length_cons, List.length_nil, jq]
        repeat' split
        all_goals first | rfl | (exfalso; omega)
       exact mid78 (0 : Int32) fin
     ·refine gsW (fun _ k => jh (pc' := 413) X77 hq at_394 (flt hc80).2.1 (ja X77 hq at_413 rfl (jf (v := (1 : Int32)) X77 hq at_415 (jm X77 hq at_416 (flt (by decide : ¬ ((2 : Int32) < (1 : Int32)))).1 (ja X77 hq at_419 rfl (ja X77 hq at_421 rfl (ja X77 hq at_423 rfl (jt X77 hq at_425 k)))))))) ?_
      by_cases hc82 : (oI jn) < ((oI nl) + (oI n1))
      ·refine gsW (fun _ k => jm X77 hq at_426 (tlt hc82).2.1 (ja X77 hq at_429 rfl (ja X77 hq at_431 rfl k))) ?_
       by_cases hc83 : (oI jn) = (oI nl)
       ·refine gsW (fun _ k => jm X77 hq at_433 (teq hc83).2 (ja X77 hq at_436 rfl (jp (pc' := 442) X77 hq at_438 (je X77 hq at_442 (jj rfl) (jp (pc' := 581) X77 hq at_444 k))))) ?_
        have yhc80 : ¬ jn < nl := mt (jg (by omega) (by omega)).mpr hc80
        have yhc82 : jn < (nl + n1) := (jg (by omega) (by omega)).mp (by have q := hc82; (try simp only [jd, jk, jl] at q); exact q)
        have yhc83 : jn = nl := (jB (by omega) (by omega)).mp hc83
        have fin : (((js (jc nl mL) (jc n1 m1) (jc n2 m2)) ++ [10]).getD jn 0) = m1 := by
         unfold js; rw [if_pos d2]; simp only [jC, jv, ju, jD, List.length_append, List.length_replicate, List.length_cons, List.length_nil, jq]
         repeat' split
         all_goals first | rfl | (exfalso; omega)
        exact mid78 m1 fin
       ·refine gsW (fun _ k => jh (pc' := 441) X77 hq at_433 (feq hc83).2 (jf (v := (0 : Int32)) X77 hq at_441 (je X77 hq at_442 (jj rfl) (jp (pc' := 581) X77 hq at_444 k)))) ?_
        have yhc80 : ¬ jn < nl := mt (jg (by omega) (by omega)).mpr hc80
        have yhc82 : jn < (nl + n1) := (jg (by omega) (by omega)).mp (by have q := hc82; (try simp only [jd, jk, jl] at q); exact q)
        have yhc83 : ¬ jn = nl := mt (jB (by omega) (by omega)).mpr hc83
        have fin : (((js (jc nl mL) (jc n1 m1) (jc n2 m2)) ++ [10]).getD jn 0) = (0 : Int32) := by
         unfold js; rw [if_pos d2]; simp only [jC, jv, ju, jD, List.length_append, List.length_replicate, List.length_cons, List.length_nil, jq]
         repeat' split
         all_goals first | rfl | (exfalso; omega)
        exact mid78 (0 : Int32) fin
      ·refine gsW (fun _ k => jh (pc' := 447) X77 hq at_426 (flt hc82).2.1 (ja X77 hq at_447 rfl (jf (v := (2 : Int32)) X77 hq at_449 (jm X77 hq at_450 (flt (by decide : ¬ ((2 : Int32) < (2 : Int32)))).1 (ja X77 hq at_453 rfl (ja X77 hq at_455 rfl (ja X77 hq at_457 rfl (jt X77 hq at_459 k)))))))) ?_
       by_cases hc84 : (oI jn) < ((((oI nl) + (oI n1)) + ((1 : Int32) + (oI nl))) + (oI n2))
       ·refine gsW (fun _ k => jm X77 hq at_460 (tlt hc84).2.1 (ja X77 hq at_463 rfl (ja X77 hq at_465 rfl k))) ?_
        by_cases hc85 : (oI jn) < (((oI nl) + (oI n1)) + ((1 : Int32) + (oI nl)))
        ·refine gsW (fun _ k => jm X77 hq at_467 (tlt hc85).2.1 (ja X77 hq at_470 rfl (jG X77 hq at_472 ((if0 _ _).trans (feq (by decide : ¬ ((1 : Int32) = (0 : Int32)))).1) (ja X77 hq at_475 rfl (ja X77 hq at_477 rfl k))))) ?_
         by_cases hc86 : (oI jn) = ((oI nl) + (oI n1))
         ·refine gsW (fun _ k => jm X77 hq at_479 (teq hc86).2 (jz (v := (10 : Int32)) X77 hq at_482 (jp (pc' := 489) X77 hq at_484 (je X77 hq at_489 (jj rfl) (jp (pc' := 581) X77 hq at_491 k))))) ?_
          have yhc80 : ¬ jn < nl := mt (jg (by omega) (by omega)).mpr hc80
          have yhc82 : ¬ jn < (nl + n1) := fun q => hc82 (by (try simp only [jd, jk, jl]); exact (jg (by omega) (by omega)).mpr q)
          have yhc84 : jn < (((nl + n1) + (1 + nl)) + n2) := (jg (by omega) (by omega)).mp (by have q := hc84; (try simp only [jd, jk, jl] at q); exact q)
          have yhc85 : jn < ((nl + n1) + (1 + nl)) := (jg (by omega) (by omega)).mp (by have q := hc85; (try simp only [jd, jk, jl] at q); exact q)
          have yhc86 : jn = (nl + n1) := (jB (by omega) (by omega)).mp (by have q := hc86; (try simp only [jd, jk, jl] at q); exact q)
          have fin : (((js (jc nl mL) (jc n1 m1) (jc n2 m2)) ++ [10]).getD jn 0) = (10 : Int32) := by
           unfold js; rw [if_pos d2]; simp only [jC, jv, ju, jD, List.length_append, List.length_replicate, List.length_cons, List.length_nil, jq]
           repeat' split
           all_goals first | rfl | (exfalso; omega)
          exact mid78 (10 : Int32) fin
         ·refine gsW (fun _ k => jh (pc' := 487) X77 hq at_479 (feq hc86).2 (jz (v := (32 : Int32)) X77 hq at_487 (je X77 hq at_489 (jj rfl) (jp (pc' := 581) X77 hq at_491 k)))) ?_
          have yhc80 : ¬ jn < nl := mt (jg (by omega) (by omega)).mpr hc80
          have yhc82 : ¬ jn < (nl + n1) := fun q => hc82 (by (try simp only [jd, jk, jl]); exact (jg (by omega) (by omega)).mpr q)
          have yhc84 : jn < (((nl + n1) + (1 + nl)) + n2) := (jg (by omega) (by omega)).mp (by have q := hc84; (try simp only [jd, jk, jl] at q); exact q)
          have yhc85 : jn < ((nl + n1) + (1 + nl)) := (jg (by omega) (by omega)).mp (by have q := hc85; (try simp only [jd, jk, jl] at q); exact q)
          have yhc86 : ¬ jn = (nl + n1) := fun q => hc86 (by (try simp only [jd, jk, jl]); exact (jB (by omega) (by omega)).mpr q)
          have fin : (((js (jc nl mL) (jc n1 m1) (jc n2 m2)) ++ [10]).getD jn 0) = (32 : Int32) := by
           unfold js; rw [if_pos d2]; simp only [jC, jv, ju, jD, List.length_append, List.length_replicate, List.length_cons, List.length_nil, jq]
           repeat' split
           all_goals first | rfl | (exfalso; omega)
          exact mid78 (32 : Int32) fin
        ·refine gsW (fun _ k => jh (pc' := 494) X77 hq at_467 (flt hc85).2.1 (ja X77 hq at_494 rfl (ja X77 hq at_496 rfl k))) ?_
         by_cases hc87 : (oI jn) = (((oI nl) + (oI n1)) + ((1 : Int32) + (oI nl)))
         ·refine gsW (fun _ k => jm X77 hq at_498 (teq hc87).2 (ja X77 hq at_501 rfl (jp (pc' := 507) X77 hq at_503 (je X77 hq at_507 (jj rfl) (jp (pc' := 581) X77 hq at_509 k))))) ?_
          have yhc80 : ¬ jn < nl := mt (jg (by omega) (by omega)).mpr hc80
          have yhc82 : ¬ jn < (nl + n1) := fun q => hc82 (by (try simp only [jd, jk, jl]); exact (jg (by omega) (by omega)).mpr q)
          have yhc84 : jn < (((nl + n1) + (1 + nl)) + n2) := (jg (by omega) (by omega)).mp (by have q := hc84; (try simp only [jd, jk, jl] at q); exact q)
          have yhc85 : ¬ jn < ((nl + n1) + (1 + nl)) := fun q => hc85 (by (try simp only [jd, jk, jl]); exact (jg (by omega) (by omega)).mpr q)
          have yhc87 : jn = ((nl + n1) + (1 + nl)) := (jB (by omega) (by omega)).mp (by have q := hc87; (try simp only [jd, jk, jl] at q); exact q)
          have fin : (((js (jc nl mL) (jc n1 m1) (jc n2 m2)) ++ [10]).getD jn 0) = m2 := by
           unfold js; rw [if_pos d2]; simp only [jC, jv, ju, jD, List.length_append, List.length_replicate, List.length_cons, List.length_nil, jq]
           repeat' split
           all_goals first | rfl | (exfalso; omega)
          exact mid78 m2 fin
         ·refine gsW (fun _ k => jh (pc' := 506) X77 hq at_498 (feq hc87).2 (jf (v := (0 : Int32)) X77 hq at_506 (je X77 hq at_507 (jj rfl) (jp (pc' := 581) X77 hq at_509 k)))) ?_
          have yhc80 : ¬ jn < nl := mt (jg (by omega) (by omega)).mpr hc80
          have yhc82 : ¬ jn < (nl + n1) := fun q => hc82 (by (try simp only [jd, jk, jl]); exact (jg (by omega) (by omega)).mpr q)
          have yhc84 : jn < (((nl + n1) + (1 + nl)) + n2) := (jg (by omega) (by omega)).mp (by have q := hc84; (try simp only [jd, jk, jl] at q); exact q)
          have yhc85 : ¬ jn < ((nl + n1) + (1 + nl)) := fun q => hc85 (by (try simp only [jd, jk, jl]); exact (jg (by omega) (by omega)).mpr q)
          have yhc87 : ¬ jn = ((nl + n1) + (1 + nl)) := fun q => hc87 (by (try simp only [jd, jk, jl]); exact (jB (by omega) (by omega)).mpr q)
          have fin : (((js (jc nl mL) (jc n1 m1) (jc n2 m2)) ++ [10]).getD jn 0) = (0 : Int32) := by
           unfold js; rw [if_pos d2]; simp only [jC, jv, ju, jD, List.length_append, List.length_replicate, List.length_cons, List.length_nil, jq]
           repeat' split
           all_goals first | rfl | (exfalso; omega)
          exact mid78 (0 : Int32) fin
       ·refine gsW (fun _ k => jh (pc' := 512) X77 hq at_460 (flt hc84).2.1 (ja X77 hq at_512 rfl (jf (v := (3 : Int32)) X77 hq at_514 (jh (pc' := 577) X77 hq at_515 (tlt (by decide : (2 : Int32) < (3 : Int32))).1 (jz (v := (10 : Int32)) X77 hq at_577 (je X77 hq at_579 (jj rfl) k)))))) ?_
        have yhc80 : ¬ jn < nl := mt (jg (by omega) (by omega)).mpr hc80
        have yhc82 : ¬ jn < (nl + n1) := fun q => hc82 (by (try simp only [jd, jk, jl]); exact (jg (by omega) (by omega)).mpr q)
        have yhc84 : ¬ jn < (((nl + n1) + (1 + nl)) + n2) := fun q => hc84 (by (try simp only [jd, jk, jl]); exact (jg (by omega) (by omega)).mpr q)
        have fin : (((js (jc nl mL) (jc n1 m1) (jc n2 m2)) ++ [10]).getD jn 0) = (10 : Int32) := by
         unfold js; rw [if_pos d2]; simp only [jC, jv, ju, jD, List.length_append, List.length_replicate, List.length_cons, List.length_nil, jq]
         repeat' split
         all_goals first | rfl | (exfalso; omega)
        exact mid78 (10 : Int32) fin
    ·refine gsW (fun _ k => jh (pc' := 229) X74 hq at_222 (flt hc76).2.2.2 (jf (v := (0 : Int32)) X74 hq at_229 (je X74 hq at_230 (jF rfl rfl) k))) ?_
     refine gsW (S' := T74.setTop (mkF m 232 #[iv i0, iv i1, iv i2, iv i3, iv i4, iv i5, iv (oI nl), iv (oI n1), iv (oI n2), iv (oI n3), iv mL, iv m1, iv m2, iv m3, iv (2 : Int32), rv a47, rv b49, rv a74, iv (((oI nl) + (oI n1))), iv (((oI nl) + (oI n1))), iv (oI nl), iv (0 : Int32), iv (((oI nl) + (oI n1))), iv (((oI nl) + (oI n1))), uu, uu, uu, uu, uu, uu] [])) (fun _ k => k) ?_
     refine gsW (fun _ k => ja X74 hq at_232 rfl (ja X74 hq at_234 rfl (jI (pc' := 246) X74 hq at_236 ((if0 _ _).trans (teq (by decide : (0 : Int32) = (0 : Int32))).1) (jf (v := (1 : Int32)) X74 hq at_246 (jt X74 hq at_247 (je X74 hq at_248 (jF rfl rfl) (ja X74 hq at_250 rfl (ja X74 hq at_252 rfl (jt X74 hq at_254 (je X74 hq at_255 (jF rfl rfl) (ja X74 hq at_257 rfl (jI (pc' := 270) X74 hq at_259 ((if0 _ _).trans (teq (by decide : (0 : Int32) = (0 : Int32))).1) (ja X74 hq at_270 rfl (jf (v := (1 : Int32)) X74 hq at_272 (jt X74 hq at_273 (ja X74 hq at_274 rfl (jt X74 hq at_276 (je X74 hq at_277 (jF rfl rfl) (jf (v := (0 : Int32)) X74 hq at_279 (je X74 hq at_280 (jj rfl) (ja X74 hq at_282 rfl (je X74 hq at_284 (jj rfl) (ja X74 hq at_286 rfl (je X74 hq at_288 (jj rfl) (ja X74 hq at_290 rfl (jf (v := (3 : Int32)) X74 hq at_292 (jh (pc' := 362) X74 hq at_293 (tlt (by decide : (2 : Int32) < (3 : Int32))).1 (ja X74 hq at_362 rfl (jf (v := (1 : Int32)) X74 hq at_364 (jt X74 hq at_365 k)))))))))))))))))))))))))))))) ?_
     have y2 : ¬ 80 < (((nl + n1) + 1) + n2) := fun q => hc76 (by (try simp only [jd, jk, jl]); exact (jg (a := 80) (by omega) (by omega)).mpr q)
     have d2 : ¬ (jaa (jc nl mL) (jc n1 m1) (jc n2 m2)) := by unfold jaa; simp only [jq]; exact y2
     have hln : ((js (jc nl mL) (jc n1 m1) (jc n2 m2)) ++ [10]).length = ((((nl + n1) + 1) + n2) + 1) := by unfold js; rw [if_neg d2]; simp only [List.length_append, List.length_replicate, List.length_cons, List.length_nil, jq] <;> omega
     have hl4 : ((js (jc nl mL) (jc n1 m1) (jc n2 m2)) ++ [10]).length ≤ 4000 := by omega
     have et : (((((oI nl) + (oI n1)) + (1 : Int32)) + (oI n2)) + (1 : Int32)) = oI (((((nl + n1) + 1) + n2) + 1)) := by simp only [jd, jk, jl]
     rw [et]
     refine gsW (fun _ k => je X74 hq at_366 (jj rfl) k) ?_
     refine gsW (S' := T74.setTop (mkF m 368 #[iv i0, iv i1, iv i2, iv i3, iv i4, iv i5, iv (oI nl), iv (oI n1), iv (oI n2), iv (oI n3), iv mL, iv m1, iv m2, iv m3, iv (2 : Int32), rv a47, rv b49, rv a74, iv (((((oI nl) + (oI n1)) + (1 : Int32)) + (oI n2))), iv (((((oI nl) + (oI n1)) + (1 : Int32)) + (oI n2))), iv (oI nl), iv (0 : Int32), iv (((oI nl) + (oI n1))), iv ((((oI nl) + (oI n1)) + (1 : Int32))), iv (0 : Int32), iv (((((oI nl) + (oI n1)) + (1 : Int32)) + (oI n2))), iv (((((oI nl) + (oI n1)) + (1 : Int32)) + (oI n2))), iv ((oI (((((nl + n1) + 1) + n2) + 1)))), uu, uu] [])) (fun _ k => k) ?_
     refine gsW (fun _ k => jy X74 hq at_368 rfl rfl k) ?_
     refine cVW (rest := []) X74 hx hZ hown (ow hw 229 rfl) (ow hw 56 rfl) (nfs hZ (ow hw 58 rfl)) (ow hw 58 rfl) (ow hw 57 rfl) (ow hw 7 rfl) (ow hw 59 rfl) (rm_lenL l Z a0 hw [] a74 ((js (jc nl mL) (jc n1 m1) (jc n2 m2)) ++ [10]) z T74.heap n0 Z75 O75 T74q S0 hz) hby at_370 rfl pd_644 0 (by rw [hml]; rfl) T74q.exa rfl rfl rfl rfl (by decide) (by decide) fun _ T88 Lc88 X88 hQ88 => ?_
     obtain ⟨rfl, N88q, e88q⟩ := hQ88
     have N88 := Fr.app N74 N88q
     refine gsW (fun _ k => ja X88 hq at_373 rfl (jh (pc' := 380) X88 hq at_375 (teq (by rw [hln])).1 (ja X88 hq at_380 rfl (jac X88 hq hown (mvT hZ (ow hw 230 rfl)) at_382 (jab X88 hq at_384 (ja X88 hq at_385 rfl (Jvm.RoadKit.iremM X88 hx (g := (mkF m 387 #[iv i0, iv i1, iv i2, iv i3, iv i4, iv i5, iv (oI nl), iv (oI n1), iv (oI n2), iv (oI n3), iv mL, iv m1, iv m2, iv m3, iv (2 : Int32), rv a47, rv b49, rv a74, iv (((((oI nl) + (oI n1)) + (1 : Int32)) + (oI n2))), iv (((((oI nl) + (oI n1)) + (1 : Int32)) + (oI n2))), iv (oI nl), iv (0 : Int32), iv (((oI nl) + (oI n1))), iv ((((oI nl) + (oI n1)) + (1 : Int32))), iv (0 : Int32), iv (((((oI nl) + (oI n1)) + (1 : Int32)) + (oI n2))), iv (((((oI nl) + (oI n1)) + (1 : Int32)) + (oI n2))), iv ((oI (((((nl + n1) + 1) + n2) + 1)))), uu, uu] [(.int (oI (((((nl + n1) + 1) + n2) + 1)))), (.int (i5 &&& (2147483647 : Int32)))])) rfl (hb hby at_387) rfl (jaf (b := 0) (by omega) (by omega) (by omega)) k))))))) ?_
     obtain ⟨jn, ej, hj⟩ := own_rem (x := i5) (t := ((((nl + n1) + 1) + n2) + 1)) (by omega) (by omega)
     rw [ej]
     refine gsW (fun _ k => je X88 hq at_388 (jj rfl) k) ?_
     have mid89 : ∀ e_89 : Int32, ((((js (jc nl mL) (jc n1 m1) (jc n2 m2)) ++ [10]).getD jn 0) = e_89) → OwnGoW p e below s Z jo (fun v h L => v = some (.int 1) ∧ Fr n0 L) room_1.cells room_1.slots (T88.setTop (mkF m 581 #[iv i0, iv i1, iv i2, iv i3, iv i4, iv i5, iv (oI nl), iv (oI n1), iv (oI n2), iv (oI n3), iv mL, iv m1, iv m2, iv m3, iv (2 : Int32), rv a47, rv b49, rv a74, iv (((((oI nl) + (oI n1)) + (1 : Int32)) + (oI n2))), iv (((((oI nl) + (oI n1)) + (1 : Int32)) + (oI n2))), iv (oI nl), iv (0 : Int32), iv (((oI nl) + (oI n1))), iv ((((oI nl) + (oI n1)) + (1 : Int32))), iv (0 : Int32), iv (((((oI nl) + (oI n1)) + (1 : Int32)) + (oI n2))), iv (((((oI nl) + (oI n1)) + (1 : Int32)) + (oI n2))), iv ((oI (((((nl + n1) + 1) + n2) + 1)))), iv (oI jn), iv e_89] [])) := by
      intro e_89 hfin
      refine gsW (fun _ k => jy X88 hq at_581 rfl rfl (ja X88 hq at_583 rfl k)) ?_
      refine cVW (rest := []) X88 hx hZ hown (ow hw 231 rfl) (ow hw 232 rfl) (nfs hZ (ow hw 234 rfl)) (ow hw 234 rfl) (ow hw 233 rfl) (ow hw 7 rfl) (ow hw 235 rfl) (rm_chL l Z a0 hw [] a74 ((js (jc nl mL) (jc n1 m1) (jc n2 m2)) ++ [10]) jn (oI jn) z fm T74.heap n0 Z75 O75 T74q (jU (own_w2b (jK hm0) (jK hm1) (jK hm2)) (by decide)) (by rw [hln]; exact hj) hl4 rfl S0 hz S4 hfm) hby at_585 e88q pd_959 0 (by rw [hml]; rfl) T74q.exa rfl rfl rfl rfl (by decide) (by decide) fun _ T90 Lc90 X90 hQ90 => ?_
      obtain ⟨rfl, N90q, e90q⟩ := hQ90
      have N90 := Fr.app N88 N90q
      refine gsW (fun _ k => ja X90 hq at_588 rfl (jm X90 hq at_590 (teq hfin).2 (jf (v := (1 : Int32)) X90 hq at_593 (jp (pc' := 598) X90 hq at_594 k)))) ?_
      refine goutW (v := some (.int (1 : Int32))) X90 hS (Nat.le_refl T74.heap.size) hZ (jJ hw) hh e90q R75 Bd.notSynchronized (jA Bd.returns) (by decide) (by decide) ?_ (fun fs hr => retN X90 hx (t := .boolean) Bd.returns (by simp) (hb hby at_598) hr)
      exact ⟨rfl, N90⟩
     refine gsW (fun _ k => ja X88 hq at_390 rfl (ja X88 hq at_392 rfl k)) ?_
     by_cases hc91 : (oI jn) < (oI nl)
     ·refine gsW (fun _ k => jm X88 hq at_394 (tlt hc91).2.1 (ja X88 hq at_397 rfl k)) ?_
      by_cases hc92 : (oI jn) = (0 : Int32)
      ·refine gsW (fun _ k => jG X88 hq at_399 ((if0 _ _).trans (teq hc92).2) (ja X88 hq at_402 rfl (jp (pc' := 408) X88 hq at_404 (je X88 hq at_408 (jj rfl) (jp (pc' := 581) X88 hq at_410 k))))) ?_
       have yhc91 : jn < nl := (jg (by omega) (by omega)).mp hc91
       have yhc92 : jn = 0 := (jB (b := 0) (by omega) (by omega)).mp hc92
       have fin : (((js (jc nl mL) (jc n1 m1) (jc n2 m2)) ++ [10]).getD jn 0) = mL := by
        unfold js; rw [if_neg d2]; simp only [jC, jv, ju, jD, List.length_append, List.length_replicate, List.length_cons, List.length_nil, jq]
        repeat' split
        all_goals first | rfl | (exfalso; omega)
       exact mid89 mL fin
      ·refine gsW (fun _ k => jI (pc' := 407) X88 hq at_399 ((if0 _ _).trans (feq hc92).2) (jf (v := (0 : Int32)) X88 hq at_407 (je X88 hq at_408 (jj rfl) (jp (pc' := 581) X88 hq at_410 k)))) ?_
       have yhc91 : jn < nl := (jg (by omega) (by omega)).mp hc91
       have yhc92 : ¬ jn = 0 := fun q => hc92 ((jB (b := 0) (by omega) (by omega)).mpr q)
       have fin : (((js (jc nl mL) (jc n1 m1) (jc n2 m2)) ++ [10]).getD jn 0) = (0 : Int32) := by
        unfold js; rw [if_neg d2]; simp only [jC, jv, ju, jD, List.length_append, List.length_replicate, List.length_cons, List.length_nil, jq]
        repeat' split
        all_goals first | rfl | (exfalso; omega)
       exact mid89 (0 : Int32) fin
     ·refine gsW (fun _ k => jh (pc' := 413) X88 hq at_394 (flt hc91).2.1 (ja X88 hq at_413 rfl (jf (v := (1 : Int32)) X88 hq at_415 (jm X88 hq at_416 (flt (by decide : ¬ ((2 : Int32) < (1 : Int32)))).1 (ja X88 hq at_419 rfl (ja X88 hq at_421 rfl (ja X88 hq at_423 rfl (jt X88 hq at_425 k)))))))) ?_
      by_cases hc93 : (oI jn) < ((oI nl) + (oI n1))
      ·refine gsW (fun _ k => jm X88 hq at_426 (tlt hc93).2.1 (ja X88 hq at_429 rfl (ja X88 hq at_431 rfl k))) ?_
       by_cases hc94 : (oI jn) = (oI nl)
       ·refine gsW (fun _ k => jm X88 hq at_433 (teq hc94).2 (ja X88 hq at_436 rfl (jp (pc' := 442) X88 hq at_438 (je X88 hq at_442 (jj rfl) (jp (pc' := 581) X88 hq at_444 k))))) ?_
        have yhc91 : ¬ jn < nl := mt (jg (by omega) (by omega)).mpr hc91
        have yhc93 : jn < (nl + n1) := (jg (by omega) (by omega)).mp (by have q := hc93; (try simp only [jd, jk, jl] at q); exact q)
        have yhc94 : jn = nl := (jB (by omega) (by omega)).mp hc94
        have fin : (((js (jc nl mL) (jc n1 m1) (jc n2 m2)) ++ [10]).getD jn 0) = m1 := by
         unfold js; rw [if_neg d2]; simp only [jC, jv, ju, jD, List.length_append, List.length_replicate, List.length_cons, List.length_nil, jq]
         repeat' split
         all_goals first | rfl | (exfalso; omega)
        exact mid89 m1 fin
       ·refine gsW (fun _ k => jh (pc' := 441) X88 hq at_433 (feq hc94).2 (jf (v := (0 : Int32)) X88 hq at_441 (je X88 hq at_442 (jj rfl) (jp (pc' := 581) X88 hq at_444 k)))) ?_
        have yhc91 : ¬ jn < nl := mt (jg (by omega) (by omega)).mpr hc91
        have yhc93 : jn < (nl + n1) := (jg (by omega) (by omega)).mp (by have q := hc93; (try simp only [jd, jk, jl] at q); exact q)
        have yhc94 : ¬ jn = nl := mt (jB (by omega) (by omega)).mpr hc94
        have fin : (((js (jc nl mL) (jc n1 m1) (jc n2 m2)) ++ [10]).getD jn 0) = (0 : Int32) := by
         unfold js; rw [if_neg d2]; simp only [jC, jv, ju, jD, List.length_append, List.length_replicate, List.length_cons, List.length_nil, jq]
         repeat' split
         all_goals first | rfl | (exfalso; omega)
        exact mid89 (0 : Int32) fin
      ·refine gsW (fun _ k => jh (pc' := 447) X88 hq at_426 (flt hc93).2.1 (ja X88 hq at_447 rfl (jf (v := (2 : Int32)) X88 hq at_449 (jm X88 hq at_450 (flt (by decide : ¬ ((2 : Int32) < (2 : Int32)))).1 (ja X88 hq at_453 rfl (ja X88 hq at_455 rfl (ja X88 hq at_457 rfl (jt X88 hq at_459 k)))))))) ?_
       by_cases hc95 : (oI jn) < ((((oI nl) + (oI n1)) + (1 : Int32)) + (oI n2))
       ·refine gsW (fun _ k => jm X88 hq at_460 (tlt hc95).2.1 (ja X88 hq at_463 rfl (ja X88 hq at_465 rfl k))) ?_
        by_cases hc96 : (oI jn) < (((oI nl) + (oI n1)) + (1 : Int32))
        ·refine gsW (fun _ k => jm X88 hq at_467 (tlt hc96).2.1 (ja X88 hq at_470 rfl (jI (pc' := 487) X88 hq at_472 ((if0 _ _).trans (teq (by decide : (0 : Int32) = (0 : Int32))).1) (jz (v := (32 : Int32)) X88 hq at_487 (je X88 hq at_489 (jj rfl) (jp (pc' := 581) X88 hq at_491 k)))))) ?_
         have yhc91 : ¬ jn < nl := mt (jg (by omega) (by omega)).mpr hc91
         have yhc93 : ¬ jn < (nl + n1) := fun q => hc93 (by (try simp only [jd, jk, jl]); exact (jg (by omega) (by omega)).mpr q)
         have yhc95 : jn < (((nl + n1) + 1) + n2) := (jg (by omega) (by omega)).mp (by have q := hc95; (try simp only [jd, jk, jl] at q); exact q)
         have yhc96 : jn < ((nl + n1) + 1) := (jg (by omega) (by omega)).mp (by have q := hc96; (try simp only [jd, jk, jl] at q); exact q)
         have fin : (((js (jc nl mL) (jc n1 m1) (jc n2 m2)) ++ [10]).getD jn 0) = (32 : Int32) := by
          unfold js; rw [if_neg d2]; simp only [jC, jv, ju, jD, List.length_append, List.length_replicate, List.length_cons, List.length_nil, jq]
          repeat' split
          all_goals first | rfl | (exfalso; omega)
         exact mid89 (32 : Int32) fin
        ·refine gsW (fun _ k => jh (pc' := 494) X88 hq at_467 (flt hc96).2.1 (ja X88 hq at_494 rfl (ja X88 hq at_496 rfl k))) ?_
         by_cases hc97 : (oI jn) = (((oI nl) + (oI n1)) + (1 : Int32))
         ·refine gsW (fun _ k => jm X88 hq at_498 (teq hc97).2 (ja X88 hq at_501 rfl (jp (pc' := 507) X88 hq at_503 (je X88 hq at_507 (jj rfl) (jp (pc' := 581) X88 hq at_509 k))))) ?_
          have yhc91 : ¬ jn < nl := mt (jg (by omega) (by omega)).mpr hc91
          have yhc93 : ¬ jn < (nl + n1) := fun q => hc93 (by (try simp only [jd, jk, jl]); exact (jg (by omega) (by omega)).mpr q)
          have yhc95 : jn < (((nl + n1) + 1) + n2) := (jg (by omega) (by omega)).mp (by have q := hc95; (try simp only [jd, jk, jl] at q); exact q)
          have yhc96 : ¬ jn < ((nl + n1) + 1) := fun q => hc96 (by (try simp only [jd, jk, jl]); exact (jg (by omega) (by omega)).mpr q)
          have yhc97 : jn = ((nl + n1) + 1) := (jB (by omega) (by omega)).mp (by have q := hc97; (try simp only [jd, jk, jl] at q); exact q)
          have fin : (((js (jc nl mL) (jc n1 m1) (jc n2 m2)) ++ [10]).getD jn 0) = m2 := by
           unfold js; rw [if_neg d2]; simp only [jC, jv, ju, jD, List.length_append, List.length_replicate, List.length_cons, List.length_nil, jq]
           repeat' split
           all_goals first | rfl | (exfalso; omega)
          exact mid89 m2 fin
         ·refine gsW (fun _ k => jh (pc' := 506) X88 hq at_498 (feq hc97).2 (jf (v := (0 : Int32)) X88 hq at_506 (je X88 hq at_507 (jj rfl) (jp (pc' := 581) X88 hq at_509 k)))) ?_
          have yhc91 : ¬ jn < nl := mt (jg (by omega) (by omega)).mpr hc91
          have yhc93 : ¬ jn < (nl + n1) := fun q => hc93 (by (try simp only [jd, jk, jl]); exact (jg (by omega) (by omega)).mpr q)
          have yhc95 : jn < (((nl + n1) + 1) + n2) := (jg (by omega) (by omega)).mp (by have q := hc95; (try simp only [jd, jk, jl] at q); exact q)
          have yhc96 : ¬ jn < ((nl + n1) + 1) := fun q => hc96 (by (try simp only [jd, jk, jl]); exact (jg (by omega) (by omega)).mpr q)
          have yhc97 : ¬ jn = ((nl + n1) + 1) := fun q => hc97 (by (try simp only [jd, jk, jl]); exact (jB (by omega) (by omega)).mpr q)
          have fin : (((js (jc nl mL) (jc n1 m1) (jc n2 m2)) ++ [10]).getD jn 0) = (0 : Int32) := by
           unfold js; rw [if_neg d2]; simp only [jC, jv, ju, jD, List.length_append, List.length_replicate, List.length_cons, List.length_nil, jq]
           repeat' split
           all_goals first | rfl | (exfalso; omega)
          exact mid89 (0 : Int32) fin
       ·refine gsW (fun _ k => jh (pc' := 512) X88 hq at_460 (flt hc95).2.1 (ja X88 hq at_512 rfl (jf (v := (3 : Int32)) X88 hq at_514 (jh (pc' := 577) X88 hq at_515 (tlt (by decide : (2 : Int32) < (3 : Int32))).1 (jz (v := (10 : Int32)) X88 hq at_577 (je X88 hq at_579 (jj rfl) k)))))) ?_
        have yhc91 : ¬ jn < nl := mt (jg (by omega) (by omega)).mpr hc91
        have yhc93 : ¬ jn < (nl + n1) := fun q => hc93 (by (try simp only [jd, jk, jl]); exact (jg (by omega) (by omega)).mpr q)
        have yhc95 : ¬ jn < (((nl + n1) + 1) + n2) := fun q => hc95 (by (try simp only [jd, jk, jl]); exact (jg (by omega) (by omega)).mpr q)
        have fin : (((js (jc nl mL) (jc n1 m1) (jc n2 m2)) ++ [10]).getD jn 0) = (10 : Int32) := by
         unfold js; rw [if_neg d2]; simp only [jC, jv, ju, jD, List.length_append, List.length_replicate, List.length_cons, List.length_nil, jq]
         repeat' split
         all_goals first | rfl | (exfalso; omega)
        exact mid89 (10 : Int32) fin
   ·have k3 := own_k3 hc1 hc18 hc46
    rw [k3]
    refine gsW (fun _ k => je X0 hq at_72 (jj rfl) (ja X0 hq at_74 rfl (ja X0 hq at_76 rfl k))) ?_
    refine cSS (rest := []) X0 hx hS hk hZ hown (ow hw 0 rfl) (ow hw 1 rfl) (ow hw 2 rfl) (ow hw 3 rfl) (rm_dw l Z a0 hw [] nl mL z h0 n0 Z0 O0 S0 hz hl0 hm0) (jJ hw) R0.1 hby at_78 e0 pd_957 0 (by rw [hml]; rfl) rfl rfl rfl rfl (by decide) (by decide) fun _ T98 Lc98 X98 hS hZ hown hQ98 rq98 => ?_
    obtain ⟨a98, rfl, N98q, K98q, T98q⟩ := hQ98
    have N98 := Fr.app N0 N98q
    have r99 : CHr Z jo s.vm h0 T98.vm T98.heap := rq98
    have R99 := R0.trans r99
    have Z99 := nt Z0 K98q.1
    have O99 := O0.keep K98q all0
    have K99 := K0.trans K98q all0
    refine gsW (fun _ k => jQ X98 hq at_81 rfl (jj rfl) k) ?_
    obtain ⟨T100, h100, X100, e100, E100, A100, D100, -, st100⟩ := newO X98 hx hZ hown (ow hw 26 rfl) (ow hw 27 rfl) (ow hw 28 rfl) rfl (g := (mkF m 83 #[iv i0, iv i1, iv i2, iv i3, iv i4, iv i5, iv (oI nl), iv (oI n1), iv (oI n2), iv (oI n3), iv mL, iv m1, iv m2, iv m3, iv (3 : Int32), rv a98, uu, uu, uu, uu, uu, uu, uu, uu, uu, uu, uu, uu, uu, uu] [])) rfl (hb hby at_83) (by decide) (by decide)
    obtain ⟨b100, q100⟩ : ∃ z, z = T98.heap.size := ⟨_, rfl⟩
    rw [← q100] at A100 D100 st100
    have g_b100 : n0 ≤ b100 := nt Z99 (Nat.le_of_eq q100.symm)
    have sz_b100 : h0.size ≤ b100 := nt K99.1 (Nat.le_of_eq q100.symm)
    have r101 : CHr Z jo T98.vm T98.heap T98.vm h100 := CHr.ext E100 R99.1
    have R101 := R99.trans r101
    have Z101 := nt Z99 E100.1
    have O101 := O99.ext E100
    have K101 := K99.ext E100
    have F_modCount_b100 : Fld Z h100 b100 "java/util/AbstractList" "modCount" "I" (.int (0 : Int32)) := D100 (Or.inl (ow hw 46 rfl)) (ty := .int) (by decide)
    have F_elementData_b100 : Fld Z h100 b100 "java/util/ArrayList" "elementData" "[Ljava/lang/Object;" .null := D100 (Or.inl (ow hw 49 rfl)) (ty := (.array (.object "java/lang/Object"))) (by decide)
    have F_size_b100 : Fld Z h100 b100 "java/util/ArrayList" "size" "I" (.int (0 : Int32)) := D100 (Or.inl (ow hw 169 rfl)) (ty := .int) (by decide)
    refine gsW (S' := T100.setTop (mkF m 86 #[iv i0, iv i1, iv i2, iv i3, iv i4, iv i5, iv (oI nl), iv (oI n1), iv (oI n2), iv (oI n3), iv mL, iv m1, iv m2, iv m3, iv (3 : Int32), rv a98, uu, uu, uu, uu, uu, uu, uu, uu, uu, uu, uu, uu, uu, uu] [(.ref b100)])) st100 ?_
    refine gsW (fun _ k => jad X100 hq at_86 rfl k) ?_
    refine cIW (rest := [(.ref b100)]) X100 hx hZ hown rfl (ow hw 29 rfl) (ow hw 30 rfl) (ow hw 28 rfl) (ow hw 31 rfl) (rm_ali l Z a0 hw [] b100 de h100 n0 Z101 O101 A100 F_modCount_b100 F_size_b100 F_elementData_b100 g_b100 S_de) hby at_87 e100 pd_276 1 (by rw [hml]; rfl) rfl rfl rfl rfl (by decide) (by decide) fun _ T102 Lc102 X102 hQ102 => ?_
    obtain ⟨rfl, N102q, K102q, F102m, F102s, F102e⟩ := hQ102
    have N102 := Fr.app N98 N102q
    have r103 : CHr Z jo T98.vm h100 T98.vm T102.heap := CHr.keep K102q (sfS (Safe.exa hZ.alike A100 (by decide) (by decide)) sf0) R101.1
    have R103 := R101.trans r103
    have Z103 := nt Z101 K102q.1
    have O103 := O101.keep K102q (allS g_b100 all0)
    have K103 := K101.trans K102q (allS (Or.inr sz_b100) all0)
    refine gsW (fun _ k => jQ X102 hq at_90 rfl (jj rfl) (ja X102 hq at_92 rfl (jf (v := (1 : Int32)) X102 hq at_94 (jm X102 hq at_95 (flt (by decide : ¬ ((3 : Int32) < (1 : Int32)))).1 (jy X102 hq at_98 rfl rfl (ja X102 hq at_100 rfl (ja X102 hq at_102 rfl k))))))) ?_
    have zs105 := nt E100.1 K102q.1
    refine cSS (rest := [(.ref b100)]) X102 hx hS (nt (Nat.le_refl T98.heap.size) zs105) hZ hown (ow hw 0 rfl) (ow hw 1 rfl) (ow hw 2 rfl) (ow hw 3 rfl) (rm_dw l Z a0 hw [] n1 m1 z T102.heap n0 Z103 O103 S0 hz hl1 hm1) (jJ hw) R103.1 hby at_104 rfl pd_957 1 (by rw [hml]; rfl) rfl rfl rfl rfl (by decide) (by decide) fun _ T104 Lc104 X104 hS hZ hown hQ104 rq104 => ?_
    obtain ⟨a104, rfl, N104q, K104q, T104q⟩ := hQ104
    have N104 := Fr.app N102 N104q
    have r106 : CHr Z jo T98.vm T102.heap T104.vm T104.heap := rq104
    have R106 := R103.trans r106
    have Z106 := nt Z103 K104q.1
    have O106 := O103.keep K104q all0
    have K106 := K103.trans K104q all0
    have f107 := ((A100.keep K102q).keep K104q)
    have f108 := (F102m.keep K104q nin0)
    have f109 := (F102s.keep K104q nin0)
    have f110 := (F102e.keep K104q nin0)
    obtain ⟨cq111, kq111, q111a, q111b, q111c⟩ := isOf hZ rfl f107
    obtain ⟨_, _, ⟨T111, L111, k111, n111⟩, -, X111, ⟨Lc111, hQ111, l111, y111, z111⟩, st111⟩ := X104.interfaceBack hx (xi := my6) (y := my3) hown (mvT hZ (ow hw 270 rfl)) (mvT hZ (ow hw 271 rfl)) (mvT hZ (ow hw 272 rfl)) (mvT hZ (ow hw 273 rfl)) (mvT hZ (ow hw 274 rfl)) (mvT hZ (ow hw 275 rfl)) (mvT hZ (ow hw 276 rfl)) (mvT hZ (ow hw 139 rfl)) (by decide) (backC (W := 0) (rm_add0 l Z a0 hw [] b100 de kd a104 T104.heap n0 Z106 O106 f107 f108 f109 f110 g_b100 T104q.exa S_de (V_de.ext O106.2)) hZ (ow hw 277 rfl) (ow hw 28 rfl) (by decide) (by decide)) q111a q111b q111c (g := (mkF m 107 #[iv i0, iv i1, iv i2, iv i3, iv i4, iv i5, iv (oI nl), iv (oI n1), iv (oI n2), iv (oI n3), iv mL, iv m1, iv m2, iv m3, iv (3 : Int32), rv a98, rv b100, uu, uu, uu, uu, uu, uu, uu, uu, uu, uu, uu, uu, uu] [(.ref a104), (.ref b100)])) rfl (by rw [hml]; rfl) (Steps.refl _) (argsL := [(.ref a104)]) (rest := []) (lenOf pd_960 rfl) rfl (jL rfl) (hb hby at_107) (fun _ _ => ⟨rfl, rfl, (by decide : 13 + 1 ≤ _), (by decide : 519 + 10 ≤ _)⟩)
    dsimp only [Pt.U, Pt.locs, Pt.cells, Pt.slots] at X111 l111 y111 z111 st111 hQ111
    subst l111 y111 z111
    obtain ⟨t111, kb111, rfl, N111q, K111q, g111t, Ov111q, V111q, F111m, F111s, F111e⟩ := hQ111
    have N111 := Fr.app N104 N111q
    have g_t111 : n0 ≤ t111 := nt Z106 g111t
    have sz_t111 : h0.size ≤ t111 := nt K106.1 g111t
    have r112 : CHr Z jo T104.vm T104.heap T104.vm T111.heap := CHr.keep K111q (sfS (Safe.exa hZ.alike f107 (by decide) (by decide)) sf0) R106.1
    have R112 := R106.trans r112
    have Z112 := nt Z106 K111q.1
    have O112 := O106.keep K111q (allS g_b100 all0)
    have K112 := K106.trans K111q (allS (Or.inr sz_b100) all0)
    refine gsW (S' := T111.setTop (mkF m 112 #[iv i0, iv i1, iv i2, iv i3, iv i4, iv i5, iv (oI nl), iv (oI n1), iv (oI n2), iv (oI n3), iv mL, iv m1, iv m2, iv m3, iv (3 : Int32), rv a98, rv b100, uu, uu, uu, uu, uu, uu, uu, uu, uu, uu, uu, uu, uu] [(.int (1 : Int32))])) (fun _ k => st111.trans k) ?_
    refine gsW (fun _ k => jW X111 hq at_112 rfl (ja X111 hq at_113 rfl (jf (v := (2 : Int32)) X111 hq at_115 (jm X111 hq at_116 (flt (by decide : ¬ ((3 : Int32) < (2 : Int32)))).1 (jy X111 hq at_119 rfl rfl (ja X111 hq at_121 rfl (ja X111 hq at_123 rfl k))))))) ?_
    refine cSS (rest := [(.ref b100)]) X111 hx hS (nt (Nat.le_refl T104.heap.size) K111q.1) hZ hown (ow hw 0 rfl) (ow hw 1 rfl) (ow hw 2 rfl) (ow hw 3 rfl) (rm_dw l Z a0 hw [] n2 m2 z T111.heap n0 Z112 O112 S0 hz hl2 hm2) (jJ hw) R112.1 hby at_125 rfl pd_957 1 (by rw [hml]; rfl) rfl rfl rfl rfl (by decide) (by decide) fun _ T113 Lc113 X113 hS hZ hown hQ113 rq113 => ?_
    obtain ⟨a113, rfl, N113q, K113q, T113q⟩ := hQ113
    have N113 := Fr.app N111 N113q
    have r114 : CHr Z jo T104.vm T111.heap T113.vm T113.heap := rq113
    have R114 := R112.trans r114
    have Z114 := nt Z112 K113q.1
    have O114 := O112.keep K113q all0
    have K114 := K112.trans K113q all0
    have f115 := (V111q.keep K113q nin0)
    have f116 := ((f107.keep K111q).keep K113q)
    have f117 := (((((T98q.ext E100).keepE K102q A100 (by decide) (ow hw 27 rfl)).keep0 K104q).keepE K111q ((A100.keep K102q).keep K104q) (by decide) (ow hw 27 rfl)).keep0 K113q)
    have f118 := ((T104q.keepE K111q ((A100.keep K102q).keep K104q) (by decide) (ow hw 27 rfl)).keep0 K113q)
    have f119 := (F111m.keep K113q nin0)
    have f120 := (F111s.keep K113q nin0)
    have f121 := (F111e.keep K113q nin0)
    obtain ⟨cq122, kq122, q122a, q122b, q122c⟩ := isOf hZ rfl f116
    obtain ⟨_, _, ⟨T122, L122, k122, n122⟩, -, X122, ⟨Lc122, hQ122, l122, y122, z122⟩, st122⟩ := X113.interfaceBack hx (xi := my6) (y := my3) hown (mvT hZ (ow hw 270 rfl)) (mvT hZ (ow hw 271 rfl)) (mvT hZ (ow hw 272 rfl)) (mvT hZ (ow hw 273 rfl)) (mvT hZ (ow hw 274 rfl)) (mvT hZ (ow hw 275 rfl)) (mvT hZ (ow hw 276 rfl)) (mvT hZ (ow hw 139 rfl)) (by decide) (backC (W := 0) (rm_add1 l Z a0 hw [] b100 t111 kb111 a104 a113 T113.heap n0 Z114 O114 f116 f119 f120 f121 g_b100 T113q.exa f115 Ov111q g_t111) hZ (ow hw 277 rfl) (ow hw 28 rfl) (by decide) (by decide)) q122a q122b q122c (g := (mkF m 128 #[iv i0, iv i1, iv i2, iv i3, iv i4, iv i5, iv (oI nl), iv (oI n1), iv (oI n2), iv (oI n3), iv mL, iv m1, iv m2, iv m3, iv (3 : Int32), rv a98, rv b100, uu, uu, uu, uu, uu, uu, uu, uu, uu, uu, uu, uu, uu] [(.ref a113), (.ref b100)])) rfl (by rw [hml]; rfl) (Steps.refl _) (argsL := [(.ref a113)]) (rest := []) (lenOf pd_960 rfl) rfl (jL rfl) (hb hby at_128) (fun _ _ => ⟨rfl, rfl, (by decide : 20 + 0 ≤ _), (by decide : 787 + 0 ≤ _)⟩)
    dsimp only [Pt.U, Pt.locs, Pt.cells, Pt.slots] at X122 l122 y122 z122 st122 hQ122
    subst l122 y122 z122
    obtain ⟨rfl, N122q, K122q, V122q, F122m, F122s, F122e⟩ := hQ122
    have N122 := Fr.app N113 N122q
    have r123 : CHr Z jo T113.vm T113.heap T113.vm T122.heap := CHr.keep K122q (sfS (Safe.exa hZ.alike f116 (by decide) (by decide)) (sfS (Safe.arv hZ.alike f115 (by decide)) sf0)) R114.1
    have R123 := R114.trans r123
    have Z123 := nt Z114 K122q.1
    have O123 := O114.keep K122q (allS g_b100 (allS g_t111 all0))
    have K123 := K114.trans K122q (allS (Or.inr sz_b100) (allS (Or.inr sz_t111) all0))
    have Tk122_0 := f117.keepAO K122q f116 (by decide) (ow hw 27 rfl) f115 (ow hw 6 rfl)
    have Tk122_1 := f118.keepAO K122q f116 (by decide) (ow hw 27 rfl) f115 (ow hw 6 rfl)
    have Tk122_2 := T113q.keepAO K122q f116 (by decide) (ow hw 27 rfl) f115 (ow hw 6 rfl)
    refine gsW (S' := T122.setTop (mkF m 133 #[iv i0, iv i1, iv i2, iv i3, iv i4, iv i5, iv (oI nl), iv (oI n1), iv (oI n2), iv (oI n3), iv mL, iv m1, iv m2, iv m3, iv (3 : Int32), rv a98, rv b100, uu, uu, uu, uu, uu, uu, uu, uu, uu, uu, uu, uu, uu] [(.int (1 : Int32))])) (fun _ k => st122.trans k) ?_
    refine gsW (fun _ k => jW X122 hq at_133 rfl (ja X122 hq at_134 rfl (jf (v := (3 : Int32)) X122 hq at_136 (jm X122 hq at_137 (flt (by decide : ¬ ((3 : Int32) < (3 : Int32)))).1 (jy X122 hq at_140 rfl rfl (ja X122 hq at_142 rfl (ja X122 hq at_144 rfl k))))))) ?_
    refine cSS (rest := [(.ref b100)]) X122 hx hS (nt (Nat.le_refl T113.heap.size) K122q.1) hZ hown (ow hw 0 rfl) (ow hw 1 rfl) (ow hw 2 rfl) (ow hw 3 rfl) (rm_dw l Z a0 hw [] n3 m3 z T122.heap n0 Z123 O123 S0 hz hl3 hm3) (jJ hw) R123.1 hby at_146 rfl pd_957 1 (by rw [hml]; rfl) rfl rfl rfl rfl (by decide) (by decide) fun _ T124 Lc124 X124 hS hZ hown hQ124 rq124 => ?_
    obtain ⟨a124, rfl, N124q, K124q, T124q⟩ := hQ124
    have N124 := Fr.app N122 N124q
    have r125 : CHr Z jo T113.vm T122.heap T124.vm T124.heap := rq124
    have R125 := R123.trans r125
    have Z125 := nt Z123 K124q.1
    have O125 := O123.keep K124q all0
    have K125 := K123.trans K124q all0
    have f126 := (V122q.keep K124q nin0)
    have f127 := ((f116.keep K122q).keep K124q)
    have f128 := (Tk122_0.keep0 K124q)
    have f129 := (Tk122_1.keep0 K124q)
    have f130 := (Tk122_2.keep0 K124q)
    have f131 := (F122m.keep K124q nin0)
    have f132 := (F122s.keep K124q nin0)
    have f133 := (F122e.keep K124q nin0)
    obtain ⟨cq134, kq134, q134a, q134b, q134c⟩ := isOf hZ rfl f127
    obtain ⟨_, _, ⟨T134, L134, k134, n134⟩, -, X134, ⟨Lc134, hQ134, l134, y134, z134⟩, st134⟩ := X124.interfaceBack hx (xi := my6) (y := my3) hown (mvT hZ (ow hw 270 rfl)) (mvT hZ (ow hw 271 rfl)) (mvT hZ (ow hw 272 rfl)) (mvT hZ (ow hw 273 rfl)) (mvT hZ (ow hw 274 rfl)) (mvT hZ (ow hw 275 rfl)) (mvT hZ (ow hw 276 rfl)) (mvT hZ (ow hw 139 rfl)) (by decide) (backC (W := 0) (rm_add2 l Z a0 hw [] b100 t111 kb111 a104 a113 a124 T124.heap n0 Z125 O125 f127 f131 f132 f133 g_b100 T124q.exa f126 Ov111q g_t111) hZ (ow hw 277 rfl) (ow hw 28 rfl) (by decide) (by decide)) q134a q134b q134c (g := (mkF m 149 #[iv i0, iv i1, iv i2, iv i3, iv i4, iv i5, iv (oI nl), iv (oI n1), iv (oI n2), iv (oI n3), iv mL, iv m1, iv m2, iv m3, iv (3 : Int32), rv a98, rv b100, uu, uu, uu, uu, uu, uu, uu, uu, uu, uu, uu, uu, uu] [(.ref a124), (.ref b100)])) rfl (by rw [hml]; rfl) (Steps.refl _) (argsL := [(.ref a124)]) (rest := []) (lenOf pd_960 rfl) rfl (jL rfl) (hb hby at_149) (fun _ _ => ⟨rfl, rfl, (by decide : 26 + 0 ≤ _), (by decide : 1045 + 0 ≤ _)⟩)
    dsimp only [Pt.U, Pt.locs, Pt.cells, Pt.slots] at X134 l134 y134 z134 st134 hQ134
    subst l134 y134 z134
    obtain ⟨rfl, N134q, K134q, V134q, F134m, F134s, F134e⟩ := hQ134
    have N134 := Fr.app N124 N134q
    have r135 : CHr Z jo T124.vm T124.heap T124.vm T134.heap := CHr.keep K134q (sfS (Safe.exa hZ.alike f127 (by decide) (by decide)) (sfS (Safe.arv hZ.alike f126 (by decide)) sf0)) R125.1
    have R135 := R125.trans r135
    have Z135 := nt Z125 K134q.1
    have O135 := O125.keep K134q (allS g_b100 (allS g_t111 all0))
    have K135 := K125.trans K134q (allS (Or.inr sz_b100) (allS (Or.inr sz_t111) all0))
    have Tk134_0 := f128.keepAO K134q f127 (by decide) (ow hw 27 rfl) f126 (ow hw 6 rfl)
    have Tk134_1 := f129.keepAO K134q f127 (by decide) (ow hw 27 rfl) f126 (ow hw 6 rfl)
    have Tk134_2 := f130.keepAO K134q f127 (by decide) (ow hw 27 rfl) f126 (ow hw 6 rfl)
    have Tk134_3 := T124q.keepAO K134q f127 (by decide) (ow hw 27 rfl) f126 (ow hw 6 rfl)
    refine gsW (S' := T134.setTop (mkF m 154 #[iv i0, iv i1, iv i2, iv i3, iv i4, iv i5, iv (oI nl), iv (oI n1), iv (oI n2), iv (oI n3), iv mL, iv m1, iv m2, iv m3, iv (3 : Int32), rv a98, rv b100, uu, uu, uu, uu, uu, uu, uu, uu, uu, uu, uu, uu, uu] [(.int (1 : Int32))])) (fun _ k => st134.trans k) ?_
    refine gsW (fun _ k => jW X134 hq at_154 rfl (jy X134 hq at_155 rfl rfl (jy X134 hq at_157 rfl rfl k))) ?_
    have f136 := (f127.keep K134q)
    refine cSS (rest := []) X134 hx hS (nt (Nat.le_refl T124.heap.size) K134q.1) hZ hown (ow hw 50 rfl) (ow hw 51 rfl) (ow hw 52 rfl) (ow hw 53 rfl) (rm_wrap3 l Z a0 hw [] a98 (jc nl mL) b100 t111 kb111 a104 a113 a124 (jc n1 m1) (jc n2 m2) (jc n3 m3) z T134.heap n0 Z135 O135 S0 hz f136 F134m F134s F134e V134q Tk134_0 (jK hm0) (by rw [jq]; exact hl0) Tk134_1 (jK hm1) (by rw [jq]; exact hl1) Tk134_2 (jK hm2) (by rw [jq]; exact hl2) Tk134_3 (jK hm3) (by rw [jq]; exact hl3)) (jJ hw) R135.1 hby at_159 rfl pd_958 0 (by rw [hml]; rfl) rfl rfl rfl rfl (by decide) (by decide) fun _ T137 Lc137 X137 hS hZ hown hQ137 rq137 => ?_
    obtain ⟨a137, rfl, N137q, K137q, T137q⟩ := hQ137
    have N137 := Fr.app N134 N137q
    have r138 : CHr Z jo T124.vm T134.heap T137.vm T137.heap := rq137
    have R138 := R135.trans r138
    have Z138 := nt Z135 K137q.1
    have O138 := O135.keep K137q all0
    have K138 := K135.trans K137q all0
    refine gsW (fun _ k => jQ X137 hq at_162 rfl (jj rfl) (ja X137 hq at_164 rfl (je X137 hq at_166 (jj rfl) (ja X137 hq at_168 rfl (je X137 hq at_170 (jj rfl) k))))) ?_
    refine gsW (S' := T137.setTop (mkF m 172 #[iv i0, iv i1, iv i2, iv i3, iv i4, iv i5, iv (oI nl), iv (oI n1), iv (oI n2), iv (oI n3), iv mL, iv m1, iv m2, iv m3, iv (3 : Int32), rv a98, rv b100, rv a137, iv (oI nl), iv (oI nl), uu, uu, uu, uu, uu, uu, uu, uu, uu, uu] [])) (fun _ k => k) ?_
    refine gsW (fun _ k => ja X137 hq at_172 rfl (je X137 hq at_174 (jj rfl) (ja X137 hq at_176 rfl (jf (v := (1 : Int32)) X137 hq at_178 (jm X137 hq at_179 (flt (by decide : ¬ ((3 : Int32) < (1 : Int32)))).1 (ja X137 hq at_182 rfl (ja X137 hq at_184 rfl (jt X137 hq at_186 (je X137 hq at_187 (jF rfl rfl) (ja X137 hq at_189 rfl (ja X137 hq at_191 rfl (jt X137 hq at_193 (je X137 hq at_194 (jF rfl rfl) (jf (v := (0 : Int32)) X137 hq at_196 (je X137 hq at_197 (jj rfl) (ja X137 hq at_199 rfl (je X137 hq at_201 (jj rfl) (ja X137 hq at_203 rfl (je X137 hq at_205 (jj rfl) (ja X137 hq at_207 rfl (jf (v := (2 : Int32)) X137 hq at_209 (jm X137 hq at_210 (flt (by decide : ¬ ((3 : Int32) < (2 : Int32)))).1 (ja X137 hq at_213 rfl (jf (v := (1 : Int32)) X137 hq at_215 (jt X137 hq at_216 (ja X137 hq at_217 rfl (jt X137 hq at_219 (jz (v := (80 : Int32)) X137 hq at_220 k)))))))))))))))))))))))))))) ?_
    by_cases hc139 : (80 : Int32) < ((((oI nl) + (oI n1)) + (1 : Int32)) + (oI n2))
    ·refine gsW (fun _ k => jm X137 hq at_222 (tlt hc139).2.2.2 (jf (v := (1 : Int32)) X137 hq at_225 (jp (pc' := 230) X137 hq at_226 (je X137 hq at_230 (jF rfl rfl) k)))) ?_
     refine gsW (S' := T137.setTop (mkF m 232 #[iv i0, iv i1, iv i2, iv i3, iv i4, iv i5, iv (oI nl), iv (oI n1), iv (oI n2), iv (oI n3), iv mL, iv m1, iv m2, iv m3, iv (3 : Int32), rv a98, rv b100, rv a137, iv (((oI nl) + (oI n1))), iv (((oI nl) + (oI n1))), iv (oI nl), iv (1 : Int32), iv (((oI nl) + (oI n1))), iv (((oI nl) + (oI n1))), uu, uu, uu, uu, uu, uu] [])) (fun _ k => k) ?_
     refine gsW (fun _ k => ja X137 hq at_232 rfl (ja X137 hq at_234 rfl (jG X137 hq at_236 ((if0 _ _).trans (feq (by decide : ¬ ((1 : Int32) = (0 : Int32)))).1) (jf (v := (1 : Int32)) X137 hq at_239 (ja X137 hq at_240 rfl (jt X137 hq at_242 (jp (pc' := 247) X137 hq at_243 (jt X137 hq at_247 (je X137 hq at_248 (jF rfl rfl) (ja X137 hq at_250 rfl (ja X137 hq at_252 rfl (jt X137 hq at_254 (je X137 hq at_255 (jF rfl rfl) (ja X137 hq at_257 rfl (jG X137 hq at_259 ((if0 _ _).trans (feq (by decide : ¬ ((1 : Int32) = (0 : Int32)))).1) (ja X137 hq at_262 rfl (ja X137 hq at_264 rfl (jt X137 hq at_266 (jp (pc' := 277) X137 hq at_267 (je X137 hq at_277 (jF rfl rfl) (jf (v := (0 : Int32)) X137 hq at_279 (je X137 hq at_280 (jj rfl) (ja X137 hq at_282 rfl (je X137 hq at_284 (jj rfl) (ja X137 hq at_286 rfl (je X137 hq at_288 (jj rfl) (ja X137 hq at_290 rfl (jf (v := (3 : Int32)) X137 hq at_292 (jm X137 hq at_293 (flt (by decide : ¬ ((3 : Int32) < (3 : Int32)))).1 (ja X137 hq at_296 rfl (jf (v := (1 : Int32)) X137 hq at_298 (jt X137 hq at_299 (ja X137 hq at_300 rfl (jt X137 hq at_302 (jz (v := (80 : Int32)) X137 hq at_303 k))))))))))))))))))))))))))))))))))) ?_
     by_cases hc140 : (80 : Int32) < ((((oI nl) + (oI n2)) + (1 : Int32)) + (oI n3))
     ·refine gsW (fun _ k => jm X137 hq at_305 (tlt hc140).2.2.2 (jf (v := (1 : Int32)) X137 hq at_308 (jp (pc' := 313) X137 hq at_309 (je X137 hq at_313 (jF rfl rfl) k)))) ?_
      refine gsW (S' := T137.setTop (mkF m 315 #[iv i0, iv i1, iv i2, iv i3, iv i4, iv i5, iv (oI nl), iv (oI n1), iv (oI n2), iv (oI n3), iv mL, iv m1, iv m2, iv m3, iv (3 : Int32), rv a98, rv b100, rv a137, iv (((oI nl) + (oI n2))), iv (((((oI nl) + (oI n1)) + ((1 : Int32) + (oI nl))) + (oI n2))), iv (oI nl), iv (1 : Int32), iv (((oI nl) + (oI n1))), iv ((((oI nl) + (oI n1)) + ((1 : Int32) + (oI nl)))), iv (1 : Int32), iv (((((oI nl) + (oI n1)) + ((1 : Int32) + (oI nl))) + (oI n2))), iv (((((oI nl) + (oI n1)) + ((1 : Int32) + (oI nl))) + (oI n2))), uu, uu, uu] [])) (fun _ k => k) ?_
      refine gsW (fun _ k => ja X137 hq at_315 rfl (ja X137 hq at_317 rfl (jG X137 hq at_319 ((if0 _ _).trans (feq (by decide : ¬ ((1 : Int32) = (0 : Int32)))).1) (jf (v := (1 : Int32)) X137 hq at_322 (ja X137 hq at_323 rfl (jt X137 hq at_325 (jp (pc' := 330) X137 hq at_326 (jt X137 hq at_330 (je X137 hq at_331 (jF rfl rfl) (ja X137 hq at_333 rfl (ja X137 hq at_335 rfl (jt X137 hq at_337 (je X137 hq at_338 (jF rfl rfl) (ja X137 hq at_340 rfl (jG X137 hq at_342 ((if0 _ _).trans (feq (by decide : ¬ ((1 : Int32) = (0 : Int32)))).1) (ja X137 hq at_345 rfl (ja X137 hq at_347 rfl (jt X137 hq at_349 (jp (pc' := 360) X137 hq at_350 (je X137 hq at_360 (jF rfl rfl) (ja X137 hq at_362 rfl (jf (v := (1 : Int32)) X137 hq at_364 (jt X137 hq at_365 k))))))))))))))))))))))) ?_
      have y2 : 80 < (((nl + n1) + 1) + n2) := (jg (a := 80) (by omega) (by omega)).mp (by have q := hc139; (try simp only [jd, jk, jl] at q); exact q)
      have d2 : jaa (jc nl mL) (jc n1 m1) (jc n2 m2) := by unfold jaa; simp only [jq]; exact y2
      have y3 : 80 < (((nl + n2) + 1) + n3) := (jg (a := 80) (by omega) (by omega)).mp (by have q := hc140; (try simp only [jd, jk, jl] at q); exact q)
      have d3 : own_C3 (jc nl mL) (jc n1 m1) (jc n2 m2) (jc n3 m3) := by unfold own_C3 own_col2; rw [if_pos d2]; simp only [jq]; omega
      have hln : ((jr (jc nl mL) (jc n1 m1) (jc n2 m2) (jc n3 m3)) ++ [10]).length = ((((((nl + n1) + (1 + nl)) + n2) + (1 + nl)) + n3) + 1) := by unfold jr js; rw [if_pos d3, if_pos d2]; simp only [List.length_append, List.length_replicate, List.length_cons, List.length_nil, jq] <;> omega
      have hl4 : ((jr (jc nl mL) (jc n1 m1) (jc n2 m2) (jc n3 m3)) ++ [10]).length ≤ 4000 := by omega
      have et : (((((((oI nl) + (oI n1)) + ((1 : Int32) + (oI nl))) + (oI n2)) + ((1 : Int32) + (oI nl))) + (oI n3)) + (1 : Int32)) = oI (((((((nl + n1) + (1 + nl)) + n2) + (1 + nl)) + n3) + 1)) := by simp only [jd, jk, jl]
      rw [et]
      refine gsW (fun _ k => je X137 hq at_366 (jj rfl) (jy X137 hq at_368 rfl rfl k)) ?_
      refine cVW (rest := []) X137 hx hZ hown (ow hw 229 rfl) (ow hw 56 rfl) (nfs hZ (ow hw 58 rfl)) (ow hw 58 rfl) (ow hw 57 rfl) (ow hw 7 rfl) (ow hw 59 rfl) (rm_lenL l Z a0 hw [] a137 ((jr (jc nl mL) (jc n1 m1) (jc n2 m2) (jc n3 m3)) ++ [10]) z T137.heap n0 Z138 O138 T137q S0 hz) hby at_370 rfl pd_644 0 (by rw [hml]; rfl) T137q.exa rfl rfl rfl rfl (by decide) (by decide) fun _ T141 Lc141 X141 hQ141 => ?_
      obtain ⟨rfl, N141q, e141q⟩ := hQ141
      have N141 := Fr.app N137 N141q
      refine gsW (fun _ k => ja X141 hq at_373 rfl (jh (pc' := 380) X141 hq at_375 (teq (by rw [hln])).1 (ja X141 hq at_380 rfl (jac X141 hq hown (mvT hZ (ow hw 230 rfl)) at_382 (jab X141 hq at_384 (ja X141 hq at_385 rfl (Jvm.RoadKit.iremM X141 hx (g := (mkF m 387 #[iv i0, iv i1, iv i2, iv i3, iv i4, iv i5, iv (oI nl), iv (oI n1), iv (oI n2), iv (oI n3), iv mL, iv m1, iv m2, iv m3, iv (3 : Int32), rv a98, rv b100, rv a137, iv (((oI nl) + (oI n3))), iv (((((((oI nl) + (oI n1)) + ((1 : Int32) + (oI nl))) + (oI n2)) + ((1 : Int32) + (oI nl))) + (oI n3))), iv (oI nl), iv (1 : Int32), iv (((oI nl) + (oI n1))), iv ((((oI nl) + (oI n1)) + ((1 : Int32) + (oI nl)))), iv (1 : Int32), iv (((((oI nl) + (oI n1)) + ((1 : Int32) + (oI nl))) + (oI n2))), iv ((((((oI nl) + (oI n1)) + ((1 : Int32) + (oI nl))) + (oI n2)) + ((1 : Int32) + (oI nl)))), iv ((oI (((((((nl + n1) + (1 + nl)) + n2) + (1 + nl)) + n3) + 1)))), uu, uu] [(.int (oI (((((((nl + n1) + (1 + nl)) + n2) + (1 + nl)) + n3) + 1)))), (.int (i5 &&& (2147483647 : Int32)))])) rfl (hb hby at_387) rfl (jaf (b := 0) (by omega) (by omega) (by omega)) k))))))) ?_
      obtain ⟨jn, ej, hj⟩ := own_rem (x := i5) (t := ((((((nl + n1) + (1 + nl)) + n2) + (1 + nl)) + n3) + 1)) (by omega) (by omega)
      rw [ej]
      refine gsW (fun _ k => je X141 hq at_388 (jj rfl) k) ?_
      have mid142 : ∀ e_142 : Int32, ((((jr (jc nl mL) (jc n1 m1) (jc n2 m2) (jc n3 m3)) ++ [10]).getD jn 0) = e_142) → OwnGoW p e below s Z jo (fun v h L => v = some (.int 1) ∧ Fr n0 L) room_1.cells room_1.slots (T141.setTop (mkF m 581 #[iv i0, iv i1, iv i2, iv i3, iv i4, iv i5, iv (oI nl), iv (oI n1), iv (oI n2), iv (oI n3), iv mL, iv m1, iv m2, iv m3, iv (3 : Int32), rv a98, rv b100, rv a137, iv (((oI nl) + (oI n3))), iv (((((((oI nl) + (oI n1)) + ((1 : Int32) + (oI nl))) + (oI n2)) + ((1 : Int32) + (oI nl))) + (oI n3))), iv (oI nl), iv (1 : Int32), iv (((oI nl) + (oI n1))), iv ((((oI nl) + (oI n1)) + ((1 : Int32) + (oI nl)))), iv (1 : Int32), iv (((((oI nl) + (oI n1)) + ((1 : Int32) + (oI nl))) + (oI n2))), iv ((((((oI nl) + (oI n1)) + ((1 : Int32) + (oI nl))) + (oI n2)) + ((1 : Int32) + (oI nl)))), iv ((oI (((((((nl + n1) + (1 + nl)) + n2) + (1 + nl)) + n3) + 1)))), iv (oI jn), iv e_142] [])) := by
       intro e_142 hfin
       refine gsW (fun _ k => jy X141 hq at_581 rfl rfl (ja X141 hq at_583 rfl k)) ?_
       refine cVW (rest := []) X141 hx hZ hown (ow hw 231 rfl) (ow hw 232 rfl) (nfs hZ (ow hw 234 rfl)) (ow hw 234 rfl) (ow hw 233 rfl) (ow hw 7 rfl) (ow hw 235 rfl) (rm_chL l Z a0 hw [] a137 ((jr (jc nl mL) (jc n1 m1) (jc n2 m2) (jc n3 m3)) ++ [10]) jn (oI jn) z fm T137.heap n0 Z138 O138 T137q (jU (own_w3b (jK hm0) (jK hm1) (jK hm2) (jK hm3)) (by decide)) (by rw [hln]; exact hj) hl4 rfl S0 hz S4 hfm) hby at_585 e141q pd_959 0 (by rw [hml]; rfl) T137q.exa rfl rfl rfl rfl (by decide) (by decide) fun _ T143 Lc143 X143 hQ143 => ?_
       obtain ⟨rfl, N143q, e143q⟩ := hQ143
       have N143 := Fr.app N141 N143q
       refine gsW (fun _ k => ja X143 hq at_588 rfl (jm X143 hq at_590 (teq hfin).2 (jf (v := (1 : Int32)) X143 hq at_593 (jp (pc' := 598) X143 hq at_594 k)))) ?_
       refine goutW (v := some (.int (1 : Int32))) X143 hS (Nat.le_refl T137.heap.size) hZ (jJ hw) hh e143q R138 Bd.notSynchronized (jA Bd.returns) (by decide) (by decide) ?_ (fun fs hr => retN X143 hx (t := .boolean) Bd.returns (by simp) (hb hby at_598) hr)
       exact ⟨rfl, N143⟩
      refine gsW (fun _ k => ja X141 hq at_390 rfl (ja X141 hq at_392 rfl k)) ?_
      by_cases hc144 : (oI jn) < (oI nl)
      ·refine gsW (fun _ k => jm X141 hq at_394 (tlt hc144).2.1 (ja X141 hq at_397 rfl k)) ?_
       by_cases hc145 : (oI jn) = (0 : Int32)
       ·refine gsW (fun _ k => jG X141 hq at_399 ((if0 _ _).trans (teq hc145).2) (ja X141 hq at_402 rfl (jp (pc' := 408) X141 hq at_404 (je X141 hq at_408 (jj rfl) (jp (pc' := 581) X141 hq at_410 k))))) ?_
        have yhc144 : jn < nl := (jg (by omega) (by omega)).mp hc144
        have yhc145 : jn = 0 := (jB (b := 0) (by omega) (by omega)).mp hc145
        have fin : (((jr (jc nl mL) (jc n1 m1) (jc n2 m2) (jc n3 m3)) ++ [10]).getD jn 0) = mL := by
         unfold jr js; rw [if_pos d3, if_pos d2]; simp only [jC, jv, ju, jD, List.length_append, List.length_replicate, List.length_cons, List.length_nil, jq]
         repeat' split
         all_goals first | rfl | (exfalso; omega)
        exact mid142 mL fin
       ·refine gsW (fun _ k => jI (pc' := 407) X141 hq at_399 ((if0 _ _).trans (feq hc145).2) (jf (v := (0 : Int32)) X141 hq at_407 (je X141 hq at_408 (jj rfl) (jp (pc' := 581) X141 hq at_410 k)))) ?_
        have yhc144 : jn < nl := (jg (by omega) (by omega)).mp hc144
        have yhc145 : ¬ jn = 0 := fun q => hc145 ((jB (b := 0) (by omega) (by omega)).mpr q)
        have fin : (((jr (jc nl mL) (jc n1 m1) (jc n2 m2) (jc n3 m3)) ++ [10]).getD jn 0) = (0 : Int32) := by
         unfold jr js; rw [if_pos d3, if_pos d2]; simp only [jC, jv, ju, jD, List.length_append, List.length_replicate, List.length_cons, List.length_nil, jq]
         repeat' split
         all_goals first | rfl | (exfalso; omega)
        exact mid142 (0 : Int32) fin
      ·refine gsW (fun _ k => jh (pc' := 413) X141 hq at_394 (flt hc144).2.1 (ja X141 hq at_413 rfl (jf (v := (1 : Int32)) X141 hq at_415 (jm X141 hq at_416 (flt (by decide : ¬ ((3 : Int32) < (1 : Int32)))).1 (ja X141 hq at_419 rfl (ja X141 hq at_421 rfl (ja X141 hq at_423 rfl (jt X141 hq at_425 k)))))))) ?_
       by_cases hc146 : (oI jn) < ((oI nl) + (oI n1))
       ·refine gsW (fun _ k => jm X141 hq at_426 (tlt hc146).2.1 (ja X141 hq at_429 rfl (ja X141 hq at_431 rfl k))) ?_
        by_cases hc147 : (oI jn) = (oI nl)
        ·refine gsW (fun _ k => jm X141 hq at_433 (teq hc147).2 (ja X141 hq at_436 rfl (jp (pc' := 442) X141 hq at_438 (je X141 hq at_442 (jj rfl) (jp (pc' := 581) X141 hq at_444 k))))) ?_
         have yhc144 : ¬ jn < nl := mt (jg (by omega) (by omega)).mpr hc144
         have yhc146 : jn < (nl + n1) := (jg (by omega) (by omega)).mp (by have q := hc146; (try simp only [jd, jk, jl] at q); exact q)
         have yhc147 : jn = nl := (jB (by omega) (by omega)).mp hc147
         have fin : (((jr (jc nl mL) (jc n1 m1) (jc n2 m2) (jc n3 m3)) ++ [10]).getD jn 0) = m1 := by
          unfold jr js; rw [if_pos d3, if_pos d2]; simp only [jC, jv, ju, jD, List.length_append, List.length_replicate, List.length_cons, List.length_nil, jq]
          repeat' split
          all_goals first | rfl | (exfalso; omega)
         exact mid142 m1 fin
        ·refine gsW (fun _ k => jh (pc' := 441) X141 hq at_433 (feq hc147).2 (jf (v := (0 : Int32)) X141 hq at_441 (je X141 hq at_442 (jj rfl) (jp (pc' := 581) X141 hq at_444 k)))) ?_
         have yhc144 : ¬ jn < nl := mt (jg (by omega) (by omega)).mpr hc144
         have yhc146 : jn < (nl + n1) := (jg (by omega) (by omega)).mp (by have q := hc146; (try simp only [jd, jk, jl] at q); exact q)
         have yhc147 : ¬ jn = nl := mt (jB (by omega) (by omega)).mpr hc147
         have fin : (((jr (jc nl mL) (jc n1 m1) (jc n2 m2) (jc n3 m3)) ++ [10]).getD jn 0) = (0 : Int32) := by
          unfold jr js; rw [if_pos d3, if_pos d2]; simp only [jC, jv, ju, jD, List.length_append, List.length_replicate, List.length_cons, List.length_nil, jq]
          repeat' split
          all_goals first | rfl | (exfalso; omega)
         exact mid142 (0 : Int32) fin
       ·refine gsW (fun _ k => jh (pc' := 447) X141 hq at_426 (flt hc146).2.1 (ja X141 hq at_447 rfl (jf (v := (2 : Int32)) X141 hq at_449 (jm X141 hq at_450 (flt (by decide : ¬ ((3 : Int32) < (2 : Int32)))).1 (ja X141 hq at_453 rfl (ja X141 hq at_455 rfl (ja X141 hq at_457 rfl (jt X141 hq at_459 k)))))))) ?_
        by_cases hc148 : (oI jn) < ((((oI nl) + (oI n1)) + ((1 : Int32) + (oI nl))) + (oI n2))
        ·refine gsW (fun _ k => jm X141 hq at_460 (tlt hc148).2.1 (ja X141 hq at_463 rfl (ja X141 hq at_465 rfl k))) ?_
         by_cases hc149 : (oI jn) < (((oI nl) + (oI n1)) + ((1 : Int32) + (oI nl)))
         ·refine gsW (fun _ k => jm X141 hq at_467 (tlt hc149).2.1 (ja X141 hq at_470 rfl (jG X141 hq at_472 ((if0 _ _).trans (feq (by decide : ¬ ((1 : Int32) = (0 : Int32)))).1) (ja X141 hq at_475 rfl (ja X141 hq at_477 rfl k))))) ?_
          by_cases hc150 : (oI jn) = ((oI nl) + (oI n1))
          ·refine gsW (fun _ k => jm X141 hq at_479 (teq hc150).2 (jz (v := (10 : Int32)) X141 hq at_482 (jp (pc' := 489) X141 hq at_484 (je X141 hq at_489 (jj rfl) (jp (pc' := 581) X141 hq at_491 k))))) ?_
           have yhc144 : ¬ jn < nl := mt (jg (by omega) (by omega)).mpr hc144
           have yhc146 : ¬ jn < (nl + n1) := fun q => hc146 (by (try simp only [jd, jk, jl]); exact (jg (by omega) (by omega)).mpr q)
           have yhc148 : jn < (((nl + n1) + (1 + nl)) + n2) := (jg (by omega) (by omega)).mp (by have q := hc148; (try simp only [jd, jk, jl] at q); exact q)
           have yhc149 : jn < ((nl + n1) + (1 + nl)) := (jg (by omega) (by omega)).mp (by have q := hc149; (try simp only [jd, jk, jl] at q); exact q)
           have yhc150 : jn = (nl + n1) := (jB (by omega) (by omega)).mp (by have q := hc150; (try simp only [jd, jk, jl] at q); exact q)
           have fin : (((jr (jc nl mL) (jc n1 m1) (jc n2 m2) (jc n3 m3)) ++ [10]).getD jn 0) = (10 : Int32) := by
            unfold jr js; rw [if_pos d3, if_pos d2]; simp only [jC, jv, ju, jD, List.length_append, List.length_replicate, List.length_cons, List.length_nil, jq]
            repeat' split
            all_goals first | rfl | (exfalso; omega)
           exact mid142 (10 : Int32) fin
          ·refine gsW (fun _ k => jh (pc' := 487) X141 hq at_479 (feq hc150).2 (jz (v := (32 : Int32)) X141 hq at_487 (je X141 hq at_489 (jj rfl) (jp (pc' := 581) X141 hq at_491 k)))) ?_
           have yhc144 : ¬ jn < nl := mt (jg (by omega) (by omega)).mpr hc144
           have yhc146 : ¬ jn < (nl + n1) := fun q => hc146 (by (try simp only [jd, jk, jl]); exact (jg (by omega) (by omega)).mpr q)
           have yhc148 : jn < (((nl + n1) + (1 + nl)) + n2) := (jg (by omega) (by omega)).mp (by have q := hc148; (try simp only [jd, jk, jl] at q); exact q)
           have yhc149 : jn < ((nl + n1) + (1 + nl)) := (jg (by omega) (by omega)).mp (by have q := hc149; (try simp only [jd, jk, jl] at q); exact q)
           have yhc150 : ¬ jn = (nl + n1) := fun q => hc150 (by (try simp only [jd, jk, jl]); exact (jB (by omega) (by omega)).mpr q)
           have fin : (((jr (jc nl mL) (jc n1 m1) (jc n2 m2) (jc n3 m3)) ++ [10]).getD jn 0) = (32 : Int32) := by
            unfold jr js; rw [if_pos d3, if_pos d2]; simp only [jC, jv, ju, jD, List.length_append, List.length_replicate, List.length_cons, List.length_nil, jq]
            repeat' split
            all_goals first | rfl | (exfalso; omega)
           exact mid142 (32 : Int32) fin
         ·refine gsW (fun _ k => jh (pc' := 494) X141 hq at_467 (flt hc149).2.1 (ja X141 hq at_494 rfl (ja X141 hq at_496 rfl k))) ?_
          by_cases hc151 : (oI jn) = (((oI nl) + (oI n1)) + ((1 : Int32) + (oI nl)))
          ·refine gsW (fun _ k => jm X141 hq at_498 (teq hc151).2 (ja X141 hq at_501 rfl (jp (pc' := 507) X141 hq at_503 (je X141 hq at_507 (jj rfl) (jp (pc' := 581) X141 hq at_509 k))))) ?_
           have yhc144 : ¬ jn < nl := mt (jg (by omega) (by omega)).mpr hc144
           have yhc146 : ¬ jn < (nl + n1) := fun q => hc146 (by (try simp only [jd, jk, jl]); exact (jg (by omega) (by omega)).mpr q)
           have yhc148 : jn < (((nl + n1) + (1 + nl)) + n2) := (jg (by omega) (by omega)).mp (by have q := hc148; (try simp only [jd, jk, jl] at q); exact q)
           have yhc149 : ¬ jn < ((nl + n1) + (1 + nl)) := fun q => hc149 (by (try simp only [jd, jk, jl]); exact (jg (by omega) (by omega)).mpr q)
           have yhc151 : jn = ((nl + n1) + (1 + nl)) := (jB (by omega) (by omega)).mp (by have q := hc151; (try simp only [jd, jk, jl] at q); exact q)
           have fin : (((jr (jc nl mL) (jc n1 m1) (jc n2 m2) (jc n3 m3)) ++ [10]).getD jn 0) = m2 := by
            unfold jr js; rw [if_pos d3, if_pos d2]; simp only [jC, jv, ju, jD, List.length_append, List.length_replicate, List.length_cons, List.length_nil, jq]
            repeat' split
            all_goals first | rfl | (exfalso; omega)
           exact mid142 m2 fin
          ·refine gsW (fun _ k => jh (pc' := 506) X141 hq at_498 (feq hc151).2 (jf (v := (0 : Int32)) X141 hq at_506 (je X141 hq at_507 (jj rfl) (jp (pc' := 581) X141 hq at_509 k)))) ?_
           have yhc144 : ¬ jn < nl := mt (jg (by omega) (by omega)).mpr hc144
           have yhc146 : ¬ jn < (nl + n1) := fun q => hc146 (by (try simp only [jd, jk, jl]); exact (jg (by omega) (by omega)).mpr q)
           have yhc148 : jn < (((nl + n1) + (1 + nl)) + n2) := (jg (by omega) (by omega)).mp (by have q := hc148; (try simp only [jd, jk, jl] at q); exact q)
           have yhc149 : ¬ jn < ((nl + n1) + (1 + nl)) := fun q => hc149 (by (try simp only [jd, jk, jl]); exact (jg (by omega) (by omega)).mpr q)
           have yhc151 : ¬ jn = ((nl + n1) + (1 + nl)) := fun q => hc151 (by (try simp only [jd, jk, jl]); exact (jB (by omega) (by omega)).mpr q)
           have fin : (((jr (jc nl mL) (jc n1 m1) (jc n2 m2) (jc n3 m3)) ++ [10]).getD jn 0) = (0 : Int32) := by
            unfold jr js; rw [if_pos d3, if_pos d2]; simp only [jC, jv, ju, jD, List.length_append, List.length_replicate, List.length_cons, List.length_nil, jq]
            repeat' split
            all_goals first | rfl | (exfalso; omega)
           exact mid142 (0 : Int32) fin
        ·refine gsW (fun _ k => jh (pc' := 512) X141 hq at_460 (flt hc148).2.1 (ja X141 hq at_512 rfl (jf (v := (3 : Int32)) X141 hq at_514 (jm X141 hq at_515 (flt (by decide : ¬ ((3 : Int32) < (3 : Int32)))).1 (ja X141 hq at_518 rfl (ja X141 hq at_520 rfl (ja X141 hq at_522 rfl (jt X141 hq at_524 k)))))))) ?_
         by_cases hc152 : (oI jn) < ((((((oI nl) + (oI n1)) + ((1 : Int32) + (oI nl))) + (oI n2)) + ((1 : Int32) + (oI nl))) + (oI n3))
         ·refine gsW (fun _ k => jm X141 hq at_525 (tlt hc152).2.1 (ja X141 hq at_528 rfl (ja X141 hq at_530 rfl k))) ?_
          by_cases hc153 : (oI jn) < (((((oI nl) + (oI n1)) + ((1 : Int32) + (oI nl))) + (oI n2)) + ((1 : Int32) + (oI nl)))
          ·refine gsW (fun _ k => jm X141 hq at_532 (tlt hc153).2.1 (ja X141 hq at_535 rfl (jG X141 hq at_537 ((if0 _ _).trans (feq (by decide : ¬ ((1 : Int32) = (0 : Int32)))).1) (ja X141 hq at_540 rfl (ja X141 hq at_542 rfl k))))) ?_
           by_cases hc154 : (oI jn) = ((((oI nl) + (oI n1)) + ((1 : Int32) + (oI nl))) + (oI n2))
           ·refine gsW (fun _ k => jm X141 hq at_544 (teq hc154).2 (jz (v := (10 : Int32)) X141 hq at_547 (jp (pc' := 554) X141 hq at_549 (je X141 hq at_554 (jj rfl) (jp (pc' := 581) X141 hq at_556 k))))) ?_
            have yhc144 : ¬ jn < nl := mt (jg (by omega) (by omega)).mpr hc144
            have yhc146 : ¬ jn < (nl + n1) := fun q => hc146 (by (try simp only [jd, jk, jl]); exact (jg (by omega) (by omega)).mpr q)
            have yhc148 : ¬ jn < (((nl + n1) + (1 + nl)) + n2) := fun q => hc148 (by (try simp only [jd, jk, jl]); exact (jg (by omega) (by omega)).mpr q)
            have yhc152 : jn < (((((nl + n1) + (1 + nl)) + n2) + (1 + nl)) + n3) := (jg (by omega) (by omega)).mp (by have q := hc152; (try simp only [jd, jk, jl] at q); exact q)
            have yhc153 : jn < ((((nl + n1) + (1 + nl)) + n2) + (1 + nl)) := (jg (by omega) (by omega)).mp (by have q := hc153; (try simp only [jd, jk, jl] at q); exact q)
            have yhc154 : jn = (((nl + n1) + (1 + nl)) + n2) := (jB (by omega) (by omega)).mp (by have q := hc154; (try simp only [jd, jk, jl] at q); exact q)
            have fin : (((jr (jc nl mL) (jc n1 m1) (jc n2 m2) (jc n3 m3)) ++ [10]).getD jn 0) = (10 : Int32) := by
             unfold jr js; rw [if_pos d3, if_pos d2]; simp only [jC, jv, ju, jD, List.length_append, List.length_replicate, List.length_cons, List.length_nil, jq]
             repeat' split
             all_goals first | rfl | (exfalso; omega)
            exact mid142 (10 : Int32) fin
           ·refine gsW (fun _ k => jh (pc' := 552) X141 hq at_544 (feq hc154).2 (jz (v := (32 : Int32)) X141 hq at_552 (je X141 hq at_554 (jj rfl) (jp (pc' := 581) X141 hq at_556 k)))) ?_
            have yhc144 : ¬ jn < nl := mt (jg (by omega) (by omega)).mpr hc144
            have yhc146 : ¬ jn < (nl + n1) := fun q => hc146 (by (try simp only [jd, jk, jl]); exact (jg (by omega) (by omega)).mpr q)
            have yhc148 : ¬ jn < (((nl + n1) + (1 + nl)) + n2) := fun q => hc148 (by (try simp only [jd, jk, jl]); exact (jg (by omega) (by omega)).mpr q)
            have yhc152 : jn < (((((nl + n1) + (1 + nl)) + n2) + (1 + nl)) + n3) := (jg (by omega) (by omega)).mp (by have q := hc152; (try simp only [jd, jk, jl] at q); exact q)
            have yhc153 : jn < ((((nl + n1) + (1 + nl)) + n2) + (1 + nl)) := (jg (by omega) (by omega)).mp (by have q := hc153; (try simp only [jd, jk, jl] at q); exact q)
            have yhc154 : ¬ jn = (((nl + n1) + (1 + nl)) + n2) := fun q => hc154 (by (try simp only [jd, jk, jl]); exact (jB (by omega) (by omega)).mpr q)
            have fin : (((jr (jc nl mL) (jc n1 m1) (jc n2 m2) (jc n3 m3)) ++ [10]).getD jn 0) = (32 : Int32) := by
             unfold jr js; rw [if_pos d3, if_pos d2]; simp only [jC, jv, ju, jD, List.length_append, List.length_replicate, List.length_cons, List.length_nil, jq]
             repeat' split
             all_goals first | rfl | (exfalso; omega)
            exact mid142 (32 : Int32) fin
          ·refine gsW (fun _ k => jh (pc' := 559) X141 hq at_532 (flt hc153).2.1 (ja X141 hq at_559 rfl (ja X141 hq at_561 rfl k))) ?_
           by_cases hc155 : (oI jn) = (((((oI nl) + (oI n1)) + ((1 : Int32) + (oI nl))) + (oI n2)) + ((1 : Int32) + (oI nl)))
           ·refine gsW (fun _ k => jm X141 hq at_563 (teq hc155).2 (ja X141 hq at_566 rfl (jp (pc' := 572) X141 hq at_568 (je X141 hq at_572 (jj rfl) (jp (pc' := 581) X141 hq at_574 k))))) ?_
            have yhc144 : ¬ jn < nl := mt (jg (by omega) (by omega)).mpr hc144
            have yhc146 : ¬ jn < (nl + n1) := fun q => hc146 (by (try simp only [jd, jk, jl]); exact (jg (by omega) (by omega)).mpr q)
            have yhc148 : ¬ jn < (((nl + n1) + (1 + nl)) + n2) := fun q => hc148 (by (try simp only [jd, jk, jl]); exact (jg (by omega) (by omega)).mpr q)
            have yhc152 : jn < (((((nl + n1) + (1 + nl)) + n2) + (1 + nl)) + n3) := (jg (by omega) (by omega)).mp (by have q := hc152; (try simp only [jd, jk, jl] at q); exact q)
            have yhc153 : ¬ jn < ((((nl + n1) + (1 + nl)) + n2) + (1 + nl)) := fun q => hc153 (by (try simp only [jd, jk, jl]); exact (jg (by omega) (by omega)).mpr q)
            have yhc155 : jn = ((((nl + n1) + (1 + nl)) + n2) + (1 + nl)) := (jB (by omega) (by omega)).mp (by have q := hc155; (try simp only [jd, jk, jl] at q); exact q)
            have fin : (((jr (jc nl mL) (jc n1 m1) (jc n2 m2) (jc n3 m3)) ++ [10]).getD jn 0) = m3 := by
             unfold jr js; rw [if_pos d3, if_pos d2]; simp only [jC, jv, ju, jD, List.length_append, List.length_replicate, List.length_cons, List.length_nil, jq]
             repeat' split
             all_goals first | rfl | (exfalso; omega)
            exact mid142 m3 fin
           ·refine gsW (fun _ k => jh (pc' := 571) X141 hq at_563 (feq hc155).2 (jf (v := (0 : Int32)) X141 hq at_571 (je X141 hq at_572 (jj rfl) (jp (pc' := 581) X141 hq at_574 k)))) ?_
            have yhc144 : ¬ jn < nl := mt (jg (by omega) (by omega)).mpr hc144
            have yhc146 : ¬ jn < (nl + n1) := fun q => hc146 (by (try simp only [jd, jk, jl]); exact (jg (by omega) (by omega)).mpr q)
            have yhc148 : ¬ jn < (((nl + n1) + (1 + nl)) + n2) := fun q => hc148 (by (try simp only [jd, jk, jl]); exact (jg (by omega) (by omega)).mpr q)
            have yhc152 : jn < (((((nl + n1) + (1 + nl)) + n2) + (1 + nl)) + n3) := (jg (by omega) (by omega)).mp (by have q := hc152; (try simp only [jd, jk, jl] at q); exact q)
            have yhc153 : ¬ jn < ((((nl + n1) + (1 + nl)) + n2) + (1 + nl)) := fun q => hc153 (by (try simp only [jd, jk, jl]); exact (jg (by omega) (by omega)).mpr q)
            have yhc155 : ¬ jn = ((((nl + n1) + (1 + nl)) + n2) + (1 + nl)) := fun q => hc155 (by (try simp only [jd, jk, jl]); exact (jB (by omega) (by omega)).mpr q)
            have fin : (((jr (jc nl mL) (jc n1 m1) (jc n2 m2) (jc n3 m3)) ++ [10]).getD jn 0) = (0 : Int32) := by
             unfold jr js; rw [if_pos d3, if_pos d2]; simp only [jC, jv, ju, jD, List.length_append, List.length_replicate, List.length_cons, List.length_nil, jq]
             repeat' split
             all_goals first | rfl | (exfalso; omega)
            exact mid142 (0 : Int32) fin
         ·refine gsW (fun _ k => jh (pc' := 577) X141 hq at_525 (flt hc152).2.1 (jz (v := (10 : Int32)) X141 hq at_577 (je X141 hq at_579 (jj rfl) k))) ?_
          have yhc144 : ¬ jn < nl := mt (jg (by omega) (by omega)).mpr hc144
          have yhc146 : ¬ jn < (nl + n1) := fun q => hc146 (by (try simp only [jd, jk, jl]); exact (jg (by omega) (by omega)).mpr q)
          have yhc148 : ¬ jn < (((nl + n1) + (1 + nl)) + n2) := fun q => hc148 (by (try simp only [jd, jk, jl]); exact (jg (by omega) (by omega)).mpr q)
          have yhc152 : ¬ jn < (((((nl + n1) + (1 + nl)) + n2) + (1 + nl)) + n3) := fun q => hc152 (by (try simp only [jd, jk, jl]); exact (jg (by omega) (by omega)).mpr q)
          have fin : (((jr (jc nl mL) (jc n1 m1) (jc n2 m2) (jc n3 m3)) ++ [10]).getD jn 0) = (10 : Int32) := by
           unfold jr js; rw [if_pos d3, if_pos d2]; simp only [jC, jv, ju, jD, List.length_append, List.length_replicate, List.length_cons, List.length_nil, jq]
           repeat' split
           all_goals first | rfl | (exfalso; omega)
          exact mid142 (10 : Int32) fin
     ·refine gsW (fun _ k => jh (pc' := 312) X137 hq at_305 (flt hc140).2.2.2 (jf (v := (0 : Int32)) X137 hq at_312 (je X137 hq at_313 (jF rfl rfl) k))) ?_
      refine gsW (S' := T137.setTop (mkF m 315 #[iv i0, iv i1, iv i2, iv i3, iv i4, iv i5, iv (oI nl), iv (oI n1), iv (oI n2), iv (oI n3), iv mL, iv m1, iv m2, iv m3, iv (3 : Int32), rv a98, rv b100, rv a137, iv (((oI nl) + (oI n2))), iv (((((oI nl) + (oI n1)) + ((1 : Int32) + (oI nl))) + (oI n2))), iv (oI nl), iv (1 : Int32), iv (((oI nl) + (oI n1))), iv ((((oI nl) + (oI n1)) + ((1 : Int32) + (oI nl)))), iv (0 : Int32), iv (((((oI nl) + (oI n1)) + ((1 : Int32) + (oI nl))) + (oI n2))), iv (((((oI nl) + (oI n1)) + ((1 : Int32) + (oI nl))) + (oI n2))), uu, uu, uu] [])) (fun _ k => k) ?_
      refine gsW (fun _ k => ja X137 hq at_315 rfl (ja X137 hq at_317 rfl (jI (pc' := 329) X137 hq at_319 ((if0 _ _).trans (teq (by decide : (0 : Int32) = (0 : Int32))).1) (jf (v := (1 : Int32)) X137 hq at_329 (jt X137 hq at_330 (je X137 hq at_331 (jF rfl rfl) (ja X137 hq at_333 rfl (ja X137 hq at_335 rfl (jt X137 hq at_337 (je X137 hq at_338 (jF rfl rfl) (ja X137 hq at_340 rfl (jI (pc' := 353) X137 hq at_342 ((if0 _ _).trans (teq (by decide : (0 : Int32) = (0 : Int32))).1) (ja X137 hq at_353 rfl (jf (v := (1 : Int32)) X137 hq at_355 (jt X137 hq at_356 (ja X137 hq at_357 rfl (jt X137 hq at_359 (je X137 hq at_360 (jF rfl rfl) (ja X137 hq at_362 rfl (jf (v := (1 : Int32)) X137 hq at_364 (jt X137 hq at_365 k))))))))))))))))))))) ?_
      have y2 : 80 < (((nl + n1) + 1) + n2) := (jg (a := 80) (by omega) (by omega)).mp (by have q := hc139; (try simp only [jd, jk, jl] at q); exact q)
      have d2 : jaa (jc nl mL) (jc n1 m1) (jc n2 m2) := by unfold jaa; simp only [jq]; exact y2
      have y3 : ¬ 80 < (((nl + n2) + 1) + n3) := fun q => hc140 (by (try simp only [jd, jk, jl]); exact (jg (a := 80) (by omega) (by omega)).mpr q)
      have d3 : ¬ (own_C3 (jc nl mL) (jc n1 m1) (jc n2 m2) (jc n3 m3)) := by unfold own_C3 own_col2; rw [if_pos d2]; simp only [jq]; omega
      have hln : ((jr (jc nl mL) (jc n1 m1) (jc n2 m2) (jc n3 m3)) ++ [10]).length = ((((((nl + n1) + (1 + nl)) + n2) + 1) + n3) + 1) := by unfold jr js; rw [if_neg d3, if_pos d2]; simp only [List.length_append, List.length_replicate, List.length_cons, List.length_nil, jq] <;> omega
      have hl4 : ((jr (jc nl mL) (jc n1 m1) (jc n2 m2) (jc n3 m3)) ++ [10]).length ≤ 4000 := by omega
      have et : (((((((oI nl) + (oI n1)) + ((1 : Int32) + (oI nl))) + (oI n2)) + (1 : Int32)) + (oI n3)) + (1 : Int32)) = oI (((((((nl + n1) + (1 + nl)) + n2) + 1) + n3) + 1)) := by simp only [jd, jk, jl]
      rw [et]
      refine gsW (fun _ k => je X137 hq at_366 (jj rfl) (jy X137 hq at_368 rfl rfl k)) ?_
      refine cVW (rest := []) X137 hx hZ hown (ow hw 229 rfl) (ow hw 56 rfl) (nfs hZ (ow hw 58 rfl)) (ow hw 58 rfl) (ow hw 57 rfl) (ow hw 7 rfl) (ow hw 59 rfl) (rm_lenL l Z a0 hw [] a137 ((jr (jc nl mL) (jc n1 m1) (jc n2 m2) (jc n3 m3)) ++ [10]) z T137.heap n0 Z138 O138 T137q S0 hz) hby at_370 rfl pd_644 0 (by rw [hml]; rfl) T137q.exa rfl rfl rfl rfl (by decide) (by decide) fun _ T156 Lc156 X156 hQ156 => ?_
      obtain ⟨rfl, N156q, e156q⟩ := hQ156
      have N156 := Fr.app N137 N156q
      refine gsW (fun _ k => ja X156 hq at_373 rfl (jh (pc' := 380) X156 hq at_375 (teq (by rw [hln])).1 (ja X156 hq at_380 rfl (jac X156 hq hown (mvT hZ (ow hw 230 rfl)) at_382 (jab X156 hq at_384 (ja X156 hq at_385 rfl (Jvm.RoadKit.iremM X156 hx (g := (mkF m 387 #[iv i0, iv i1, iv i2, iv i3, iv i4, iv i5, iv (oI nl), iv (oI n1), iv (oI n2), iv (oI n3), iv mL, iv m1, iv m2, iv m3, iv (3 : Int32), rv a98, rv b100, rv a137, iv (((((oI nl) + (oI n2)) + (1 : Int32)) + (oI n3))), iv (((((((oI nl) + (oI n1)) + ((1 : Int32) + (oI nl))) + (oI n2)) + (1 : Int32)) + (oI n3))), iv (oI nl), iv (1 : Int32), iv (((oI nl) + (oI n1))), iv ((((oI nl) + (oI n1)) + ((1 : Int32) + (oI nl)))), iv (0 : Int32), iv (((((oI nl) + (oI n1)) + ((1 : Int32) + (oI nl))) + (oI n2))), iv ((((((oI nl) + (oI n1)) + ((1 : Int32) + (oI nl))) + (oI n2)) + (1 : Int32))), iv ((oI (((((((nl + n1) + (1 + nl)) + n2) + 1) + n3) + 1)))), uu, uu] [(.int (oI (((((((nl + n1) + (1 + nl)) + n2) + 1) + n3) + 1)))), (.int (i5 &&& (2147483647 : Int32)))])) rfl (hb hby at_387) rfl (jaf (b := 0) (by omega) (by omega) (by omega)) k))))))) ?_
      obtain ⟨jn, ej, hj⟩ := own_rem (x := i5) (t := ((((((nl + n1) + (1 + nl)) + n2) + 1) + n3) + 1)) (by omega) (by omega)
      rw [ej]
      refine gsW (fun _ k => je X156 hq at_388 (jj rfl) k) ?_
      have mid157 : ∀ e_157 : Int32, ((((jr (jc nl mL) (jc n1 m1) (jc n2 m2) (jc n3 m3)) ++ [10]).getD jn 0) = e_157) → OwnGoW p e below s Z jo (fun v h L => v = some (.int 1) ∧ Fr n0 L) room_1.cells room_1.slots (T156.setTop (mkF m 581 #[iv i0, iv i1, iv i2, iv i3, iv i4, iv i5, iv (oI nl), iv (oI n1), iv (oI n2), iv (oI n3), iv mL, iv m1, iv m2, iv m3, iv (3 : Int32), rv a98, rv b100, rv a137, iv (((((oI nl) + (oI n2)) + (1 : Int32)) + (oI n3))), iv (((((((oI nl) + (oI n1)) + ((1 : Int32) + (oI nl))) + (oI n2)) + (1 : Int32)) + (oI n3))), iv (oI nl), iv (1 : Int32), iv (((oI nl) + (oI n1))), iv ((((oI nl) + (oI n1)) + ((1 : Int32) + (oI nl)))), iv (0 : Int32), iv (((((oI nl) + (oI n1)) + ((1 : Int32) + (oI nl))) + (oI n2))), iv ((((((oI nl) + (oI n1)) + ((1 : Int32) + (oI nl))) + (oI n2)) + (1 : Int32))), iv ((oI (((((((nl + n1) + (1 + nl)) + n2) + 1) + n3) + 1)))), iv (oI jn), iv e_157] [])) := by
       intro e_157 hfin
       refine gsW (fun _ k => jy X156 hq at_581 rfl rfl (ja X156 hq at_583 rfl k)) ?_
       refine cVW (rest := []) X156 hx hZ hown (ow hw 231 rfl) (ow hw 232 rfl) (nfs hZ (ow hw 234 rfl)) (ow hw 234 rfl) (ow hw 233 rfl) (ow hw 7 rfl) (ow hw 235 rfl) (rm_chL l Z a0 hw [] a137 ((jr (jc nl mL) (jc n1 m1) (jc n2 m2) (jc n3 m3)) ++ [10]) jn (oI jn) z fm T137.heap n0 Z138 O138 T137q (jU (own_w3b (jK hm0) (jK hm1) (jK hm2) (jK hm3)) (by decide)) (by rw [hln]; exact hj) hl4 rfl S0 hz S4 hfm) hby at_585 e156q pd_959 0 (by rw [hml]; rfl) T137q.exa rfl rfl rfl rfl (by decide) (by decide) fun _ T158 Lc158 X158 hQ158 => ?_
       obtain ⟨rfl, N158q, e158q⟩ := hQ158
       have N158 := Fr.app N156 N158q
       refine gsW (fun _ k => ja X158 hq at_588 rfl (jm X158 hq at_590 (teq hfin).2 (jf (v := (1 : Int32)) X158 hq at_593 (jp (pc' := 598) X158 hq at_594 k)))) ?_
       refine goutW (v := some (.int (1 : Int32))) X158 hS (Nat.le_refl T137.heap.size) hZ (jJ hw) hh e158q R138 Bd.notSynchronized (jA Bd.returns) (by decide) (by decide) ?_ (fun fs hr => retN X158 hx (t := .boolean) Bd.returns (by simp) (hb hby at_598) hr)
       exact ⟨rfl, N158⟩
      refine gsW (fun _ k => ja X156 hq at_390 rfl (ja X156 hq at_392 rfl k)) ?_
      by_cases hc159 : (oI jn) < (oI nl)
      ·refine gsW (fun _ k => jm X156 hq at_394 (tlt hc159).2.1 (ja X156 hq at_397 rfl k)) ?_
       by_cases hc160 : (oI jn) = (0 : Int32)
       ·refine gsW (fun _ k => jG X156 hq at_399 ((if0 _ _).trans (teq hc160).2) (ja X156 hq at_402 rfl (jp (pc' := 408) X156 hq at_404 (je X156 hq at_408 (jj rfl) (jp (pc' := 581) X156 hq at_410 k))))) ?_
        have yhc159 : jn < nl := (jg (by omega) (by omega)).mp hc159
        have yhc160 : jn = 0 := (jB (b := 0) (by omega) (by omega)).mp hc160
        have fin : (((jr (jc nl mL) (jc n1 m1) (jc n2 m2) (jc n3 m3)) ++ [10]).getD jn 0) = mL := by
         unfold jr js; rw [if_neg d3, if_pos d2]; simp only [jC, jv, ju, jD, List.length_append, List.length_replicate, List.length_cons, List.length_nil, jq]
         repeat' split
         all_goals first | rfl | (exfalso; omega)
        exact mid157 mL fin
       ·refine gsW (fun _ k => jI (pc' := 407) X156 hq at_399 ((if0 _ _).trans (feq hc160).2) (jf (v := (0 : Int32)) X156 hq at_407 (je X156 hq at_408 (jj rfl) (jp (pc' := 581) X156 hq at_410 k)))) ?_
        have yhc159 : jn < nl := (jg (by omega) (by omega)).mp hc159
        have yhc160 : ¬ jn = 0 := fun q => hc160 ((jB (b := 0) (by omega) (by omega)).mpr q)
        have fin : (((jr (jc nl mL) (jc n1 m1) (jc n2 m2) (jc n3 m3)) ++ [10]).getD jn 0) = (0 : Int32) := by
         unfold jr js; rw [if_neg d3, if_pos d2]; simp only [jC, jv, ju, jD, List.length_append, List.length_replicate, List.length_cons, List.length_nil, jq]
         repeat' split
         all_goals first | rfl | (exfalso; omega)
        exact mid157 (0 : Int32) fin
      ·refine gsW (fun _ k => jh (pc' := 413) X156 hq at_394 (flt hc159).2.1 (ja X156 hq at_413 rfl (jf (v := (1 : Int32)) X156 hq at_415 (jm X156 hq at_416 (flt (by decide : ¬ ((3 : Int32) < (1 : Int32)))).1 (ja X156 hq at_419 rfl (ja X156 hq at_421 rfl (ja X156 hq at_423 rfl (jt X156 hq at_425 k)))))))) ?_
       by_cases hc161 : (oI jn) < ((oI nl) + (oI n1))
       ·refine gsW (fun _ k => jm X156 hq at_426 (tlt hc161).2.1 (ja X156 hq at_429 rfl (ja X156 hq at_431 rfl k))) ?_
        by_cases hc162 : (oI jn) = (oI nl)
        ·refine gsW (fun _ k => jm X156 hq at_433 (teq hc162).2 (ja X156 hq at_436 rfl (jp (pc' := 442) X156 hq at_438 (je X156 hq at_442 (jj rfl) (jp (pc' := 581) X156 hq at_444 k))))) ?_
         have yhc159 : ¬ jn < nl := mt (jg (by omega) (by omega)).mpr hc159
         have yhc161 : jn < (nl + n1) := (jg (by omega) (by omega)).mp (by have q := hc161; (try simp only [jd, jk, jl] at q); exact q)
         have yhc162 : jn = nl := (jB (by omega) (by omega)).mp hc162
         have fin : (((jr (jc nl mL) (jc n1 m1) (jc n2 m2) (jc n3 m3)) ++ [10]).getD jn 0) = m1 := by
          unfold jr js; rw [if_neg d3, if_pos d2]; simp only [jC, jv, ju, jD, List.length_append, List.length_replicate, List.length_cons, List.length_nil, jq]
          repeat' split
          all_goals first | rfl | (exfalso; omega)
         exact mid157 m1 fin
        ·refine gsW (fun _ k => jh (pc' := 441) X156 hq at_433 (feq hc162).2 (jf (v := (0 : Int32)) X156 hq at_441 (je X156 hq at_442 (jj rfl) (jp (pc' := 581) X156 hq at_444 k)))) ?_
         have yhc159 : ¬ jn < nl := mt (jg (by omega) (by omega)).mpr hc159
         have yhc161 : jn < (nl + n1) := (jg (by omega) (by omega)).mp (by have q := hc161; (try simp only [jd, jk, jl] at q); exact q)
         have yhc162 : ¬ jn = nl := mt (jB (by omega) (by omega)).mpr hc162
         have fin : (((jr (jc nl mL) (jc n1 m1) (jc n2 m2) (jc n3 m3)) ++ [10]).getD jn 0) = (0 : Int32) := by
          unfold jr js; rw [if_neg d3, if_pos d2]; simp only [jC, jv, ju, jD, List.length_append, List.length_replicate, List.length_cons, List.length_nil, jq]
          repeat' split
          all_goals first | rfl | (exfalso; omega)
         exact mid157 (0 : Int32) fin
       ·refine gsW (fun _ k => jh (pc' := 447) X156 hq at_426 (flt hc161).2.1 (ja X156 hq at_447 rfl (jf (v := (2 : Int32)) X156 hq at_449 (jm X156 hq at_450 (flt (by decide : ¬ ((3 : Int32) < (2 : Int32)))).1 (ja X156 hq at_453 rfl (ja X156 hq at_455 rfl (ja X156 hq at_457 rfl (jt X156 hq at_459 k)))))))) ?_
        by_cases hc163 : (oI jn) < ((((oI nl) + (oI n1)) + ((1 : Int32) + (oI nl))) + (oI n2))
        ·refine gsW (fun _ k => jm X156 hq at_460 (tlt hc163).2.1 (ja X156 hq at_463 rfl (ja X156 hq at_465 rfl k))) ?_
         by_cases hc164 : (oI jn) < (((oI nl) + (oI n1)) + ((1 : Int32) + (oI nl)))
         ·refine gsW (fun _ k => jm X156 hq at_467 (tlt hc164).2.1 (ja X156 hq at_470 rfl (jG X156 hq at_472 ((if0 _ _).trans (feq (by decide : ¬ ((1 : Int32) = (0 : Int32)))).1) (ja X156 hq at_475 rfl (ja X156 hq at_477 rfl k))))) ?_
          by_cases hc165 : (oI jn) = ((oI nl) + (oI n1))
          ·refine gsW (fun _ k => jm X156 hq at_479 (teq hc165).2 (jz (v := (10 : Int32)) X156 hq at_482 (jp (pc' := 489) X156 hq at_484 (je X156 hq at_489 (jj rfl) (jp (pc' := 581) X156 hq at_491 k))))) ?_
           have yhc159 : ¬ jn < nl := mt (jg (by omega) (by omega)).mpr hc159
           have yhc161 : ¬ jn < (nl + n1) := fun q => hc161 (by (try simp only [jd, jk, jl]); exact (jg (by omega) (by omega)).mpr q)
           have yhc163 : jn < (((nl + n1) + (1 + nl)) + n2) := (jg (by omega) (by omega)).mp (by have q := hc163; (try simp only [jd, jk, jl] at q); exact q)
           have yhc164 : jn < ((nl + n1) + (1 + nl)) := (jg (by omega) (by omega)).mp (by have q := hc164; (try simp only [jd, jk, jl] at q); exact q)
           have yhc165 : jn = (nl + n1) := (jB (by omega) (by omega)).mp (by have q := hc165; (try simp only [jd, jk, jl] at q); exact q)
           have fin : (((jr (jc nl mL) (jc n1 m1) (jc n2 m2) (jc n3 m3)) ++ [10]).getD jn 0) = (10 : Int32) := by
            unfold jr js; rw [if_neg d3, if_pos d2]; simp only [jC, jv, ju, jD, List.length_append, List.length_replicate, List.length_cons, List.length_nil, jq]
            repeat' split
            all_goals first | rfl | (exfalso; omega)
           exact mid157 (10 : Int32) fin
          ·refine gsW (fun _ k => jh (pc' := 487) X156 hq at_479 (feq hc165).2 (jz (v := (32 : Int32)) X156 hq at_487 (je X156 hq at_489 (jj rfl) (jp (pc' := 581) X156 hq at_491 k)))) ?_
           have yhc159 : ¬ jn < nl := mt (jg (by omega) (by omega)).mpr hc159
           have yhc161 : ¬ jn < (nl + n1) := fun q => hc161 (by (try simp only [jd, jk, jl]); exact (jg (by omega) (by omega)).mpr q)
           have yhc163 : jn < (((nl + n1) + (1 + nl)) + n2) := (jg (by omega) (by omega)).mp (by have q := hc163; (try simp only [jd, jk, jl] at q); exact q)
           have yhc164 : jn < ((nl + n1) + (1 + nl)) := (jg (by omega) (by omega)).mp (by have q := hc164; (try simp only [jd, jk, jl] at q); exact q)
           have yhc165 : ¬ jn = (nl + n1) := fun q => hc165 (by (try simp only [jd, jk, jl]); exact (jB (by omega) (by omega)).mpr q)
           have fin : (((jr (jc nl mL) (jc n1 m1) (jc n2 m2) (jc n3 m3)) ++ [10]).getD jn 0) = (32 : Int32) := by
            unfold jr js; rw [if_neg d3, if_pos d2]; simp only [jC, jv, ju, jD, List.length_append, List.length_replicate, List.length_cons, List.length_nil, jq]
            repeat' split
            all_goals first | rfl | (exfalso; omega)
           exact mid157 (32 : Int32) fin
         ·refine gsW (fun _ k => jh (pc' := 494) X156 hq at_467 (flt hc164).2.1 (ja X156 hq at_494 rfl (ja X156 hq at_496 rfl k))) ?_
          by_cases hc166 : (oI jn) = (((oI nl) + (oI n1)) + ((1 : Int32) + (oI nl)))
          ·refine gsW (fun _ k => jm X156 hq at_498 (teq hc166).2 (ja X156 hq at_501 rfl (jp (pc' := 507) X156 hq at_503 (je X156 hq at_507 (jj rfl) (jp (pc' := 581) X156 hq at_509 k))))) ?_
           have yhc159 : ¬ jn < nl := mt (jg (by omega) (by omega)).mpr hc159
           have yhc161 : ¬ jn < (nl + n1) := fun q => hc161 (by (try simp only [jd, jk, jl]); exact (jg (by omega) (by omega)).mpr q)
           have yhc163 : jn < (((nl + n1) + (1 + nl)) + n2) := (jg (by omega) (by omega)).mp (by have q := hc163; (try simp only [jd, jk, jl] at q); exact q)
           have yhc164 : ¬ jn < ((nl + n1) + (1 + nl)) := fun q => hc164 (by (try simp only [jd, jk, jl]); exact (jg (by omega) (by omega)).mpr q)
           have yhc166 : jn = ((nl + n1) + (1 + nl)) := (jB (by omega) (by omega)).mp (by have q := hc166; (try simp only [jd, jk, jl] at q); exact q)
           have fin : (((jr (jc nl mL) (jc n1 m1) (jc n2 m2) (jc n3 m3)) ++ [10]).getD jn 0) = m2 := by
            unfold jr js; rw [if_neg d3, if_pos d2]; simp only [jC, jv, ju, jD, List.length_append, List.length_replicate, List.length_cons, List.length_nil, jq]
            repeat' split
            all_goals first | rfl | (exfalso; omega)
           exact mid157 m2 fin
          ·refine gsW (fun _ k => jh (pc' := 506) X156 hq at_498 (feq hc166).2 (jf (v := (0 : Int32)) X156 hq at_506 (je X156 hq at_507 (jj rfl) (jp (pc' := 581) X156 hq at_509 k)))) ?_
           have yhc159 : ¬ jn < nl := mt (jg (by omega) (by omega)).mpr hc159
           have yhc161 : ¬ jn < (nl + n1) := fun q => hc161 (by (try simp only [jd, jk, jl]); exact (jg (by omega) (by omega)).mpr q)
           have yhc163 : jn < (((nl + n1) + (1 + nl)) + n2) := (jg (by omega) (by omega)).mp (by have q := hc163; (try simp only [jd, jk, jl] at q); exact q)
           have yhc164 : ¬ jn < ((nl + n1) + (1 + nl)) := fun q => hc164 (by (try simp only [jd, jk, jl]); exact (jg (by omega) (by omega)).mpr q)
           have yhc166 : ¬ jn = ((nl + n1) + (1 + nl)) := fun q => hc166 (by (try simp only [jd, jk, jl]); exact (jB (by omega) (by omega)).mpr q)
           have fin : (((jr (jc nl mL) (jc n1 m1) (jc n2 m2) (jc n3 m3)) ++ [10]).getD jn 0) = (0 : Int32) := by
            unfold jr js; rw [if_neg d3, if_pos d2]; simp only [jC, jv, ju, jD, List.length_append, List.length_replicate, List.length_cons, List.length_nil, jq]
            repeat' split
            all_goals first | rfl | (exfalso; omega)
           exact mid157 (0 : Int32) fin
        ·refine gsW (fun _ k => jh (pc' := 512) X156 hq at_460 (flt hc163).2.1 (ja X156 hq at_512 rfl (jf (v := (3 : Int32)) X156 hq at_514 (jm X156 hq at_515 (flt (by decide : ¬ ((3 : Int32) < (3 : Int32)))).1 (ja X156 hq at_518 rfl (ja X156 hq at_520 rfl (ja X156 hq at_522 rfl (jt X156 hq at_524 k)))))))) ?_
         by_cases hc167 : (oI jn) < ((((((oI nl) + (oI n1)) + ((1 : Int32) + (oI nl))) + (oI n2)) + (1 : Int32)) + (oI n3))
         ·refine gsW (fun _ k => jm X156 hq at_525 (tlt hc167).2.1 (ja X156 hq at_528 rfl (ja X156 hq at_530 rfl k))) ?_
          by_cases hc168 : (oI jn) < (((((oI nl) + (oI n1)) + ((1 : Int32) + (oI nl))) + (oI n2)) + (1 : Int32))
          ·refine gsW (fun _ k => jm X156 hq at_532 (tlt hc168).2.1 (ja X156 hq at_535 rfl (jI (pc' := 552) X156 hq at_537 ((if0 _ _).trans (teq (by decide : (0 : Int32) = (0 : Int32))).1) (jz (v := (32 : Int32)) X156 hq at_552 (je X156 hq at_554 (jj rfl) (jp (pc' := 581) X156 hq at_556 k)))))) ?_
           have yhc159 : ¬ jn < nl := mt (jg (by omega) (by omega)).mpr hc159
           have yhc161 : ¬ jn < (nl + n1) := fun q => hc161 (by (try simp only [jd, jk, jl]); exact (jg (by omega) (by omega)).mpr q)
           have yhc163 : ¬ jn < (((nl + n1) + (1 + nl)) + n2) := fun q => hc163 (by (try simp only [jd, jk, jl]); exact (jg (by omega) (by omega)).mpr q)
           have yhc167 : jn < (((((nl + n1) + (1 + nl)) + n2) + 1) + n3) := (jg (by omega) (by omega)).mp (by have q := hc167; (try simp only [jd, jk, jl] at q); exact q)
           have yhc168 : jn < ((((nl + n1) + (1 + nl)) + n2) + 1) := (jg (by omega) (by omega)).mp (by have q := hc168; (try simp only [jd, jk, jl] at q); exact q)
           have fin : (((jr (jc nl mL) (jc n1 m1) (jc n2 m2) (jc n3 m3)) ++ [10]).getD jn 0) = (32 : Int32) := by
            unfold jr js; rw [if_neg d3, if_pos d2]; simp only [jC, jv, ju, jD, List.length_append, List.length_replicate, List.length_cons, List.length_nil, jq]
            repeat' split
            all_goals first | rfl | (exfalso; omega)
           exact mid157 (32 : Int32) fin
          ·refine gsW (fun _ k => jh (pc' := 559) X156 hq at_532 (flt hc168).2.1 (ja X156 hq at_559 rfl (ja X156 hq at_561 rfl k))) ?_
           by_cases hc169 : (oI jn) = (((((oI nl) + (oI n1)) + ((1 : Int32) + (oI nl))) + (oI n2)) + (1 : Int32))
           ·refine gsW (fun _ k => jm X156 hq at_563 (teq hc169).2 (ja X156 hq at_566 rfl (jp (pc' := 572) X156 hq at_568 (je X156 hq at_572 (jj rfl) (jp (pc' := 581) X156 hq at_574 k))))) ?_
            have yhc159 : ¬ jn < nl := mt (jg (by omega) (by omega)).mpr hc159
            have yhc161 : ¬ jn < (nl + n1) := fun q => hc161 (by (try simp only [jd, jk, jl]); exact (jg (by omega) (by omega)).mpr q)
            have yhc163 : ¬ jn < (((nl + n1) + (1 + nl)) + n2) := fun q => hc163 (by (try simp only [jd, jk, jl]); exact (jg (by omega) (by omega)).mpr q)
            have yhc167 : jn < (((((nl + n1) + (1 + nl)) + n2) + 1) + n3) := (jg (by omega) (by omega)).mp (by have q := hc167; (try simp only [jd, jk, jl] at q); exact q)
            have yhc168 : ¬ jn < ((((nl + n1) + (1 + nl)) + n2) + 1) := fun q => hc168 (by (try simp only [jd, jk, jl]); exact (jg (by omega) (by omega)).mpr q)
            have yhc169 : jn = ((((nl + n1) + (1 + nl)) + n2) + 1) := (jB (by omega) (by omega)).mp (by have q := hc169; (try simp only [jd, jk, jl] at q); exact q)
            have fin : (((jr (jc nl mL) (jc n1 m1) (jc n2 m2) (jc n3 m3)) ++ [10]).getD jn 0) = m3 := by
             unfold jr js; rw [if_neg d3, if_pos d2]; simp only [jC, jv, ju, jD, List.length_append, List.length_replicate, List.length_cons, List.length_nil, jq]
             repeat' split
             all_goals first | rfl | (exfalso; omega)
            exact mid157 m3 fin
           ·refine gsW (fun _ k => jh (pc' := 571) X156 hq at_563 (feq hc169).2 (jf (v := (0 : Int32)) X156 hq at_571 (je X156 hq at_572 (jj rfl) (jp (pc' := 581) X156 hq at_574 k)))) ?_
            have yhc159 : ¬ jn < nl := mt (jg (by omega) (by omega)).mpr hc159
            have yhc161 : ¬ jn < (nl + n1) := fun q => hc161 (by (try simp only [jd, jk, jl]); exact (jg (by omega) (by omega)).mpr q)
            have yhc163 : ¬ jn < (((nl + n1) + (1 + nl)) + n2) := fun q => hc163 (by (try simp only [jd, jk, jl]); exact (jg (by omega) (by omega)).mpr q)
            have yhc167 : jn < (((((nl + n1) + (1 + nl)) + n2) + 1) + n3) := (jg (by omega) (by omega)).mp (by have q := hc167; (try simp only [jd, jk, jl] at q); exact q)
            have yhc168 : ¬ jn < ((((nl + n1) + (1 + nl)) + n2) + 1) := fun q => hc168 (by (try simp only [jd, jk, jl]); exact (jg (by omega) (by omega)).mpr q)
            have yhc169 : ¬ jn = ((((nl + n1) + (1 + nl)) + n2) + 1) := fun q => hc169 (by (try simp only [jd, jk, jl]); exact (jB (by omega) (by omega)).mpr q)
            have fin : (((jr (jc nl mL) (jc n1 m1) (jc n2 m2) (jc n3 m3)) ++ [10]).getD jn 0) = (0 : Int32) := by
             unfold jr js; rw [if_neg d3, if_pos d2]; simp only [jC, jv, ju, jD, List.length_append, List.length_replicate, List.length_cons, List.length_nil, jq]
             repeat' split
             all_goals first | rfl | (exfalso; omega)
            exact mid157 (0 : Int32) fin
         ·refine gsW (fun _ k => jh (pc' := 577) X156 hq at_525 (flt hc167).2.1 (jz (v := (10 : Int32)) X156 hq at_577 (je X156 hq at_579 (jj rfl) k))) ?_
          have yhc159 : ¬ jn < nl := mt (jg (by omega) (by omega)).mpr hc159
          have yhc161 : ¬ jn < (nl + n1) := fun q => hc161 (by (try simp only [jd, jk, jl]); exact (jg (by omega) (by omega)).mpr q)
          have yhc163 : ¬ jn < (((nl + n1) + (1 + nl)) + n2) := fun q => hc163 (by (try simp only [jd, jk, jl]); exact (jg (by omega) (by omega)).mpr q)
          have yhc167 : ¬ jn < (((((nl + n1) + (1 + nl)) + n2) + 1) + n3) := fun q => hc167 (by (try simp only [jd, jk, jl]); exact (jg (by omega) (by omega)).mpr q)
          have fin : (((jr (jc nl mL) (jc n1 m1) (jc n2 m2) (jc n3 m3)) ++ [10]).getD jn 0) = (10 : Int32) := by
           unfold jr js; rw [if_neg d3, if_pos d2]; simp only [jC, jv, ju, jD, List.length_append, List.length_replicate, List.length_cons, List.length_nil, jq]
           repeat' split
           all_goals first | rfl | (exfalso; omega)
          exact mid157 (10 : Int32) fin
    ·refine gsW (fun _ k => jh (pc' := 229) X137 hq at_222 (flt hc139).2.2.2 (jf (v := (0 : Int32)) X137 hq at_229 (je X137 hq at_230 (jF rfl rfl) k))) ?_
     refine gsW (S' := T137.setTop (mkF m 232 #[iv i0, iv i1, iv i2, iv i3, iv i4, iv i5, iv (oI nl), iv (oI n1), iv (oI n2), iv (oI n3), iv mL, iv m1, iv m2, iv m3, iv (3 : Int32), rv a98, rv b100, rv a137, iv (((oI nl) + (oI n1))), iv (((oI nl) + (oI n1))), iv (oI nl), iv (0 : Int32), iv (((oI nl) + (oI n1))), iv (((oI nl) + (oI n1))), uu, uu, uu, uu, uu, uu] [])) (fun _ k => k) ?_
     refine gsW (fun _ k => ja X137 hq at_232 rfl (ja X137 hq at_234 rfl (jI (pc' := 246) X137 hq at_236 ((if0 _ _).trans (teq (by decide : (0 : Int32) = (0 : Int32))).1) (jf (v := (1 : Int32)) X137 hq at_246 (jt X137 hq at_247 (je X137 hq at_248 (jF rfl rfl) (ja X137 hq at_250 rfl (ja X137 hq at_252 rfl (jt X137 hq at_254 (je X137 hq at_255 (jF rfl rfl) (ja X137 hq at_257 rfl (jI (pc' := 270) X137 hq at_259 ((if0 _ _).trans (teq (by decide : (0 : Int32) = (0 : Int32))).1) (ja X137 hq at_270 rfl (jf (v := (1 : Int32)) X137 hq at_272 (jt X137 hq at_273 (ja X137 hq at_274 rfl (jt X137 hq at_276 (je X137 hq at_277 (jF rfl rfl) (jf (v := (0 : Int32)) X137 hq at_279 (je X137 hq at_280 (jj rfl) (ja X137 hq at_282 rfl (je X137 hq at_284 (jj rfl) (ja X137 hq at_286 rfl (je X137 hq at_288 (jj rfl) (ja X137 hq at_290 rfl (jf (v := (3 : Int32)) X137 hq at_292 (jm X137 hq at_293 (flt (by decide : ¬ ((3 : Int32) < (3 : Int32)))).1 (ja X137 hq at_296 rfl (jf (v := (1 : Int32)) X137 hq at_298 (jt X137 hq at_299 (ja X137 hq at_300 rfl (jt X137 hq at_302 (jz (v := (80 : Int32)) X137 hq at_303 k))))))))))))))))))))))))))))))))) ?_
     by_cases hc170 : (80 : Int32) < ((((((oI nl) + (oI n1)) + (1 : Int32)) + (oI n2)) + (1 : Int32)) + (oI n3))
     ·refine gsW (fun _ k => jm X137 hq at_305 (tlt hc170).2.2.2 (jf (v := (1 : Int32)) X137 hq at_308 (jp (pc' := 313) X137 hq at_309 (je X137 hq at_313 (jF rfl rfl) k)))) ?_
      refine gsW (S' := T137.setTop (mkF m 315 #[iv i0, iv i1, iv i2, iv i3, iv i4, iv i5, iv (oI nl), iv (oI n1), iv (oI n2), iv (oI n3), iv mL, iv m1, iv m2, iv m3, iv (3 : Int32), rv a98, rv b100, rv a137, iv (((((oI nl) + (oI n1)) + (1 : Int32)) + (oI n2))), iv (((((oI nl) + (oI n1)) + (1 : Int32)) + (oI n2))), iv (oI nl), iv (0 : Int32), iv (((oI nl) + (oI n1))), iv ((((oI nl) + (oI n1)) + (1 : Int32))), iv (1 : Int32), iv (((((oI nl) + (oI n1)) + (1 : Int32)) + (oI n2))), iv (((((oI nl) + (oI n1)) + (1 : Int32)) + (oI n2))), uu, uu, uu] [])) (fun _ k => k) ?_
      refine gsW (fun _ k => ja X137 hq at_315 rfl (ja X137 hq at_317 rfl (jG X137 hq at_319 ((if0 _ _).trans (feq (by decide : ¬ ((1 : Int32) = (0 : Int32)))).1) (jf (v := (1 : Int32)) X137 hq at_322 (ja X137 hq at_323 rfl (jt X137 hq at_325 (jp (pc' := 330) X137 hq at_326 (jt X137 hq at_330 (je X137 hq at_331 (jF rfl rfl) (ja X137 hq at_333 rfl (ja X137 hq at_335 rfl (jt X137 hq at_337 (je X137 hq at_338 (jF rfl rfl) (ja X137 hq at_340 rfl (jG X137 hq at_342 ((if0 _ _).trans (feq (by decide : ¬ ((1 : Int32) = (0 : Int32)))).1) (ja X137 hq at_345 rfl (ja X137 hq at_347 rfl (jt X137 hq at_349 (jp (pc' := 360) X137 hq at_350 (je X137 hq at_360 (jF rfl rfl) (ja X137 hq at_362 rfl (jf (v := (1 : Int32)) X137 hq at_364 (jt X137 hq at_365 k))))))))))))))))))))))) ?_
      have y2 : ¬ 80 < (((nl + n1) + 1) + n2) := fun q => hc139 (by (try simp only [jd, jk, jl]); exact (jg (a := 80) (by omega) (by omega)).mpr q)
      have d2 : ¬ (jaa (jc nl mL) (jc n1 m1) (jc n2 m2)) := by unfold jaa; simp only [jq]; exact y2
      have y3 : 80 < (((((nl + n1) + 1) + n2) + 1) + n3) := (jg (a := 80) (by omega) (by omega)).mp (by have q := hc170; (try simp only [jd, jk, jl] at q); exact q)
      have d3 : own_C3 (jc nl mL) (jc n1 m1) (jc n2 m2) (jc n3 m3) := by unfold own_C3 own_col2; rw [if_neg d2]; simp only [jq]; omega
      have hln : ((jr (jc nl mL) (jc n1 m1) (jc n2 m2) (jc n3 m3)) ++ [10]).length = ((((((nl + n1) + 1) + n2) + (1 + nl)) + n3) + 1) := by unfold jr js; rw [if_pos d3, if_neg d2]; simp only [List.length_append, List.length_replicate, List.length_cons, List.length_nil, jq] <;> omega
      have hl4 : ((jr (jc nl mL) (jc n1 m1) (jc n2 m2) (jc n3 m3)) ++ [10]).length ≤ 4000 := by omega
      have et : (((((((oI nl) + (oI n1)) + (1 : Int32)) + (oI n2)) + ((1 : Int32) + (oI nl))) + (oI n3)) + (1 : Int32)) = oI (((((((nl + n1) + 1) + n2) + (1 + nl)) + n3) + 1)) := by simp only [jd, jk, jl]
      rw [et]
      refine gsW (fun _ k => je X137 hq at_366 (jj rfl) (jy X137 hq at_368 rfl rfl k)) ?_
      refine cVW (rest := []) X137 hx hZ hown (ow hw 229 rfl) (ow hw 56 rfl) (nfs hZ (ow hw 58 rfl)) (ow hw 58 rfl) (ow hw 57 rfl) (ow hw 7 rfl) (ow hw 59 rfl) (rm_lenL l Z a0 hw [] a137 ((jr (jc nl mL) (jc n1 m1) (jc n2 m2) (jc n3 m3)) ++ [10]) z T137.heap n0 Z138 O138 T137q S0 hz) hby at_370 rfl pd_644 0 (by rw [hml]; rfl) T137q.exa rfl rfl rfl rfl (by decide) (by decide) fun _ T171 Lc171 X171 hQ171 => ?_
      obtain ⟨rfl, N171q, e171q⟩ := hQ171
      have N171 := Fr.app N137 N171q
      refine gsW (fun _ k => ja X171 hq at_373 rfl (jh (pc' := 380) X171 hq at_375 (teq (by rw [hln])).1 (ja X171 hq at_380 rfl (jac X171 hq hown (mvT hZ (ow hw 230 rfl)) at_382 (jab X171 hq at_384 (ja X171 hq at_385 rfl (Jvm.RoadKit.iremM X171 hx (g := (mkF m 387 #[iv i0, iv i1, iv i2, iv i3, iv i4, iv i5, iv (oI nl), iv (oI n1), iv (oI n2), iv (oI n3), iv mL, iv m1, iv m2, iv m3, iv (3 : Int32), rv a98, rv b100, rv a137, iv (((oI nl) + (oI n3))), iv (((((((oI nl) + (oI n1)) + (1 : Int32)) + (oI n2)) + ((1 : Int32) + (oI nl))) + (oI n3))), iv (oI nl), iv (0 : Int32), iv (((oI nl) + (oI n1))), iv ((((oI nl) + (oI n1)) + (1 : Int32))), iv (1 : Int32), iv (((((oI nl) + (oI n1)) + (1 : Int32)) + (oI n2))), iv ((((((oI nl) + (oI n1)) + (1 : Int32)) + (oI n2)) + ((1 : Int32) + (oI nl)))), iv ((oI (((((((nl + n1) + 1) + n2) + (1 + nl)) + n3) + 1)))), uu, uu] [(.int (oI (((((((nl + n1) + 1) + n2) + (1 + nl)) + n3) + 1)))), (.int (i5 &&& (2147483647 : Int32)))])) rfl (hb hby at_387) rfl (jaf (b := 0) (by omega) (by omega) (by omega)) k))))))) ?_
      obtain ⟨jn, ej, hj⟩ := own_rem (x := i5) (t := ((((((nl + n1) + 1) + n2) + (1 + nl)) + n3) + 1)) (by omega) (by omega)
      rw [ej]
      refine gsW (fun _ k => je X171 hq at_388 (jj rfl) k) ?_
      have mid172 : ∀ e_172 : Int32, ((((jr (jc nl mL) (jc n1 m1) (jc n2 m2) (jc n3 m3)) ++ [10]).getD jn 0) = e_172) → OwnGoW p e below s Z jo (fun v h L => v = some (.int 1) ∧ Fr n0 L) room_1.cells room_1.slots (T171.setTop (mkF m 581 #[iv i0, iv i1, iv i2, iv i3, iv i4, iv i5, iv (oI nl), iv (oI n1), iv (oI n2), iv (oI n3), iv mL, iv m1, iv m2, iv m3, iv (3 : Int32), rv a98, rv b100, rv a137, iv (((oI nl) + (oI n3))), iv (((((((oI nl) + (oI n1)) + (1 : Int32)) + (oI n2)) + ((1 : Int32) + (oI nl))) + (oI n3))), iv (oI nl), iv (0 : Int32), iv (((oI nl) + (oI n1))), iv ((((oI nl) + (oI n1)) + (1 : Int32))), iv (1 : Int32), iv (((((oI nl) + (oI n1)) + (1 : Int32)) + (oI n2))), iv ((((((oI nl) + (oI n1)) + (1 : Int32)) + (oI n2)) + ((1 : Int32) + (oI nl)))), iv ((oI (((((((nl + n1) + 1) + n2) + (1 + nl)) + n3) + 1)))), iv (oI jn), iv e_172] [])) := by
       intro e_172 hfin
       refine gsW (fun _ k => jy X171 hq at_581 rfl rfl (ja X171 hq at_583 rfl k)) ?_
       refine cVW (rest := []) X171 hx hZ hown (ow hw 231 rfl) (ow hw 232 rfl) (nfs hZ (ow hw 234 rfl)) (ow hw 234 rfl) (ow hw 233 rfl) (ow hw 7 rfl) (ow hw 235 rfl) (rm_chL l Z a0 hw [] a137 ((jr (jc nl mL) (jc n1 m1) (jc n2 m2) (jc n3 m3)) ++ [10]) jn (oI jn) z fm T137.heap n0 Z138 O138 T137q (jU (own_w3b (jK hm0) (jK hm1) (jK hm2) (jK hm3)) (by decide)) (by rw [hln]; exact hj) hl4 rfl S0 hz S4 hfm) hby at_585 e171q pd_959 0 (by rw [hml]; rfl) T137q.exa rfl rfl rfl rfl (by decide) (by decide) fun _ T173 Lc173 X173 hQ173 => ?_
       obtain ⟨rfl, N173q, e173q⟩ := hQ173
       have N173 := Fr.app N171 N173q
       refine gsW (fun _ k => ja X173 hq at_588 rfl (jm X173 hq at_590 (teq hfin).2 (jf (v := (1 : Int32)) X173 hq at_593 (jp (pc' := 598) X173 hq at_594 k)))) ?_
       refine goutW (v := some (.int (1 : Int32))) X173 hS (Nat.le_refl T137.heap.size) hZ (jJ hw) hh e173q R138 Bd.notSynchronized (jA Bd.returns) (by decide) (by decide) ?_ (fun fs hr => retN X173 hx (t := .boolean) Bd.returns (by simp) (hb hby at_598) hr)
       exact ⟨rfl, N173⟩
      refine gsW (fun _ k => ja X171 hq at_390 rfl (ja X171 hq at_392 rfl k)) ?_
      by_cases hc174 : (oI jn) < (oI nl)
      ·refine gsW (fun _ k => jm X171 hq at_394 (tlt hc174).2.1 (ja X171 hq at_397 rfl k)) ?_
       by_cases hc175 : (oI jn) = (0 : Int32)
       ·refine gsW (fun _ k => jG X171 hq at_399 ((if0 _ _).trans (teq hc175).2) (ja X171 hq at_402 rfl (jp (pc' := 408) X171 hq at_404 (je X171 hq at_408 (jj rfl) (jp (pc' := 581) X171 hq at_410 k))))) ?_
        have yhc174 : jn < nl := (jg (by omega) (by omega)).mp hc174
        have yhc175 : jn = 0 := (jB (b := 0) (by omega) (by omega)).mp hc175
        have fin : (((jr (jc nl mL) (jc n1 m1) (jc n2 m2) (jc n3 m3)) ++ [10]).getD jn 0) = mL := by
         unfold jr js; rw [if_pos d3, if_neg d2]; simp only [jC, jv, ju, jD, List.length_append, List.length_replicate, List.length_cons, List.length_nil, jq]
         repeat' split
         all_goals first | rfl | (exfalso; omega)
        exact mid172 mL fin
       ·refine gsW (fun _ k => jI (pc' := 407) X171 hq at_399 ((if0 _ _).trans (feq hc175).2) (jf (v := (0 : Int32)) X171 hq at_407 (je X171 hq at_408 (jj rfl) (jp (pc' := 581) X171 hq at_410 k)))) ?_
        have yhc174 : jn < nl := (jg (by omega) (by omega)).mp hc174
        have yhc175 : ¬ jn = 0 := fun q => hc175 ((jB (b := 0) (by omega) (by omega)).mpr q)
        have fin : (((jr (jc nl mL) (jc n1 m1) (jc n2 m2) (jc n3 m3)) ++ [10]).getD jn 0) = (0 : Int32) := by
         unfold jr js; rw [if_pos d3, if_neg d2]; simp only [jC, jv, ju, jD, List.length_append, List.length_replicate, List.length_cons, List.length_nil, jq]
         repeat' split
         all_goals first | rfl | (exfalso; omega)
        exact mid172 (0 : Int32) fin
      ·refine gsW (fun _ k => jh (pc' := 413) X171 hq at_394 (flt hc174).2.1 (ja X171 hq at_413 rfl (jf (v := (1 : Int32)) X171 hq at_415 (jm X171 hq at_416 (flt (by decide : ¬ ((3 : Int32) < (1 : Int32)))).1 (ja X171 hq at_419 rfl (ja X171 hq at_421 rfl (ja X171 hq at_423 rfl (jt X171 hq at_425 k)))))))) ?_
       by_cases hc176 : (oI jn) < ((oI nl) + (oI n1))
       ·refine gsW (fun _ k => jm X171 hq at_426 (tlt hc176).2.1 (ja X171 hq at_429 rfl (ja X171 hq at_431 rfl k))) ?_
        by_cases hc177 : (oI jn) = (oI nl)
        ·refine gsW (fun _ k => jm X171 hq at_433 (teq hc177).2 (ja X171 hq at_436 rfl (jp (pc' := 442) X171 hq at_438 (je X171 hq at_442 (jj rfl) (jp (pc' := 581) X171 hq at_444 k))))) ?_
         have yhc174 : ¬ jn < nl := mt (jg (by omega) (by omega)).mpr hc174
         have yhc176 : jn < (nl + n1) := (jg (by omega) (by omega)).mp (by have q := hc176; (try simp only [jd, jk, jl] at q); exact q)
         have yhc177 : jn = nl := (jB (by omega) (by omega)).mp hc177
         have fin : (((jr (jc nl mL) (jc n1 m1) (jc n2 m2) (jc n3 m3)) ++ [10]).getD jn 0) = m1 := by
          unfold jr js; rw [if_pos d3, if_neg d2]; simp only [jC, jv, ju, jD, List.length_append, List.length_replicate, List.length_cons, List.length_nil, jq]
          repeat' split
          all_goals first | rfl | (exfalso; omega)
         exact mid172 m1 fin
        ·refine gsW (fun _ k => jh (pc' := 441) X171 hq at_433 (feq hc177).2 (jf (v := (0 : Int32)) X171 hq at_441 (je X171 hq at_442 (jj rfl) (jp (pc' := 581) X171 hq at_444 k)))) ?_
         have yhc174 : ¬ jn < nl := mt (jg (by omega) (by omega)).mpr hc174
         have yhc176 : jn < (nl + n1) := (jg (by omega) (by omega)).mp (by have q := hc176; (try simp only [jd, jk, jl] at q); exact q)
         have yhc177 : ¬ jn = nl := mt (jB (by omega) (by omega)).mpr hc177
         have fin : (((jr (jc nl mL) (jc n1 m1) (jc n2 m2) (jc n3 m3)) ++ [10]).getD jn 0) = (0 : Int32) := by
          unfold jr js; rw [if_pos d3, if_neg d2]; simp only [jC, jv, ju, jD, List.length_append, List.length_replicate, List.length_cons, List.length_nil, jq]
          repeat' split
          all_goals first | rfl | (exfalso; omega)
         exact mid172 (0 : Int32) fin
       ·refine gsW (fun _ k => jh (pc' := 447) X171 hq at_426 (flt hc176).2.1 (ja X171 hq at_447 rfl (jf (v := (2 : Int32)) X171 hq at_449 (jm X171 hq at_450 (flt (by decide : ¬ ((3 : Int32) < (2 : Int32)))).1 (ja X171 hq at_453 rfl (ja X171 hq at_455 rfl (ja X171 hq at_457 rfl (jt X171 hq at_459 k)))))))) ?_
        by_cases hc178 : (oI jn) < ((((oI nl) + (oI n1)) + (1 : Int32)) + (oI n2))
        ·refine gsW (fun _ k => jm X171 hq at_460 (tlt hc178).2.1 (ja X171 hq at_463 rfl (ja X171 hq at_465 rfl k))) ?_
         by_cases hc179 : (oI jn) < (((oI nl) + (oI n1)) + (1 : Int32))
         ·refine gsW (fun _ k => jm X171 hq at_467 (tlt hc179).2.1 (ja X171 hq at_470 rfl (jI (pc' := 487) X171 hq at_472 ((if0 _ _).trans (teq (by decide : (0 : Int32) = (0 : Int32))).1) (jz (v := (32 : Int32)) X171 hq at_487 (je X171 hq at_489 (jj rfl) (jp (pc' := 581) X171 hq at_491 k)))))) ?_
          have yhc174 : ¬ jn < nl := mt (jg (by omega) (by omega)).mpr hc174
          have yhc176 : ¬ jn < (nl + n1) := fun q => hc176 (by (try simp only [jd, jk, jl]); exact (jg (by omega) (by omega)).mpr q)
          have yhc178 : jn < (((nl + n1) + 1) + n2) := (jg (by omega) (by omega)).mp (by have q := hc178; (try simp only [jd, jk, jl] at q); exact q)
          have yhc179 : jn < ((nl + n1) + 1) := (jg (by omega) (by omega)).mp (by have q := hc179; (try simp only [jd, jk, jl] at q); exact q)
          have fin : (((jr (jc nl mL) (jc n1 m1) (jc n2 m2) (jc n3 m3)) ++ [10]).getD jn 0) = (32 : Int32) := by
           unfold jr js; rw [if_pos d3, if_neg d2]; simp only [jC, jv, ju, jD, List.length_append, List.length_replicate, List.length_cons, List.length_nil, jq]
           repeat' split
           all_goals first | rfl | (exfalso; omega)
          exact mid172 (32 : Int32) fin
         ·refine gsW (fun _ k => jh (pc' := 494) X171 hq at_467 (flt hc179).2.1 (ja X171 hq at_494 rfl (ja X171 hq at_496 rfl k))) ?_
          by_cases hc180 : (oI jn) = (((oI nl) + (oI n1)) + (1 : Int32))
          ·refine gsW (fun _ k => jm X171 hq at_498 (teq hc180).2 (ja X171 hq at_501 rfl (jp (pc' := 507) X171 hq at_503 (je X171 hq at_507 (jj rfl) (jp (pc' := 581) X171 hq at_509 k))))) ?_
           have yhc174 : ¬ jn < nl := mt (jg (by omega) (by omega)).mpr hc174
           have yhc176 : ¬ jn < (nl + n1) := fun q => hc176 (by (try simp only [jd, jk, jl]); exact (jg (by omega) (by omega)).mpr q)
           have yhc178 : jn < (((nl + n1) + 1) + n2) := (jg (by omega) (by omega)).mp (by have q := hc178; (try simp only [jd, jk, jl] at q); exact q)
           have yhc179 : ¬ jn < ((nl + n1) + 1) := fun q => hc179 (by (try simp only [jd, jk, jl]); exact (jg (by omega) (by omega)).mpr q)
           have yhc180 : jn = ((nl + n1) + 1) := (jB (by omega) (by omega)).mp (by have q := hc180; (try simp only [jd, jk, jl] at q); exact q)
           have fin : (((jr (jc nl mL) (jc n1 m1) (jc n2 m2) (jc n3 m3)) ++ [10]).getD jn 0) = m2 := by
            unfold jr js; rw [if_pos d3, if_neg d2]; simp only [jC, jv, ju, jD, List.length_append, List.length_replicate, List.length_cons, List.length_nil, jq]
            repeat' split
            all_goals first | rfl | (exfalso; omega)
           exact mid172 m2 fin
          ·refine gsW (fun _ k => jh (pc' := 506) X171 hq at_498 (feq hc180).2 (jf (v := (0 : Int32)) X171 hq at_506 (je X171 hq at_507 (jj rfl) (jp (pc' := 581) X171 hq at_509 k)))) ?_
           have yhc174 : ¬ jn < nl := mt (jg (by omega) (by omega)).mpr hc174
           have yhc176 : ¬ jn < (nl + n1) := fun q => hc176 (by (try simp only [jd, jk, jl]); exact (jg (by omega) (by omega)).mpr q)
           have yhc178 : jn < (((nl + n1) + 1) + n2) := (jg (by omega) (by omega)).mp (by have q := hc178; (try simp only [jd, jk, jl] at q); exact q)
           have yhc179 : ¬ jn < ((nl + n1) + 1) := fun q => hc179 (by (try simp only [jd, jk, jl]); exact (jg (by omega) (by omega)).mpr q)
           have yhc180 : ¬ jn = ((nl + n1) + 1) := fun q => hc180 (by (try simp only [jd, jk, jl]); exact (jB (by omega) (by omega)).mpr q)
           have fin : (((jr (jc nl mL) (jc n1 m1) (jc n2 m2) (jc n3 m3)) ++ [10]).getD jn 0) = (0 : Int32) := by
            unfold jr js; rw [if_pos d3, if_neg d2]; simp only [jC, jv, ju, jD, List.length_append, List.length_replicate, List.length_cons, List.length_nil, jq]
            repeat' split
            all_goals first | rfl | (exfalso; omega)
           exact mid172 (0 : Int32) fin
        ·refine gsW (fun _ k => jh (pc' := 512) X171 hq at_460 (flt hc178).2.1 (ja X171 hq at_512 rfl (jf (v := (3 : Int32)) X171 hq at_514 (jm X171 hq at_515 (flt (by decide : ¬ ((3 : Int32) < (3 : Int32)))).1 (ja X171 hq at_518 rfl (ja X171 hq at_520 rfl (ja X171 hq at_522 rfl (jt X171 hq at_524 k)))))))) ?_
         by_cases hc181 : (oI jn) < ((((((oI nl) + (oI n1)) + (1 : Int32)) + (oI n2)) + ((1 : Int32) + (oI nl))) + (oI n3))
         ·refine gsW (fun _ k => jm X171 hq at_525 (tlt hc181).2.1 (ja X171 hq at_528 rfl (ja X171 hq at_530 rfl k))) ?_
          by_cases hc182 : (oI jn) < (((((oI nl) + (oI n1)) + (1 : Int32)) + (oI n2)) + ((1 : Int32) + (oI nl)))
          ·refine gsW (fun _ k => jm X171 hq at_532 (tlt hc182).2.1 (ja X171 hq at_535 rfl (jG X171 hq at_537 ((if0 _ _).trans (feq (by decide : ¬ ((1 : Int32) = (0 : Int32)))).1) (ja X171 hq at_540 rfl (ja X171 hq at_542 rfl k))))) ?_
           by_cases hc183 : (oI jn) = ((((oI nl) + (oI n1)) + (1 : Int32)) + (oI n2))
           ·refine gsW (fun _ k => jm X171 hq at_544 (teq hc183).2 (jz (v := (10 : Int32)) X171 hq at_547 (jp (pc' := 554) X171 hq at_549 (je X171 hq at_554 (jj rfl) (jp (pc' := 581) X171 hq at_556 k))))) ?_
            have yhc174 : ¬ jn < nl := mt (jg (by omega) (by omega)).mpr hc174
            have yhc176 : ¬ jn < (nl + n1) := fun q => hc176 (by (try simp only [jd, jk, jl]); exact (jg (by omega) (by omega)).mpr q)
            have yhc178 : ¬ jn < (((nl + n1) + 1) + n2) := fun q => hc178 (by (try simp only [jd, jk, jl]); exact (jg (by omega) (by omega)).mpr q)
            have yhc181 : jn < (((((nl + n1) + 1) + n2) + (1 + nl)) + n3) := (jg (by omega) (by omega)).mp (by have q := hc181; (try simp only [jd, jk, jl] at q); exact q)
            have yhc182 : jn < ((((nl + n1) + 1) + n2) + (1 + nl)) := (jg (by omega) (by omega)).mp (by have q := hc182; (try simp only [jd, jk, jl] at q); exact q)
            have yhc183 : jn = (((nl + n1) + 1) + n2) := (jB (by omega) (by omega)).mp (by have q := hc183; (try simp only [jd, jk, jl] at q); exact q)
            have fin : (((jr (jc nl mL) (jc n1 m1) (jc n2 m2) (jc n3 m3)) ++ [10]).getD jn 0) = (10 : Int32) := by
             unfold jr js; rw [if_pos d3, if_neg d2]; simp only [jC, jv, ju, jD, List.length_append, List.length_replicate, List.length_cons, List.length_nil, jq]
             repeat' split
             all_goals first | rfl | (exfalso; omega)
            exact mid172 (10 : Int32) fin
           ·refine gsW (fun _ k => jh (pc' := 552) X171 hq at_544 (feq hc183).2 (jz (v := (32 : Int32)) X171 hq at_552 (je X171 hq at_554 (jj rfl) (jp (pc' := 581) X171 hq at_556 k)))) ?_
            have yhc174 : ¬ jn < nl := mt (jg (by omega) (by omega)).mpr hc174
            have yhc176 : ¬ jn < (nl + n1) := fun q => hc176 (by (try simp only [jd, jk, jl]); exact (jg (by omega) (by omega)).mpr q)
            have yhc178 : ¬ jn < (((nl + n1) + 1) + n2) := fun q => hc178 (by (try simp only [jd, jk, jl]); exact (jg (by omega) (by omega)).mpr q)
            have yhc181 : jn < (((((nl + n1) + 1) + n2) + (1 + nl)) + n3) := (jg (by omega) (by omega)).mp (by have q := hc181; (try simp only [jd, jk, jl] at q); exact q)
            have yhc182 : jn < ((((nl + n1) + 1) + n2) + (1 + nl)) := (jg (by omega) (by omega)).mp (by have q := hc182; (try simp only [jd, jk, jl] at q); exact q)
            have yhc183 : ¬ jn = (((nl + n1) + 1) + n2) := fun q => hc183 (by (try simp only [jd, jk, jl]); exact (jB (by omega) (by omega)).mpr q)
            have fin : (((jr (jc nl mL) (jc n1 m1) (jc n2 m2) (jc n3 m3)) ++ [10]).getD jn 0) = (32 : Int32) := by
             unfold jr js; rw [if_pos d3, if_neg d2]; simp only [jC, jv, ju, jD, List.length_append, List.length_replicate, List.length_cons, List.length_nil, jq]
             repeat' split
             all_goals first | rfl | (exfalso; omega)
            exact mid172 (32 : Int32) fin
          ·refine gsW (fun _ k => jh (pc' := 559) X171 hq at_532 (flt hc182).2.1 (ja X171 hq at_559 rfl (ja X171 hq at_561 rfl k))) ?_
           by_cases hc184 : (oI jn) = (((((oI nl) + (oI n1)) + (1 : Int32)) + (oI n2)) + ((1 : Int32) + (oI nl)))
           ·refine gsW (fun _ k => jm X171 hq at_563 (teq hc184).2 (ja X171 hq at_566 rfl (jp (pc' := 572) X171 hq at_568 (je X171 hq at_572 (jj rfl) (jp (pc' := 581) X171 hq at_574 k))))) ?_
            have yhc174 : ¬ jn < nl := mt (jg (by omega) (by omega)).mpr hc174
            have yhc176 : ¬ jn < (nl + n1) := fun q => hc176 (by (try simp only [jd, jk, jl]); exact (jg (by omega) (by omega)).mpr q)
            have yhc178 : ¬ jn < (((nl + n1) + 1) + n2) := fun q => hc178 (by (try simp only [jd, jk, jl]); exact (jg (by omega) (by omega)).mpr q)
            have yhc181 : jn < (((((nl + n1) + 1) + n2) + (1 + nl)) + n3) := (jg (by omega) (by omega)).mp (by have q := hc181; (try simp only [jd, jk, jl] at q); exact q)
            have yhc182 : ¬ jn < ((((nl + n1) + 1) + n2) + (1 + nl)) := fun q => hc182 (by (try simp only [jd, jk, jl]); exact (jg (by omega) (by omega)).mpr q)
            have yhc184 : jn = ((((nl + n1) + 1) + n2) + (1 + nl)) := (jB (by omega) (by omega)).mp (by have q := hc184; (try simp only [jd, jk, jl] at q); exact q)
            have fin : (((jr (jc nl mL) (jc n1 m1) (jc n2 m2) (jc n3 m3)) ++ [10]).getD jn 0) = m3 := by
             unfold jr js; rw [if_pos d3, if_neg d2]; simp only [jC, jv, ju, jD, List.length_append, List.length_replicate, List.length_cons, List.length_nil, jq]
             repeat' split
             all_goals first | rfl | (exfalso; omega)
            exact mid172 m3 fin
           ·refine gsW (fun _ k => jh (pc' := 571) X171 hq at_563 (feq hc184).2 (jf (v := (0 : Int32)) X171 hq at_571 (je X171 hq at_572 (jj rfl) (jp (pc' := 581) X171 hq at_574 k)))) ?_
            have yhc174 : ¬ jn < nl := mt (jg (by omega) (by omega)).mpr hc174
            have yhc176 : ¬ jn < (nl + n1) := fun q => hc176 (by (try simp only [jd, jk, jl]); exact (jg (by omega) (by omega)).mpr q)
            have yhc178 : ¬ jn < (((nl + n1) + 1) + n2) := fun q => hc178 (by (try simp only [jd, jk, jl]); exact (jg (by omega) (by omega)).mpr q)
            have yhc181 : jn < (((((nl + n1) + 1) + n2) + (1 + nl)) + n3) := (jg (by omega) (by omega)).mp (by have q := hc181; (try simp only [jd, jk, jl] at q); exact q)
            have yhc182 : ¬ jn < ((((nl + n1) + 1) + n2) + (1 + nl)) := fun q => hc182 (by (try simp only [jd, jk, jl]); exact (jg (by omega) (by omega)).mpr q)
            have yhc184 : ¬ jn = ((((nl + n1) + 1) + n2) + (1 + nl)) := fun q => hc184 (by (try simp only [jd, jk, jl]); exact (jB (by omega) (by omega)).mpr q)
            have fin : (((jr (jc nl mL) (jc n1 m1) (jc n2 m2) (jc n3 m3)) ++ [10]).getD jn 0) = (0 : Int32) := by
             unfold jr js; rw [if_pos d3, if_neg d2]; simp only [jC, jv, ju, jD, List.length_append, List.length_replicate, List.length_cons, List.length_nil, jq]
             repeat' split
             all_goals first | rfl | (exfalso; omega)
            exact mid172 (0 : Int32) fin
         ·refine gsW (fun _ k => jh (pc' := 577) X171 hq at_525 (flt hc181).2.1 (jz (v := (10 : Int32)) X171 hq at_577 (je X171 hq at_579 (jj rfl) k))) ?_
          have yhc174 : ¬ jn < nl := mt (jg (by omega) (by omega)).mpr hc174
          have yhc176 : ¬ jn < (nl + n1) := fun q => hc176 (by (try simp only [jd, jk, jl]); exact (jg (by omega) (by omega)).mpr q)
          have yhc178 : ¬ jn < (((nl + n1) + 1) + n2) := fun q => hc178 (by (try simp only [jd, jk, jl]); exact (jg (by omega) (by omega)).mpr q)
          have yhc181 : ¬ jn < (((((nl + n1) + 1) + n2) + (1 + nl)) + n3) := fun q => hc181 (by (try simp only [jd, jk, jl]); exact (jg (by omega) (by omega)).mpr q)
          have fin : (((jr (jc nl mL) (jc n1 m1) (jc n2 m2) (jc n3 m3)) ++ [10]).getD jn 0) = (10 : Int32) := by
           unfold jr js; rw [if_pos d3, if_neg d2]; simp only [jC, jv, ju, jD, List.length_append, List.length_replicate, List.length_cons, List.length_nil, jq]
           repeat' split
           all_goals first | rfl | (exfalso; omega)
          exact mid172 (10 : Int32) fin
     ·refine gsW (fun _ k => jh (pc' := 312) X137 hq at_305 (flt hc170).2.2.2 (jf (v := (0 : Int32)) X137 hq at_312 (je X137 hq at_313 (jF rfl rfl) k))) ?_
      refine gsW (S' := T137.setTop (mkF m 315 #[iv i0, iv i1, iv i2, iv i3, iv i4, iv i5, iv (oI nl), iv (oI n1), iv (oI n2), iv (oI n3), iv mL, iv m1, iv m2, iv m3, iv (3 : Int32), rv a98, rv b100, rv a137, iv (((((oI nl) + (oI n1)) + (1 : Int32)) + (oI n2))), iv (((((oI nl) + (oI n1)) + (1 : Int32)) + (oI n2))), iv (oI nl), iv (0 : Int32), iv (((oI nl) + (oI n1))), iv ((((oI nl) + (oI n1)) + (1 : Int32))), iv (0 : Int32), iv (((((oI nl) + (oI n1)) + (1 : Int32)) + (oI n2))), iv (((((oI nl) + (oI n1)) + (1 : Int32)) + (oI n2))), uu, uu, uu] [])) (fun _ k => k) ?_
      refine gsW (fun _ k => ja X137 hq at_315 rfl (ja X137 hq at_317 rfl (jI (pc' := 329) X137 hq at_319 ((if0 _ _).trans (teq (by decide : (0 : Int32) = (0 : Int32))).1) (jf (v := (1 : Int32)) X137 hq at_329 (jt X137 hq at_330 (je X137 hq at_331 (jF rfl rfl) (ja X137 hq at_333 rfl (ja X137 hq at_335 rfl (jt X137 hq at_337 (je X137 hq at_338 (jF rfl rfl) (ja X137 hq at_340 rfl (jI (pc' := 353) X137 hq at_342 ((if0 _ _).trans (teq (by decide : (0 : Int32) = (0 : Int32))).1) (ja X137 hq at_353 rfl (jf (v := (1 : Int32)) X137 hq at_355 (jt X137 hq at_356 (ja X137 hq at_357 rfl (jt X137 hq at_359 (je X137 hq at_360 (jF rfl rfl) (ja X137 hq at_362 rfl (jf (v := (1 : Int32)) X137 hq at_364 (jt X137 hq at_365 k))))))))))))))))))))) ?_
      have y2 : ¬ 80 < (((nl + n1) + 1) + n2) := fun q => hc139 (by (try simp only [jd, jk, jl]); exact (jg (a := 80) (by omega) (by omega)).mpr q)
      have d2 : ¬ (jaa (jc nl mL) (jc n1 m1) (jc n2 m2)) := by unfold jaa; simp only [jq]; exact y2
      have y3 : ¬ 80 < (((((nl + n1) + 1) + n2) + 1) + n3) := fun q => hc170 (by (try simp only [jd, jk, jl]); exact (jg (a := 80) (by omega) (by omega)).mpr q)
      have d3 : ¬ (own_C3 (jc nl mL) (jc n1 m1) (jc n2 m2) (jc n3 m3)) := by unfold own_C3 own_col2; rw [if_neg d2]; simp only [jq]; omega
      have hln : ((jr (jc nl mL) (jc n1 m1) (jc n2 m2) (jc n3 m3)) ++ [10]).length = ((((((nl + n1) + 1) + n2) + 1) + n3) + 1) := by unfold jr js; rw [if_neg d3, if_neg d2]; simp only [List.length_append, List.length_replicate, List.length_cons, List.length_nil, jq] <;> omega
      have hl4 : ((jr (jc nl mL) (jc n1 m1) (jc n2 m2) (jc n3 m3)) ++ [10]).length ≤ 4000 := by omega
      have et : (((((((oI nl) + (oI n1)) + (1 : Int32)) + (oI n2)) + (1 : Int32)) + (oI n3)) + (1 : Int32)) = oI (((((((nl + n1) + 1) + n2) + 1) + n3) + 1)) := by simp only [jd, jk, jl]
      rw [et]
      refine gsW (fun _ k => je X137 hq at_366 (jj rfl) (jy X137 hq at_368 rfl rfl k)) ?_
      refine cVW (rest := []) X137 hx hZ hown (ow hw 229 rfl) (ow hw 56 rfl) (nfs hZ (ow hw 58 rfl)) (ow hw 58 rfl) (ow hw 57 rfl) (ow hw 7 rfl) (ow hw 59 rfl) (rm_lenL l Z a0 hw [] a137 ((jr (jc nl mL) (jc n1 m1) (jc n2 m2) (jc n3 m3)) ++ [10]) z T137.heap n0 Z138 O138 T137q S0 hz) hby at_370 rfl pd_644 0 (by rw [hml]; rfl) T137q.exa rfl rfl rfl rfl (by decide) (by decide) fun _ T185 Lc185 X185 hQ185 => ?_
      obtain ⟨rfl, N185q, e185q⟩ := hQ185
      have N185 := Fr.app N137 N185q
      refine gsW (fun _ k => ja X185 hq at_373 rfl (jh (pc' := 380) X185 hq at_375 (teq (by rw [hln])).1 (ja X185 hq at_380 rfl (jac X185 hq hown (mvT hZ (ow hw 230 rfl)) at_382 (jab X185 hq at_384 (ja X185 hq at_385 rfl (Jvm.RoadKit.iremM X185 hx (g := (mkF m 387 #[iv i0, iv i1, iv i2, iv i3, iv i4, iv i5, iv (oI nl), iv (oI n1), iv (oI n2), iv (oI n3), iv mL, iv m1, iv m2, iv m3, iv (3 : Int32), rv a98, rv b100, rv a137, iv (((((((oI nl) + (oI n1)) + (1 : Int32)) + (oI n2)) + (1 : Int32)) + (oI n3))), iv (((((((oI nl) + (oI n1)) + (1 : Int32)) + (oI n2)) + (1 : Int32)) + (oI n3))), iv (oI nl), iv (0 : Int32), iv (((oI nl) + (oI n1))), iv ((((oI nl) + (oI n1)) + (1 : Int32))), iv (0 : Int32), iv (((((oI nl) + (oI n1)) + (1 : Int32)) + (oI n2))), iv ((((((oI nl) + (oI n1)) + (1 : Int32)) + (oI n2)) + (1 : Int32))), iv ((oI (((((((nl + n1) + 1) + n2) + 1) + n3) + 1)))), uu, uu] [(.int (oI (((((((nl + n1) + 1) + n2) + 1) + n3) + 1)))), (.int (i5 &&& (2147483647 : Int32)))])) rfl (hb hby at_387) rfl (jaf (b := 0) (by omega) (by omega) (by omega)) k))))))) ?_
      obtain ⟨jn, ej, hj⟩ := own_rem (x := i5) (t := ((((((nl + n1) + 1) + n2) + 1) + n3) + 1)) (by omega) (by omega)
      rw [ej]
      refine gsW (fun _ k => je X185 hq at_388 (jj rfl) k) ?_
      have mid186 : ∀ e_186 : Int32, ((((jr (jc nl mL) (jc n1 m1) (jc n2 m2) (jc n3 m3)) ++ [10]).getD jn 0) = e_186) → OwnGoW p e below s Z jo (fun v h L => v = some (.int 1) ∧ Fr n0 L) room_1.cells room_1.slots (T185.setTop (mkF m 581 #[iv i0, iv i1, iv i2, iv i3, iv i4, iv i5, iv (oI nl), iv (oI n1), iv (oI n2), iv (oI n3), iv mL, iv m1, iv m2, iv m3, iv (3 : Int32), rv a98, rv b100, rv a137, iv (((((((oI nl) + (oI n1)) + (1 : Int32)) + (oI n2)) + (1 : Int32)) + (oI n3))), iv (((((((oI nl) + (oI n1)) + (1 : Int32)) + (oI n2)) + (1 : Int32)) + (oI n3))), iv (oI nl), iv (0 : Int32), iv (((oI nl) + (oI n1))), iv ((((oI nl) + (oI n1)) + (1 : Int32))), iv (0 : Int32), iv (((((oI nl) + (oI n1)) + (1 : Int32)) + (oI n2))), iv ((((((oI nl) + (oI n1)) + (1 : Int32)) + (oI n2)) + (1 : Int32))), iv ((oI (((((((nl + n1) + 1) + n2) + 1) + n3) + 1)))), iv (oI jn), iv e_186] [])) := by
       intro e_186 hfin
       refine gsW (fun _ k => jy X185 hq at_581 rfl rfl (ja X185 hq at_583 rfl k)) ?_
       refine cVW (rest := []) X185 hx hZ hown (ow hw 231 rfl) (ow hw 232 rfl) (nfs hZ (ow hw 234 rfl)) (ow hw 234 rfl) (ow hw 233 rfl) (ow hw 7 rfl) (ow hw 235 rfl) (rm_chL l Z a0 hw [] a137 ((jr (jc nl mL) (jc n1 m1) (jc n2 m2) (jc n3 m3)) ++ [10]) jn (oI jn) z fm T137.heap n0 Z138 O138 T137q (jU (own_w3b (jK hm0) (jK hm1) (jK hm2) (jK hm3)) (by decide)) (by rw [hln]; exact hj) hl4 rfl S0 hz S4 hfm) hby at_585 e185q pd_959 0 (by rw [hml]; rfl) T137q.exa rfl rfl rfl rfl (by decide) (by decide) fun _ T187 Lc187 X187 hQ187 => ?_
       obtain ⟨rfl, N187q, e187q⟩ := hQ187
       have N187 := Fr.app N185 N187q
       refine gsW (fun _ k => ja X187 hq at_588 rfl (jm X187 hq at_590 (teq hfin).2 (jf (v := (1 : Int32)) X187 hq at_593 (jp (pc' := 598) X187 hq at_594 k)))) ?_
       refine goutW (v := some (.int (1 : Int32))) X187 hS (Nat.le_refl T137.heap.size) hZ (jJ hw) hh e187q R138 Bd.notSynchronized (jA Bd.returns) (by decide) (by decide) ?_ (fun fs hr => retN X187 hx (t := .boolean) Bd.returns (by simp) (hb hby at_598) hr)
       exact ⟨rfl, N187⟩
      refine gsW (fun _ k => ja X185 hq at_390 rfl (ja X185 hq at_392 rfl k)) ?_
      by_cases hc188 : (oI jn) < (oI nl)
      ·refine gsW (fun _ k => jm X185 hq at_394 (tlt hc188).2.1 (ja X185 hq at_397 rfl k)) ?_
       by_cases hc189 : (oI jn) = (0 : Int32)
       ·refine gsW (fun _ k => jG X185 hq at_399 ((if0 _ _).trans (teq hc189).2) (ja X185 hq at_402 rfl (jp (pc' := 408) X185 hq at_404 (je X185 hq at_408 (jj rfl) (jp (pc' := 581) X185 hq at_410 k))))) ?_
        have yhc188 : jn < nl := (jg (by omega) (by omega)).mp hc188
        have yhc189 : jn = 0 := (jB (b := 0) (by omega) (by omega)).mp hc189
        have fin : (((jr (jc nl mL) (jc n1 m1) (jc n2 m2) (jc n3 m3)) ++ [10]).getD jn 0) = mL := by
         unfold jr js; rw [if_neg d3, if_neg d2]; simp only [jC, jv, ju, jD, List.length_append, List.length_replicate, List.length_cons, List.length_nil, jq]
         repeat' split
         all_goals first | rfl | (exfalso; omega)
        exact mid186 mL fin
       ·refine gsW (fun _ k => jI (pc' := 407) X185 hq at_399 ((if0 _ _).trans (feq hc189).2) (jf (v := (0 : Int32)) X185 hq at_407 (je X185 hq at_408 (jj rfl) (jp (pc' := 581) X185 hq at_410 k)))) ?_
        have yhc188 : jn < nl := (jg (by omega) (by omega)).mp hc188
        have yhc189 : ¬ jn = 0 := fun q => hc189 ((jB (b := 0) (by omega) (by omega)).mpr q)
        have fin : (((jr (jc nl mL) (jc n1 m1) (jc n2 m2) (jc n3 m3)) ++ [10]).getD jn 0) = (0 : Int32) := by
         unfold jr js; rw [if_neg d3, if_neg d2]; simp only [jC, jv, ju, jD, List.length_append, List.length_replicate, List.length_cons, List.length_nil, jq]
         repeat' split
         all_goals first | rfl | (exfalso; omega)
        exact mid186 (0 : Int32) fin
      ·refine gsW (fun _ k => jh (pc' := 413) X185 hq at_394 (flt hc188).2.1 (ja X185 hq at_413 rfl (jf (v := (1 : Int32)) X185 hq at_415 (jm X185 hq at_416 (flt (by decide : ¬ ((3 : Int32) < (1 : Int32)))).1 (ja X185 hq at_419 rfl (ja X185 hq at_421 rfl (ja X185 hq at_423 rfl (jt X185 hq at_425 k)))))))) ?_
       by_cases hc190 : (oI jn) < ((oI nl) + (oI n1))
       ·refine gsW (fun _ k => jm X185 hq at_426 (tlt hc190).2.1 (ja X185 hq at_429 rfl (ja X185 hq at_431 rfl k))) ?_
        by_cases hc191 : (oI jn) = (oI nl)
        ·refine gsW (fun _ k => jm X185 hq at_433 (teq hc191).2 (ja X185 hq at_436 rfl (jp (pc' := 442) X185 hq at_438 (je X185 hq at_442 (jj rfl) (jp (pc' := 581) X185 hq at_444 k))))) ?_
         have yhc188 : ¬ jn < nl := mt (jg (by omega) (by omega)).mpr hc188
         have yhc190 : jn < (nl + n1) := (jg (by omega) (by omega)).mp (by have q := hc190; (try simp only [jd, jk, jl] at q); exact q)
         have yhc191 : jn = nl := (jB (by omega) (by omega)).mp hc191
         have fin : (((jr (jc nl mL) (jc n1 m1) (jc n2 m2) (jc n3 m3)) ++ [10]).getD jn 0) = m1 := by
          unfold jr js; rw [if_neg d3, if_neg d2]; simp only [jC, jv, ju, jD, List.length_append, List.length_replicate, List.length_cons, List.length_nil, jq]
          repeat' split
          all_goals first | rfl | (exfalso; omega)
         exact mid186 m1 fin
        ·refine gsW (fun _ k => jh (pc' := 441) X185 hq at_433 (feq hc191).2 (jf (v := (0 : Int32)) X185 hq at_441 (je X185 hq at_442 (jj rfl) (jp (pc' := 581) X185 hq at_444 k)))) ?_
         have yhc188 : ¬ jn < nl := mt (jg (by omega) (by omega)).mpr hc188
         have yhc190 : jn < (nl + n1) := (jg (by omega) (by omega)).mp (by have q := hc190; (try simp only [jd, jk, jl] at q); exact q)
         have yhc191 : ¬ jn = nl := mt (jB (by omega) (by omega)).mpr hc191
         have fin : (((jr (jc nl mL) (jc n1 m1) (jc n2 m2) (jc n3 m3)) ++ [10]).getD jn 0) = (0 : Int32) := by
          unfold jr js; rw [if_neg d3, if_neg d2]; simp only [jC, jv, ju, jD, List.length_append, List.length_replicate, List.length_cons, List.length_nil, jq]
          repeat' split
          all_goals first | rfl | (exfalso; omega)
         exact mid186 (0 : Int32) fin
       ·refine gsW (fun _ k => jh (pc' := 447) X185 hq at_426 (flt hc190).2.1 (ja X185 hq at_447 rfl (jf (v := (2 : Int32)) X185 hq at_449 (jm X185 hq at_450 (flt (by decide : ¬ ((3 : Int32) < (2 : Int32)))).1 (ja X185 hq at_453 rfl (ja X185 hq at_455 rfl (ja X185 hq at_457 rfl (jt X185 hq at_459 k)))))))) ?_
        by_cases hc192 : (oI jn) < ((((oI nl) + (oI n1)) + (1 : Int32)) + (oI n2))
        ·refine gsW (fun _ k => jm X185 hq at_460 (tlt hc192).2.1 (ja X185 hq at_463 rfl (ja X185 hq at_465 rfl k))) ?_
         by_cases hc193 : (oI jn) < (((oI nl) + (oI n1)) + (1 : Int32))
         ·refine gsW (fun _ k => jm X185 hq at_467 (tlt hc193).2.1 (ja X185 hq at_470 rfl (jI (pc' := 487) X185 hq at_472 ((if0 _ _).trans (teq (by decide : (0 : Int32) = (0 : Int32))).1) (jz (v := (32 : Int32)) X185 hq at_487 (je X185 hq at_489 (jj rfl) (jp (pc' := 581) X185 hq at_491 k)))))) ?_
          have yhc188 : ¬ jn < nl := mt (jg (by omega) (by omega)).mpr hc188
          have yhc190 : ¬ jn < (nl + n1) := fun q => hc190 (by (try simp only [jd, jk, jl]); exact (jg (by omega) (by omega)).mpr q)
          have yhc192 : jn < (((nl + n1) + 1) + n2) := (jg (by omega) (by omega)).mp (by have q := hc192; (try simp only [jd, jk, jl] at q); exact q)
          have yhc193 : jn < ((nl + n1) + 1) := (jg (by omega) (by omega)).mp (by have q := hc193; (try simp only [jd, jk, jl] at q); exact q)
          have fin : (((jr (jc nl mL) (jc n1 m1) (jc n2 m2) (jc n3 m3)) ++ [10]).getD jn 0) = (32 : Int32) := by
           unfold jr js; rw [if_neg d3, if_neg d2]; simp only [jC, jv, ju, jD, List.length_append, List.length_replicate, List.length_cons, List.length_nil, jq]
           repeat' split
           all_goals first | rfl | (exfalso; omega)
          exact mid186 (32 : Int32) fin
         ·refine gsW (fun _ k => jh (pc' := 494) X185 hq at_467 (flt hc193).2.1 (ja X185 hq at_494 rfl (ja X185 hq at_496 rfl k))) ?_
          by_cases hc194 : (oI jn) = (((oI nl) + (oI n1)) + (1 : Int32))
          ·refine gsW (fun _ k => jm X185 hq at_498 (teq hc194).2 (ja X185 hq at_501 rfl (jp (pc' := 507) X185 hq at_503 (je X185 hq at_507 (jj rfl) (jp (pc' := 581) X185 hq at_509 k))))) ?_
           have yhc188 : ¬ jn < nl := mt (jg (by omega) (by omega)).mpr hc188
           have yhc190 : ¬ jn < (nl + n1) := fun q => hc190 (by (try simp only [jd, jk, jl]); exact (jg (by omega) (by omega)).mpr q)
           have yhc192 : jn < (((nl + n1) + 1) + n2) := (jg (by omega) (by omega)).mp (by have q := hc192; (try simp only [jd, jk, jl] at q); exact q)
           have yhc193 : ¬ jn < ((nl + n1) + 1) := fun q => hc193 (by (try simp only [jd, jk, jl]); exact (jg (by omega) (by omega)).mpr q)
           have yhc194 : jn = ((nl + n1) + 1) := (jB (by omega) (by omega)).mp (by have q := hc194; (try simp only [jd, jk, jl] at q); exact q)
           have fin : (((jr (jc nl mL) (jc n1 m1) (jc n2 m2) (jc n3 m3)) ++ [10]).getD jn 0) = m2 := by
            unfold jr js; rw [if_neg d3, if_neg d2]; simp only [jC, jv, ju, jD, List.length_append, List.length_replicate, List.length_cons, List.length_nil, jq]
            repeat' split
            all_goals first | rfl | (exfalso; omega)
           exact mid186 m2 fin
          ·refine gsW (fun _ k => jh (pc' := 506) X185 hq at_498 (feq hc194).2 (jf (v := (0 : Int32)) X185 hq at_506 (je X185 hq at_507 (jj rfl) (jp (pc' := 581) X185 hq at_509 k)))) ?_
           have yhc188 : ¬ jn < nl := mt (jg (by omega) (by omega)).mpr hc188
           have yhc190 : ¬ jn < (nl + n1) := fun q => hc190 (by (try simp only [jd, jk, jl]); exact (jg (by omega) (by omega)).mpr q)
           have yhc192 : jn < (((nl + n1) + 1) + n2) := (jg (by omega) (by omega)).mp (by have q := hc192; (try simp only [jd, jk, jl] at q); exact q)
           have yhc193 : ¬ jn < ((nl + n1) + 1) := fun q => hc193 (by (try simp only [jd, jk, jl]); exact (jg (by omega) (by omega)).mpr q)
           have yhc194 : ¬ jn = ((nl + n1) + 1) := fun q => hc194 (by (try simp only [jd, jk, jl]); exact (jB (by omega) (by omega)).mpr q)
           have fin : (((jr (jc nl mL) (jc n1 m1) (jc n2 m2) (jc n3 m3)) ++ [10]).getD jn 0) = (0 : Int32) := by
            unfold jr js; rw [if_neg d3, if_neg d2]; simp only [jC, jv, ju, jD, List.length_append, List.length_replicate, List.length_cons, List.length_nil, jq]
            repeat' split
            all_goals first | rfl | (exfalso; omega)
           exact mid186 (0 : Int32) fin
        ·refine gsW (fun _ k => jh (pc' := 512) X185 hq at_460 (flt hc192).2.1 (ja X185 hq at_512 rfl (jf (v := (3 : Int32)) X185 hq at_514 (jm X185 hq at_515 (flt (by decide : ¬ ((3 : Int32) < (3 : Int32)))).1 (ja X185 hq at_518 rfl (ja X185 hq at_520 rfl (ja X185 hq at_522 rfl (jt X185 hq at_524 k)))))))) ?_
         by_cases hc195 : (oI jn) < ((((((oI nl) + (oI n1)) + (1 : Int32)) + (oI n2)) + (1 : Int32)) + (oI n3))
         ·refine gsW (fun _ k => jm X185 hq at_525 (tlt hc195).2.1 (ja X185 hq at_528 rfl (ja X185 hq at_530 rfl k))) ?_
          by_cases hc196 : (oI jn) < (((((oI nl) + (oI n1)) + (1 : Int32)) + (oI n2)) + (1 : Int32))
          ·refine gsW (fun _ k => jm X185 hq at_532 (tlt hc196).2.1 (ja X185 hq at_535 rfl (jI (pc' := 552) X185 hq at_537 ((if0 _ _).trans (teq (by decide : (0 : Int32) = (0 : Int32))).1) (jz (v := (32 : Int32)) X185 hq at_552 (je X185 hq at_554 (jj rfl) (jp (pc' := 581) X185 hq at_556 k)))))) ?_
           have yhc188 : ¬ jn < nl := mt (jg (by omega) (by omega)).mpr hc188
           have yhc190 : ¬ jn < (nl + n1) := fun q => hc190 (by (try simp only [jd, jk, jl]); exact (jg (by omega) (by omega)).mpr q)
           have yhc192 : ¬ jn < (((nl + n1) + 1) + n2) := fun q => hc192 (by (try simp only [jd, jk, jl]); exact (jg (by omega) (by omega)).mpr q)
           have yhc195 : jn < (((((nl + n1) + 1) + n2) + 1) + n3) := (jg (by omega) (by omega)).mp (by have q := hc195; (try simp only [jd, jk, jl] at q); exact q)
           have yhc196 : jn < ((((nl + n1) + 1) + n2) + 1) := (jg (by omega) (by omega)).mp (by have q := hc196; (try simp only [jd, jk, jl] at q); exact q)
           have fin : (((jr (jc nl mL) (jc n1 m1) (jc n2 m2) (jc n3 m3)) ++ [10]).getD jn 0) = (32 : Int32) := by
            unfold jr js; rw [if_neg d3, if_neg d2]; simp only [jC, jv, ju, jD, List.length_append, List.length_replicate, List.length_cons, List.length_nil, jq]
            repeat' split
            all_goals first | rfl | (exfalso; omega)
           exact mid186 (32 : Int32) fin
          ·refine gsW (fun _ k => jh (pc' := 559) X185 hq at_532 (flt hc196).2.1 (ja X185 hq at_559 rfl (ja X185 hq at_561 rfl k))) ?_
           by_cases hc197 : (oI jn) = (((((oI nl) + (oI n1)) + (1 : Int32)) + (oI n2)) + (1 : Int32))
           ·refine gsW (fun _ k => jm X185 hq at_563 (teq hc197).2 (ja X185 hq at_566 rfl (jp (pc' := 572) X185 hq at_568 (je X185 hq at_572 (jj rfl) (jp (pc' := 581) X185 hq at_574 k))))) ?_
            have yhc188 : ¬ jn < nl := mt (jg (by omega) (by omega)).mpr hc188
            have yhc190 : ¬ jn < (nl + n1) := fun q => hc190 (by (try simp only [jd, jk, jl]); exact (jg (by omega) (by omega)).mpr q)
            have yhc192 : ¬ jn < (((nl + n1) + 1) + n2) := fun q => hc192 (by (try simp only [jd, jk, jl]); exact (jg (by omega) (by omega)).mpr q)
            have yhc195 : jn < (((((nl + n1) + 1) + n2) + 1) + n3) := (jg (by omega) (by omega)).mp (by have q := hc195; (try simp only [jd, jk, jl] at q); exact q)
            have yhc196 : ¬ jn < ((((nl + n1) + 1) + n2) + 1) := fun q => hc196 (by (try simp only [jd, jk, jl]); exact (jg (by omega) (by omega)).mpr q)
            have yhc197 : jn = ((((nl + n1) + 1) + n2) + 1) := (jB (by omega) (by omega)).mp (by have q := hc197; (try simp only [jd, jk, jl] at q); exact q)
            have fin : (((jr (jc nl mL) (jc n1 m1) (jc n2 m2) (jc n3 m3)) ++ [10]).getD jn 0) = m3 := by
             unfold jr js; rw [if_neg d3, if_neg d2]; simp only [jC, jv, ju, jD, List.length_append, List.length_replicate, List.length_cons, List.length_nil, jq]
             repeat' split
             all_goals first | rfl | (exfalso; omega)
            exact mid186 m3 fin
           ·refine gsW (fun _ k => jh (pc' := 571) X185 hq at_563 (feq hc197).2 (jf (v := (0 : Int32)) X185 hq at_571 (je X185 hq at_572 (jj rfl) (jp (pc' := 581) X185 hq at_574 k)))) ?_
            have yhc188 : ¬ jn < nl := mt (jg (by omega) (by omega)).mpr hc188
            have yhc190 : ¬ jn < (nl + n1) := fun q => hc190 (by (try simp only [jd, jk, jl]); exact (jg (by omega) (by omega)).mpr q)
            have yhc192 : ¬ jn < (((nl + n1) + 1) + n2) := fun q => hc192 (by (try simp only [jd, jk, jl]); exact (jg (by omega) (by omega)).mpr q)
            have yhc195 : jn < (((((nl + n1) + 1) + n2) + 1) + n3) := (jg (by omega) (by omega)).mp (by have q := hc195; (try simp only [jd, jk, jl] at q); exact q)
            have yhc196 : ¬ jn < ((((nl + n1) + 1) + n2) + 1) := fun q => hc196 (by (try simp only [jd, jk, jl]); exact (jg (by omega) (by omega)).mpr q)
            have yhc197 : ¬ jn = ((((nl + n1) + 1) + n2) + 1) := fun q => hc197 (by (try simp only [jd, jk, jl]); exact (jB (by omega) (by omega)).mpr q)
            have fin : (((jr (jc nl mL) (jc n1 m1) (jc n2 m2) (jc n3 m3)) ++ [10]).getD jn 0) = (0 : Int32) := by
             unfold jr js; rw [if_neg d3, if_neg d2]; simp only [jC, jv, ju, jD, List.length_append, List.length_replicate, List.length_cons, List.length_nil, jq]
             repeat' split
             all_goals first | rfl | (exfalso; omega)
            exact mid186 (0 : Int32) fin
         ·refine gsW (fun _ k => jh (pc' := 577) X185 hq at_525 (flt hc195).2.1 (jz (v := (10 : Int32)) X185 hq at_577 (je X185 hq at_579 (jj rfl) k))) ?_
          have yhc188 : ¬ jn < nl := mt (jg (by omega) (by omega)).mpr hc188
          have yhc190 : ¬ jn < (nl + n1) := fun q => hc190 (by (try simp only [jd, jk, jl]); exact (jg (by omega) (by omega)).mpr q)
          have yhc192 : ¬ jn < (((nl + n1) + 1) + n2) := fun q => hc192 (by (try simp only [jd, jk, jl]); exact (jg (by omega) (by omega)).mpr q)
          have yhc195 : ¬ jn < (((((nl + n1) + 1) + n2) + 1) + n3) := fun q => hc195 (by (try simp only [jd, jk, jl]); exact (jg (by omega) (by omega)).mpr q)
          have fin : (((jr (jc nl mL) (jc n1 m1) (jc n2 m2) (jc n3 m3)) ++ [10]).getD jn 0) = (10 : Int32) := by
           unfold jr js; rw [if_neg d3, if_neg d2]; simp only [jC, jv, ju, jD, List.length_append, List.length_replicate, List.length_cons, List.length_nil, jq]
           repeat' split
           all_goals first | rfl | (exfalso; omega)
          exact mid186 (10 : Int32) fin
theorem own_len {Z : State} {args : Array Value} {t : Term} {a : Addr} {c : Cell} {ty : FieldType} {z : Int32} (et : t.eval args Z none [] Z = some (.ref a)) (A : Arr Z Z.heap a c ty) (hl : (Term.length t).eval args Z none [] Z = some (.int z)) : c.slots.size < 2147483648 ∧ c.slots.size.toInt32 = z := by
 have q := A.fin (Vm.Alike.refl _)
 simp [Term.eval, et, q] at hl
 exact ⟨hl.1, hl.2⟩
theorem comes_1 {Post : Tables → Env → Array Value → State → Outcome → State → Prop} (hpost : ∀ tb e args s v u, (limb_1_1.after args s (.returned v) u = true ∧ limb_1_2.after args s (.returned v) u = true ∧ True) → ReturnedEndW s (.returned v) u (Jvm.fieldLocs frame_1_writes args s ++ Jvm.arrayLocs frame_1_arrays args s ++ Jvm.staticLocs frame_1_statics s) 64 9728 → Post tb e args s (.returned v) u) :
  ArmFor flags0 classFile x code maxLocals ret World_1 tables_1 room_1 Calls_1 rest_1 Pre_1 Post := by
 intro l hfl _ _ p e ha hc hk s m args below hf hA hF happ hP
 obtain ⟨hcalls, hrest, hpre⟩ := hP
 obtain ⟨-, -, -, hnamed, -, -, -, hat⟩ := (Spec.applies_iff hf).mp happ
 obtain ⟨hg, hn⟩ := and_e (Cond.before_iff.mp (show (Jvm.Cond.and given_1 narrow_1).before args s = true from hpre))
 obtain ⟨hcnt, ga0⟩ := and_e hg
 obtain ⟨gi0, ga1⟩ := and_e ga0
 obtain ⟨gi1, ga2⟩ := and_e ga1
 obtain ⟨gi2, ga3⟩ := and_e ga2
 obtain ⟨gi3, ga4⟩ := and_e ga3
 obtain ⟨gi4, ga5⟩ := and_e ga4
 have gi5 := ga5
 obtain ⟨w0, w1, w2, w3, w4, w5, rfl⟩ : ∃ w0 w1 w2 w3 w4 w5 : Value, args = #[w0, w1, w2, w3, w4, w5] := by
  have hs : args.size = 6 := by simpa [Cond.value, given_1] using hcnt
  obtain ⟨L⟩ := args
  match L, hs with
  | [w0, w1, w2, w3, w4, w5], _ => exact ⟨w0, w1, w2, w3, w4, w5, rfl⟩
 have hw := fun d (hd : d ∈ tables_1) => atoms_spec (ws := Jvm.Cond.code x code maxLocals ret :: tables_1) hat d (List.mem_cons_of_mem _ hd)
 obtain ⟨hsets, hown0⟩ := atoms_of _ (rest_1_c_eq ▸ (show rest_1_c.before _ s = true from hrest))
 have hfit : Fit s := fun {y c} hc i hi => by
  obtain ⟨ha, rfl⟩ := Array.getElem?_eq_some_iff.mp hc
  have q := List.all_eq_true.mp ((Array.all_eq_true_iff_forall_mem.mp hF) _ (Array.getElem_mem ha)) i (List.mem_range.mpr hi)
  simpa [Array.getElem?_eq_getElem hi] using q
 obtain ⟨i0, ei0⟩ := is_v gi0
 obtain rfl : w0 = (.int i0) := Option.some.inj ei0
 obtain ⟨i1, ei1⟩ := is_v gi1
 obtain rfl : w1 = (.int i1) := Option.some.inj ei1
 obtain ⟨i2, ei2⟩ := is_v gi2
 obtain rfl : w2 = (.int i2) := Option.some.inj ei2
 obtain ⟨i3, ei3⟩ := is_v gi3
 obtain rfl : w3 = (.int i3) := Option.some.inj ei3
 obtain ⟨i4, ei4⟩ := is_v gi4
 obtain rfl : w4 = (.int i4) := Option.some.inj ei4
 obtain ⟨i5, ei5⟩ := is_v gi5
 obtain rfl : w5 = (.int i5) := Option.some.inj ei5
 have n5 := not_v (Cond.before_iff.mp (hsets _ (List.mem_of_getElem? (i := 11) rfl)))
 obtain ⟨cz, ecz⟩ := is_v (Cond.before_iff.mp (hsets _ (List.mem_of_getElem? (i := 10) rfl)))
 have Scz : Sta s s.heap "java/lang/String" "COMPACT_STRINGS" "Z" (.int cz) := Sta.start ecz (Or.inl (hsets _ (List.mem_of_getElem? (i := 9) rfl)))
 have hcz : ¬ (cz = (0 : Int32)) := gotF (Cond.eq_ints ecz (Term.int_eval (0))) n5
 obtain ⟨fm, efm, rfm⟩ := isR_v (Cond.before_iff.mp (hsets _ (List.mem_of_getElem? (i := 17) rfl)))
 have S_fm : Sta s s.heap "jdk/internal/util/Preconditions" "SIOOBE_FORMATTER" "Ljava/util/function/BiFunction;" fm := Sta.start efm (Or.inl (hsets _ (List.mem_of_getElem? (i := 16) rfl)))
 obtain ⟨de, ede⟩ := arr_v (Cond.before_iff.mp (hsets _ (List.mem_of_getElem? (i := 6) rfl)))
 have S_de : Sta s s.heap "java/util/ArrayList" "DEFAULTCAPACITY_EMPTY_ELEMENTDATA" "[Ljava/lang/Object;" (.ref de) := Sta.start ede (Or.inr ⟨(ow hw 28 rfl), (hsets _ (List.mem_of_getElem? (i := 2) rfl))⟩)
 obtain ⟨cl, A_de⟩ := Arr.start ede (Cond.before_iff.mp (hsets _ (List.mem_of_getElem? (i := 6) rfl)))
 have l_de := eqv_i (Term.int_eval (0)) (Cond.before_iff.mp (hsets _ (List.mem_of_getElem? (i := 8) rfl)))
 have s_de := own_len ede A_de l_de
 have z_de : cl.slots.size = 0 := by have q := s_de.2; have q2 := congrArg Int32.toInt q; rw [show cl.slots.size.toInt32 = oI cl.slots.size from rfl, Int32.toInt_ofNat_small (by omega)] at q2; have z0 : (0 : Int32).toInt = 0 := (by decide); omega
 have V_de : Arv s s.heap de cl.cls (.object "java/lang/Object") (0 : Int32) [] .null := ⟨cl, A_de, rfl, z_de, by decide, fun k hk => absurd hk (by omega), fun i hi => absurd hi (by omega)⟩
 have hC : CHv s jo s.vm s.heap := CHv.start (jJ hw) (fun p hp => hcalls.1 p hp) (hsets _ (List.mem_of_getElem? (i := 11) rfl)) (ow hw 19 rfl) (ow hw 6 rfl)
 obtain ⟨n, o, h1, h2, h3, _, L, rfl, ⟨rfl, N⟩, -, hq⟩ := rm_law l s _ hw tables_1 i0 i1 i2 i3 i4 i5 cz fm de cl.cls s.heap s.heap.size (Nat.le_refl _) (Old.start s) Scz hcz S_fm rfm S_de V_de p e ha hc hk s m _ below hf ((Spec.applies_iff_loose hf).mp happ).1 ⟨rfl, State.Warmed39.refl s, rfl, hC⟩ trivial
 refine ⟨n, _, h1, h2, h3, hpost _ _ _ _ _ _ ⟨Cond.after_iff.mpr rfl, Cond.after_iff.mpr (eq_i res_at (Term.int_eval (1)) rfl), trivial⟩ ⟨hq.1, hq.2.1, hq.2.2.1, (hq.2.2.2.sift fun y hy => Or.inr (N y hy)).mono (by decide) (by decide)⟩⟩
theorem main_1_1 : Claimed_1_1 := comes_1 fun _ _ _ _ _ _ h hF => ⟨h.1, hF⟩
theorem main_1_2 : Claimed_1_2 := comes_1 fun _ _ _ _ _ _ h hF => ⟨h.2.1, hF⟩
end Jvm.Pilot.@@N@@
namespace Jvm.Pilot.@@N@@
open Jvm Jvm.ClassFile Sem Op Lib Jvm.Free Jvm.Stand Jvm.Pilot.@@N@@.Jvm.D
/-! MADE BY PROGRAM (witnessworld.py) out of the Statement's table words and the real class files: 38 classes; the members and pool entries that the words name. The judged class is class 1, her method 2. -/
namespace start1
open Jvm.ClassFile
def u (s : String) : CpInfo := .utf8 (stringToUtf16 s)
/-- a pool by its gaps: so many unusable entries, then the entry; so many at the end -/
def gap : Nat → List CpInfo → List CpInfo
  | 0, r => r
  | n + 1, r => .unusable :: gap n r
def poolList (es : List (Nat × CpInfo)) (last : Nat) : List CpInfo := es.foldr (fun e r => gap e.1 (e.2 :: r)) (gap last [])
def pool (es : List (Nat × CpInfo)) (last : Nat) : Array CpInfo := ⟨poolList es last⟩
def fileOf (pool : Array CpInfo) (this : Nat) (attrs : Array Attribute := #[]) (ms : Array MethodInfo := #[]) (fl : Nat := 33) (sup : Nat := 0) (ifs : Array Nat := #[]) (fds : Array FieldInfo := #[]) : ClassFile where
  minorVersion := 0
  majorVersion := 65
  constantPool := pool
  accessFlags := fl
  thisClass := this
  superClass := sup
  interfaces := ifs
  fields := fds
  methods := ms
  attributes := attrs
def plain (name : String) (sup : Option ClassId) : Class where
  name := name
  kind := .ordinary
  loader := none
  accessFlags := 33
  super := sup
  interfaces := #[]
  cf := none
  fields := #[]
  methods := #[]
  instanceTypes := #[]
  staticTypes := #[]
  resolved := #[]
  callSites := []
  init := .initialized
  statics := none
  mirror := none

def pool0 : Array CpInfo := pool [(5, u "<init>"), (0, u "()V"), (1, .class_ 10), (1, u "java/lang/Object"), (85, u "clone"), (0, u "()Ljava/lang/Object;")] 26

def k0c0 : Code := { maxStack := 0, maxLocals := 1, code := object_method_1_code, exceptionTable := #[], attributes := #[] }
def k0m0 : Method := { name := "<init>", desc := "()V", sig := { parameters := [], returnType := none }, accessFlags := 1, code := some k0c0 }
def k0m1 : Method := { name := "clone", desc := "()Ljava/lang/Object;", sig := { parameters := [], returnType := some (.object "java/lang/Object") }, accessFlags := 260, code := none }
/-- java/lang/Object -/
def k0 : Class := { plain "java/lang/Object" none with
  accessFlags := 33
  interfaces := #[]
  cf := some (fileOf pool0 8 #[] #[{ accessFlags := 1, nameIndex := 5, descriptorIndex := 6, attributes := #[] }, { accessFlags := 260, nameIndex := 96, descriptorIndex := 97, attributes := #[] }] 33 0 #[] #[])
  fields := #[]
  methods := #[k0m0, k0m1]
  instanceTypes := #[]
  staticTypes := #[]
  resolved := Array.replicate 124 none
  statics := none }

def pool1 : Array CpInfo := pool [(2, .class_ 4), (0, .nameAndType 5 6), (0, u "java/lang/Object"), (0, u "<init>"), (0, u "()V"), (0, .class_ 8), (0, u "java/lang/String"), (0, .methodref 7 10), (0, .nameAndType 5 11), (0, u "([C)V"), (0, .methodref 13 14), (0, .class_ 15), (0, .nameAndType 16 17), (0, u "com/example/caddisfly/caddisfly/SyntaxWrapPinLaw"), (0, u "draw"), (0, u "(IC)Ljava/lang/String;"), (0, .class_ 19), (0, u "java/util/ArrayList"), (0, .methodref 18 3), (0, .interfaceMethodref 22 23), (0, .class_ 24), (0, .nameAndType 25 26), (0, u "java/util/List"), (0, u "add"), (0, u "(Ljava/lang/Object;)Z"), (0, .methodref 28 29), (0, .class_ 30), (0, .nameAndType 31 32), (0, u "com/example/caddisfly/caddisfly/Syntax"), (0, u "wrap"), (0, u "(Ljava/lang/String;Ljava/util/List;)Ljava/lang/String;"), (0, .methodref 7 34), (0, .nameAndType 35 36), (0, u "length"), (0, u "()I"), (0, .integer 2147483647), (0, .methodref 7 39), (0, .nameAndType 40 41), (0, u "charAt"), (0, u "(I)C"), (5, u "law"), (0, u "(IIIIII)Z")] 2

def k1m0 : Method := { name := "<init>", desc := "()V", sig := { parameters := [], returnType := none }, accessFlags := 2, code := none }
def k1c1 : Code := { maxStack := 3, maxLocals := 3, code := method_2_code, exceptionTable := #[], attributes := #[] }
def k1m1 : Method := { name := "draw", desc := "(IC)Ljava/lang/String;", sig := { parameters := [.int, .char], returnType := some (.object "java/lang/String") }, accessFlags := 10, code := some k1c1 }
def k1c2 : Code := { maxStack := 3, maxLocals := 30, code := code, exceptionTable := #[], attributes := #[] }
def k1m2 : Method := { name := "law", desc := "(IIIIII)Z", sig := { parameters := [.int, .int, .int, .int, .int, .int], returnType := some .boolean }, accessFlags := 9, code := some k1c2 }
/-- com/example/caddisfly/caddisfly/SyntaxWrapPinLaw -/
def k1 : Class := { plain "com/example/caddisfly/caddisfly/SyntaxWrapPinLaw" (some 0) with
  accessFlags := 49
  interfaces := #[]
  cf := some (fileOf pool1 13 #[] #[{ accessFlags := 2, nameIndex := 5, descriptorIndex := 6, attributes := #[] }, { accessFlags := 10, nameIndex := 16, descriptorIndex := 17, attributes := #[] }, { accessFlags := 9, nameIndex := 47, descriptorIndex := 48, attributes := #[] }] 49 2 #[] #[])
  fields := #[]
  methods := #[k1m0, k1m1, k1m2]
  instanceTypes := #[]
  staticTypes := #[]
  resolved := Array.replicate 51 none
  statics := none }

def pool2 : Array CpInfo := pool [(1, .class_ 2), (0, u "java/io/Serializable"), (0, .class_ 4), (0, u "java/lang/Object")] 2

/-- java/io/Serializable -/
def k2 : Class := { plain "java/io/Serializable" (some 0) with
  accessFlags := 1537
  interfaces := #[]
  cf := some (fileOf pool2 1 #[] #[] 1537 3 #[] #[])
  fields := #[]
  methods := #[]
  instanceTypes := #[]
  staticTypes := #[]
  resolved := Array.replicate 7 none
  statics := none }

def pool3 : Array CpInfo := pool [(1, .class_ 2), (0, u "java/lang/Comparable"), (0, .class_ 4), (0, u "java/lang/Object")] 7

/-- java/lang/Comparable -/
def k3 : Class := { plain "java/lang/Comparable" (some 0) with
  accessFlags := 1537
  interfaces := #[]
  cf := some (fileOf pool3 1 #[] #[] 1537 3 #[] #[])
  fields := #[]
  methods := #[]
  instanceTypes := #[]
  staticTypes := #[]
  resolved := Array.replicate 12 none
  statics := none }

def pool4 : Array CpInfo := pool [(2, .class_ 4), (1, u "java/lang/CharSequence"), (42, .class_ 48), (0, u "java/lang/CharSequence$1CodePointIterator"), (10, .class_ 60), (0, u "java/lang/CharSequence$1CharIterator"), (5, .class_ 67), (0, u "java/lang/Object")] 63

/-- java/lang/CharSequence -/
def k4 : Class := { plain "java/lang/CharSequence" (some 0) with
  accessFlags := 1537
  interfaces := #[]
  cf := some (fileOf pool4 2 #[.nestMembers #[47, 59]] #[] 1537 66 #[] #[])
  fields := #[]
  methods := #[]
  instanceTypes := #[]
  staticTypes := #[]
  resolved := Array.replicate 131 none
  statics := none }

def pool5 : Array CpInfo := pool [(1, .class_ 2), (0, u "java/lang/constant/Constable"), (0, .class_ 4), (0, u "java/lang/Object")] 6

/-- java/lang/constant/Constable -/
def k5 : Class := { plain "java/lang/constant/Constable" (some 0) with
  accessFlags := 1537
  interfaces := #[]
  cf := some (fileOf pool5 1 #[] #[] 1537 3 #[] #[])
  fields := #[]
  methods := #[]
  instanceTypes := #[]
  staticTypes := #[]
  resolved := Array.replicate 11 none
  statics := none }

def pool6 : Array CpInfo := pool [(1, .class_ 2), (0, u "java/lang/constant/ConstantDesc"), (0, .class_ 4), (0, u "java/lang/Object")] 32

/-- java/lang/constant/ConstantDesc -/
def k6 : Class := { plain "java/lang/constant/ConstantDesc" (some 0) with
  accessFlags := 1537
  interfaces := #[]
  cf := some (fileOf pool6 1 #[] #[] 1537 3 #[] #[])
  fields := #[]
  methods := #[]
  instanceTypes := #[]
  staticTypes := #[]
  resolved := Array.replicate 37 none
  statics := none }

def pool7 : Array CpInfo := pool [(1, .methodref 2 3), (0, .class_ 4), (0, .nameAndType 5 6), (0, u "java/lang/Object"), (0, u "<init>"), (0, u "()V"), (0, .string 8), (0, u ""), (0, .fieldref 10 11), (0, .class_ 12), (0, .nameAndType 13 14), (0, u "java/lang/String"), (0, u "value"), (0, u "[B"), (0, .fieldref 10 16), (0, .nameAndType 17 18), (0, u "coder"), (0, u "B"), (2, u "hash"), (0, u "I"), (2, u "hashIsZero"), (0, u "Z"), (0, .methodref 10 28), (0, .nameAndType 5 29), (0, u "([CIILjava/lang/Void;)V"), (8, .fieldref 10 39), (0, .nameAndType 40 26), (0, u "COMPACT_STRINGS"), (1, .class_ 44), (1, u "java/lang/StringUTF16"), (0, u "compress"), (1, .methodref 42 48), (0, .nameAndType 49 50), (0, u "coderFromArrayLen"), (0, u "([BI)B"), (3, .methodref 55 56), (0, .class_ 57), (0, .nameAndType 58 59), (0, u "java/util/Arrays"), (0, u "copyOfRange"), (0, u "([BII)[B"), (47, .class_ 109), (1, u "java/lang/StringLatin1"), (32, u "()Z"), (34, .methodref 42 178), (0, .nameAndType 45 179), (0, u "([CII)[B"), (13, .class_ 195), (1, u "java/lang/System"), (13, .methodref 10 210), (0, .nameAndType 5 211), (0, u "([BB)V"), (0, .methodref 193 213), (0, .nameAndType 214 215), (0, u "arraycopy"), (0, u "(Ljava/lang/Object;ILjava/lang/Object;II)V"), (118, u "()I"), (0, .methodref 10 336), (0, .nameAndType 17 337), (0, u "()B"), (2, u "()[B"), (22, u "([BI)C"), (27, u "(II)V"), (35, u "(I)C"), (61, .methodref 10 490), (0, .nameAndType 5 491), (0, u "(Ljava/lang/AbstractStringBuilder;Ljava/lang/Void;)V"), (0, .methodref 10 493), (0, .nameAndType 494 142), (0, u "isLatin1"), (0, .methodref 107 496), (0, .nameAndType 497 363), (0, u "charAt"), (3, u "checkIndex"), (4, .nameAndType 507 334), (0, u "length"), (24, u "getBytes"), (16, .methodref 550 506), (0, .class_ 551), (0, u "java/lang/AbstractStringBuilder"), (0, .methodref 550 553), (0, .nameAndType 554 340), (0, u "getValue"), (20, .class_ 576), (0, u "java/lang/CharSequence"), (22, u "CASE_INSENSITIVE_ORDER"), (0, u "Ljava/util/Comparator;"), (220, u "([BIB)V"), (69, u "repeat"), (0, u "(I)Ljava/lang/String;"), (50, .integer 2147483647), (66, u "([C)V"), (30, .methodref 55 1042), (0, .nameAndType 1043 211), (0, u "fill"), (3, .methodref 550 493), (5, .fieldref 1054 1055), (0, .class_ 1056), (0, .nameAndType 1057 1058), (0, u "jdk/internal/util/Preconditions"), (0, u "SIOOBE_FORMATTER"), (0, u "Ljava/util/function/BiFunction;"), (0, .methodref 1054 1060), (0, .nameAndType 501 1061), (0, u "(IILjava/util/function/BiFunction;)I"), (39, u "serialPersistentFields"), (0, u "[Ljava/io/ObjectStreamField;"), (0, .class_ 1104), (0, u "java/lang/String$CaseInsensitiveComparator"), (1, .class_ 1107), (0, u "java/io/Serializable"), (0, .class_ 1109), (0, u "java/lang/Comparable"), (0, .class_ 1111), (0, u "java/lang/constant/Constable"), (0, .class_ 1113), (0, u "java/lang/constant/ConstantDesc"), (2, u "serialVersionUID"), (0, u "J"), (3, u "REPL"), (0, u "C"), (2, u "LATIN1"), (1, u "UTF16"), (105, u "(Ljava/lang/StringBuilder;)V")] 217

def k7m0 : Method := { name := "<init>", desc := "()V", sig := { parameters := [], returnType := none }, accessFlags := 1, code := none }
def k7c1 : Code := { maxStack := 5, maxLocals := 2, code := jdk_42_method_3_code, exceptionTable := #[], attributes := #[] }
def k7m1 : Method := { name := "<init>", desc := "([C)V", sig := { parameters := [(.array .char)], returnType := none }, accessFlags := 1, code := some k7c1 }
def k7c2 : Code := { maxStack := 3, maxLocals := 2, code := jdk_42_method_53_code, exceptionTable := #[], attributes := #[] }
def k7m2 : Method := { name := "<init>", desc := "(Ljava/lang/StringBuilder;)V", sig := { parameters := [(.object "java/lang/StringBuilder")], returnType := none }, accessFlags := 1, code := some k7c2 }
def k7c3 : Code := { maxStack := 2, maxLocals := 1, code := jdk_42_method_54_code, exceptionTable := #[], attributes := #[] }
def k7m3 : Method := { name := "length", desc := "()I", sig := { parameters := [], returnType := some .int }, accessFlags := 1, code := some k7c3 }
def k7c4 : Code := { maxStack := 2, maxLocals := 2, code := jdk_42_method_56_code, exceptionTable := #[], attributes := #[] }
def k7m4 : Method := { name := "charAt", desc := "(I)C", sig := { parameters := [.int], returnType := some .char }, accessFlags := 1, code := some k7c4 }
def k7c5 : Code := { maxStack := 5, maxLocals := 5, code := jdk_42_method_145_code, exceptionTable := #[], attributes := #[] }
def k7m5 : Method := { name := "repeat", desc := "(I)Ljava/lang/String;", sig := { parameters := [.int], returnType := some (.object "java/lang/String") }, accessFlags := 1, code := some k7c5 }
def k7c6 : Code := { maxStack := 5, maxLocals := 4, code := jdk_42_method_147_code, exceptionTable := #[], attributes := #[] }
def k7m6 : Method := { name := "getBytes", desc := "([BIB)V", sig := { parameters := [(.array .byte), .int, .byte], returnType := none }, accessFlags := 0, code := some k7c6 }
def k7c7 : Code := { maxStack := 4, maxLocals := 6, code := jdk_42_method_149_code, exceptionTable := #[], attributes := #[] }
def k7m7 : Method := { name := "<init>", desc := "([CIILjava/lang/Void;)V", sig := { parameters := [(.array .char), .int, .int, (.object "java/lang/Void")], returnType := none }, accessFlags := 2, code := some k7c7 }
def k7c8 : Code := { maxStack := 5, maxLocals := 5, code := jdk_42_method_150_code, exceptionTable := #[], attributes := #[] }
def k7m8 : Method := { name := "<init>", desc := "(Ljava/lang/AbstractStringBuilder;Ljava/lang/Void;)V", sig := { parameters := [(.object "java/lang/AbstractStringBuilder"), (.object "java/lang/Void")], returnType := none }, accessFlags := 0, code := some k7c8 }
def k7c9 : Code := { maxStack := 2, maxLocals := 3, code := jdk_42_method_151_code, exceptionTable := #[], attributes := #[] }
def k7m9 : Method := { name := "<init>", desc := "([BB)V", sig := { parameters := [(.array .byte), .byte], returnType := none }, accessFlags := 0, code := some k7c9 }
def k7c10 : Code := { maxStack := 1, maxLocals := 1, code := jdk_42_method_152_code, exceptionTable := #[], attributes := #[] }
def k7m10 : Method := { name := "coder", desc := "()B", sig := { parameters := [], returnType := some .byte }, accessFlags := 0, code := some k7c10 }
def k7c11 : Code := { maxStack := 1, maxLocals := 1, code := jdk_42_method_154_code, exceptionTable := #[], attributes := #[] }
def k7m11 : Method := { name := "isLatin1", desc := "()Z", sig := { parameters := [], returnType := some .boolean }, accessFlags := 0, code := some k7c11 }
def k7c12 : Code := { maxStack := 3, maxLocals := 2, code := jdk_42_method_155_code, exceptionTable := #[], attributes := #[] }
def k7m12 : Method := { name := "checkIndex", desc := "(II)V", sig := { parameters := [.int, .int], returnType := none }, accessFlags := 8, code := some k7c12 }
/-- java/lang/String -/
def k7 : Class := { plain "java/lang/String" (some 0) with
  accessFlags := 49
  interfaces := #[2, 3, 4, 5, 6]
  cf := some (fileOf pool7 10 #[.nestMembers #[1103]] #[{ accessFlags := 1, nameIndex := 5, descriptorIndex := 6, attributes := #[] }, { accessFlags := 1, nameIndex := 5, descriptorIndex := 1010, attributes := #[] }, { accessFlags := 1, nameIndex := 5, descriptorIndex := 1233, attributes := #[] }, { accessFlags := 1, nameIndex := 507, descriptorIndex := 334, attributes := #[] }, { accessFlags := 1, nameIndex := 497, descriptorIndex := 427, attributes := #[] }, { accessFlags := 1, nameIndex := 891, descriptorIndex := 892, attributes := #[] }, { accessFlags := 0, nameIndex := 532, descriptorIndex := 821, attributes := #[] }, { accessFlags := 2, nameIndex := 5, descriptorIndex := 29, attributes := #[] }, { accessFlags := 0, nameIndex := 5, descriptorIndex := 491, attributes := #[] }, { accessFlags := 0, nameIndex := 5, descriptorIndex := 211, attributes := #[] }, { accessFlags := 0, nameIndex := 17, descriptorIndex := 337, attributes := #[] }, { accessFlags := 0, nameIndex := 494, descriptorIndex := 142, attributes := #[] }, { accessFlags := 8, nameIndex := 501, descriptorIndex := 391, attributes := #[] }] 49 2 #[1106, 1108, 575, 1110, 1112] #[{ accessFlags := 18, nameIndex := 13, descriptorIndex := 14, attributes := #[] }, { accessFlags := 18, nameIndex := 17, descriptorIndex := 18, attributes := #[] }, { accessFlags := 2, nameIndex := 21, descriptorIndex := 22, attributes := #[] }, { accessFlags := 2, nameIndex := 25, descriptorIndex := 26, attributes := #[] }, { accessFlags := 26, nameIndex := 1116, descriptorIndex := 1117, attributes := #[] }, { accessFlags := 24, nameIndex := 40, descriptorIndex := 26, attributes := #[] }, { accessFlags := 26, nameIndex := 1101, descriptorIndex := 1102, attributes := #[] }, { accessFlags := 26, nameIndex := 1121, descriptorIndex := 1122, attributes := #[] }, { accessFlags := 25, nameIndex := 599, descriptorIndex := 600, attributes := #[] }, { accessFlags := 24, nameIndex := 1125, descriptorIndex := 18, attributes := #[] }, { accessFlags := 24, nameIndex := 1127, descriptorIndex := 18, attributes := #[] }])
  fields := #[{ name := "value", type := (.array .byte), accessFlags := 18, slot := 0, constantValue := 0 }, { name := "coder", type := .byte, accessFlags := 18, slot := 1, constantValue := 0 }, { name := "hash", type := .int, accessFlags := 2, slot := 2, constantValue := 0 }, { name := "hashIsZero", type := .boolean, accessFlags := 2, slot := 3, constantValue := 0 }, { name := "serialVersionUID", type := .long, accessFlags := 26, slot := 0, constantValue := 0 }, { name := "COMPACT_STRINGS", type := .boolean, accessFlags := 24, slot := 1, constantValue := 0 }, { name := "serialPersistentFields", type := (.array (.object "java/io/ObjectStreamField")), accessFlags := 26, slot := 2, constantValue := 0 }, { name := "REPL", type := .char, accessFlags := 26, slot := 3, constantValue := 0 }, { name := "CASE_INSENSITIVE_ORDER", type := (.object "java/util/Comparator"), accessFlags := 25, slot := 4, constantValue := 0 }, { name := "LATIN1", type := .byte, accessFlags := 24, slot := 5, constantValue := 0 }, { name := "UTF16", type := .byte, accessFlags := 24, slot := 6, constantValue := 0 }]
  methods := #[k7m0, k7m1, k7m2, k7m3, k7m4, k7m5, k7m6, k7m7, k7m8, k7m9, k7m10, k7m11, k7m12]
  instanceTypes := #[(.array .byte), .byte, .int, .boolean]
  staticTypes := #[.long, .boolean, (.array (.object "java/io/ObjectStreamField")), .char, (.object "java/util/Comparator"), .byte, .byte]
  resolved := Array.replicate 1451 none
  statics := some 0 }

def pool8 : Array CpInfo := pool [(8, .class_ 10), (1, u "java/lang/Iterable"), (24, .class_ 36), (0, u "java/lang/Object")] 25

/-- java/lang/Iterable -/
def k8 : Class := { plain "java/lang/Iterable" (some 0) with
  accessFlags := 1537
  interfaces := #[]
  cf := some (fileOf pool8 8 #[] #[] 1537 35 #[] #[])
  fields := #[]
  methods := #[]
  instanceTypes := #[]
  staticTypes := #[]
  resolved := Array.replicate 62 none
  statics := none }

def pool9 : Array CpInfo := pool [(10, .class_ 12), (1, u "java/util/Collection"), (47, .class_ 61), (0, u "java/lang/Object"), (0, .class_ 63), (0, u "java/lang/Iterable")] 51

/-- java/util/Collection -/
def k9 : Class := { plain "java/util/Collection" (some 0) with
  accessFlags := 1537
  interfaces := #[8]
  cf := some (fileOf pool9 10 #[] #[] 1537 60 #[62] #[])
  fields := #[]
  methods := #[]
  instanceTypes := #[]
  staticTypes := #[]
  resolved := Array.replicate 115 none
  statics := none }

def pool10 : Array CpInfo := pool [(1, .methodref 2 3), (0, .class_ 4), (0, .nameAndType 5 6), (0, u "java/lang/Object"), (0, u "<init>"), (0, u "()V"), (1, .class_ 10), (1, u "java/util/AbstractCollection"), (66, .class_ 78), (0, u "java/util/Collection")] 81

def k10c0 : Code := { maxStack := 1, maxLocals := 1, code := jdk_22_method_1_code, exceptionTable := #[], attributes := #[] }
def k10m0 : Method := { name := "<init>", desc := "()V", sig := { parameters := [], returnType := none }, accessFlags := 4, code := some k10c0 }
/-- java/util/AbstractCollection -/
def k10 : Class := { plain "java/util/AbstractCollection" (some 0) with
  accessFlags := 1057
  interfaces := #[9]
  cf := some (fileOf pool10 8 #[] #[{ accessFlags := 4, nameIndex := 5, descriptorIndex := 6, attributes := #[] }] 1057 2 #[77] #[])
  fields := #[]
  methods := #[k10m0]
  instanceTypes := #[]
  staticTypes := #[]
  resolved := Array.replicate 160 none
  statics := none }

def pool11 : Array CpInfo := pool [(8, .class_ 10), (1, u "java/util/SequencedCollection"), (15, .class_ 27), (0, u "java/lang/Object"), (0, .class_ 29), (0, u "java/util/Collection")] 27

/-- java/util/SequencedCollection -/
def k11 : Class := { plain "java/util/SequencedCollection" (some 0) with
  accessFlags := 1537
  interfaces := #[9]
  cf := some (fileOf pool11 8 #[] #[] 1537 26 #[28] #[])
  fields := #[]
  methods := #[]
  instanceTypes := #[]
  staticTypes := #[]
  resolved := Array.replicate 57 none
  statics := none }

def pool12 : Array CpInfo := pool [(8, .class_ 10), (1, u "java/util/List"), (49, u "add"), (3, u "(Ljava/lang/Object;)Z"), (38, .class_ 104), (0, u "java/lang/Object"), (15, .class_ 121), (0, u "java/util/SequencedCollection"), (1, u "iterator"), (0, u "()Ljava/util/Iterator;")] 126

def k12m0 : Method := { name := "iterator", desc := "()Ljava/util/Iterator;", sig := { parameters := [], returnType := some (.object "java/util/Iterator") }, accessFlags := 1025, code := none }
def k12m1 : Method := { name := "add", desc := "(Ljava/lang/Object;)Z", sig := { parameters := [(.object "java/lang/Object")], returnType := some .boolean }, accessFlags := 1025, code := none }
/-- java/util/List -/
def k12 : Class := { plain "java/util/List" (some 0) with
  accessFlags := 1537
  interfaces := #[11]
  cf := some (fileOf pool12 8 #[] #[{ accessFlags := 1025, nameIndex := 123, descriptorIndex := 124, attributes := #[] }, { accessFlags := 1025, nameIndex := 60, descriptorIndex := 64, attributes := #[] }] 1537 103 #[120] #[])
  fields := #[]
  methods := #[k12m0, k12m1]
  instanceTypes := #[]
  staticTypes := #[]
  resolved := Array.replicate 251 none
  statics := none }

def pool13 : Array CpInfo := pool [(1, .methodref 2 3), (0, .class_ 4), (0, .nameAndType 5 6), (0, u "java/util/AbstractCollection"), (0, u "<init>"), (0, u "()V"), (0, .fieldref 8 9), (0, .class_ 10), (0, .nameAndType 11 12), (0, u "java/util/AbstractList"), (0, u "modCount"), (0, u "I"), (64, .class_ 78), (0, u "java/util/AbstractList$Itr"), (3, .class_ 83), (0, u "java/util/AbstractList$ListItr"), (9, .class_ 94), (0, u "java/util/AbstractList$RandomAccessSubList"), (3, .class_ 99), (0, u "java/util/AbstractList$SubList"), (33, .class_ 134), (0, u "java/util/List"), (73, .class_ 209), (0, u "java/util/AbstractList$SubList$1"), (0, .class_ 211), (0, u "java/util/AbstractList$RandomAccessSpliterator")] 6

def k13c0 : Code := { maxStack := 2, maxLocals := 1, code := jdk_39_method_1_code, exceptionTable := #[], attributes := #[] }
def k13m0 : Method := { name := "<init>", desc := "()V", sig := { parameters := [], returnType := none }, accessFlags := 4, code := some k13c0 }
/-- java/util/AbstractList -/
def k13 : Class := { plain "java/util/AbstractList" (some 10) with
  accessFlags := 1057
  interfaces := #[12]
  cf := some (fileOf pool13 8 #[.nestMembers #[93, 98, 208, 210, 82, 77]] #[{ accessFlags := 4, nameIndex := 5, descriptorIndex := 6, attributes := #[] }] 1057 2 #[133] #[{ accessFlags := 132, nameIndex := 11, descriptorIndex := 12, attributes := #[] }])
  fields := #[{ name := "modCount", type := .int, accessFlags := 132, slot := 0, constantValue := 0 }]
  methods := #[k13m0]
  instanceTypes := #[.int]
  staticTypes := #[]
  resolved := Array.replicate 218 none
  statics := none }

def pool14 : Array CpInfo := pool [(1, .class_ 2), (0, u "java/util/RandomAccess"), (0, .class_ 4), (0, u "java/lang/Object")] 2

/-- java/util/RandomAccess -/
def k14 : Class := { plain "java/util/RandomAccess" (some 0) with
  accessFlags := 1537
  interfaces := #[]
  cf := some (fileOf pool14 1 #[] #[] 1537 3 #[] #[])
  fields := #[]
  methods := #[]
  instanceTypes := #[]
  staticTypes := #[]
  resolved := Array.replicate 7 none
  statics := none }

def pool15 : Array CpInfo := pool [(1, .class_ 2), (0, u "java/lang/Cloneable"), (0, .class_ 4), (0, u "java/lang/Object")] 2

/-- java/lang/Cloneable -/
def k15 : Class := { plain "java/lang/Cloneable" (some 0) with
  accessFlags := 1537
  interfaces := #[]
  cf := some (fileOf pool15 1 #[] #[] 1537 3 #[] #[])
  fields := #[]
  methods := #[]
  instanceTypes := #[]
  staticTypes := #[]
  resolved := Array.replicate 7 none
  statics := none }

def pool16 : Array CpInfo := pool [(1, .methodref 2 3), (0, .class_ 4), (0, .nameAndType 5 6), (0, u "java/util/AbstractList"), (0, u "<init>"), (0, u "()V"), (0, .class_ 8), (0, u "java/lang/Object"), (0, .fieldref 10 11), (0, .class_ 12), (0, .nameAndType 13 14), (0, u "java/util/ArrayList"), (0, u "elementData"), (0, u "[Ljava/lang/Object;"), (2, u "EMPTY_ELEMENTDATA"), (21, .fieldref 10 40), (0, .nameAndType 41 14), (0, u "DEFAULTCAPACITY_EMPTY_ELEMENTDATA"), (5, u "()[Ljava/lang/Object;"), (0, .fieldref 10 49), (0, .nameAndType 50 51), (0, u "size"), (0, u "I"), (11, .fieldref 10 64), (0, .nameAndType 65 51), (0, u "modCount"), (3, .methodref 10 70), (0, .nameAndType 71 72), (0, u "grow"), (0, u "(I)[Ljava/lang/Object;"), (6, .methodref 80 81), (0, .class_ 82), (0, .nameAndType 83 84), (0, u "java/lang/Math"), (0, u "max"), (0, u "(II)I"), (11, u "(Ljava/lang/Object;)Z"), (32, .methodref 10 130), (0, .nameAndType 71 47), (0, .methodref 10 132), (0, .nameAndType 133 134), (0, u "add"), (0, u "(Ljava/lang/Object;[Ljava/lang/Object;I)V"), (13, .class_ 149), (0, u "java/util/List"), (16, u "iterator"), (0, u "()Ljava/util/Iterator;"), (94, .class_ 263), (0, u "java/util/ArrayList$ListItr"), (3, .class_ 268), (0, u "java/util/ArrayList$Itr"), (0, .methodref 267 270), (0, .nameAndType 5 271), (0, u "(Ljava/util/ArrayList;)V"), (4, .class_ 277), (0, u "java/util/ArrayList$SubList"), (12, .class_ 291), (0, u "java/util/ArrayList$ArrayListSpliterator"), (37, .class_ 330), (0, u "java/util/RandomAccess"), (0, .class_ 332), (0, u "java/lang/Cloneable"), (0, .class_ 334), (0, u "java/io/Serializable"), (0, u "serialVersionUID"), (0, u "J"), (3, u "DEFAULT_CAPACITY"), (159, .class_ 501), (0, u "java/util/ArrayList$SubList$2"), (0, .class_ 503), (0, u "java/util/ArrayList$SubList$1")] 5

def k16c0 : Code := { maxStack := 2, maxLocals := 1, code := jdk_38_method_2_code, exceptionTable := #[], attributes := #[] }
def k16m0 : Method := { name := "<init>", desc := "()V", sig := { parameters := [], returnType := none }, accessFlags := 1, code := some k16c0 }
def k16c1 : Code := { maxStack := 4, maxLocals := 4, code := jdk_38_method_6_code, exceptionTable := #[], attributes := #[] }
def k16m1 : Method := { name := "grow", desc := "(I)[Ljava/lang/Object;", sig := { parameters := [.int], returnType := some (.array (.object "java/lang/Object")) }, accessFlags := 2, code := some k16c1 }
def k16c2 : Code := { maxStack := 3, maxLocals := 1, code := jdk_38_method_7_code, exceptionTable := #[], attributes := #[] }
def k16m2 : Method := { name := "grow", desc := "()[Ljava/lang/Object;", sig := { parameters := [], returnType := some (.array (.object "java/lang/Object")) }, accessFlags := 2, code := some k16c2 }
def k16c3 : Code := { maxStack := 3, maxLocals := 4, code := jdk_38_method_24_code, exceptionTable := #[], attributes := #[] }
def k16m3 : Method := { name := "add", desc := "(Ljava/lang/Object;[Ljava/lang/Object;I)V", sig := { parameters := [(.object "java/lang/Object"), (.array (.object "java/lang/Object")), .int], returnType := none }, accessFlags := 2, code := some k16c3 }
def k16c4 : Code := { maxStack := 4, maxLocals := 2, code := jdk_38_method_25_code, exceptionTable := #[], attributes := #[] }
def k16m4 : Method := { name := "add", desc := "(Ljava/lang/Object;)Z", sig := { parameters := [(.object "java/lang/Object")], returnType := some .boolean }, accessFlags := 1, code := some k16c4 }
def k16c5 : Code := { maxStack := 3, maxLocals := 1, code := jdk_38_method_55_code, exceptionTable := #[], attributes := #[] }
def k16m5 : Method := { name := "iterator", desc := "()Ljava/util/Iterator;", sig := { parameters := [], returnType := some (.object "java/util/Iterator") }, accessFlags := 1, code := some k16c5 }
/-- java/util/ArrayList -/
def k16 : Class := { plain "java/util/ArrayList" (some 13) with
  accessFlags := 33
  interfaces := #[12, 14, 15, 2]
  cf := some (fileOf pool16 10 #[.nestMembers #[290, 276, 500, 502, 262, 267]] #[{ accessFlags := 1, nameIndex := 5, descriptorIndex := 6, attributes := #[] }, { accessFlags := 2, nameIndex := 71, descriptorIndex := 72, attributes := #[] }, { accessFlags := 2, nameIndex := 71, descriptorIndex := 47, attributes := #[] }, { accessFlags := 2, nameIndex := 133, descriptorIndex := 134, attributes := #[] }, { accessFlags := 1, nameIndex := 133, descriptorIndex := 96, attributes := #[] }, { accessFlags := 1, nameIndex := 166, descriptorIndex := 167, attributes := #[] }] 33 2 #[148, 329, 331, 333] #[{ accessFlags := 26, nameIndex := 335, descriptorIndex := 336, attributes := #[] }, { accessFlags := 26, nameIndex := 340, descriptorIndex := 51, attributes := #[] }, { accessFlags := 26, nameIndex := 17, descriptorIndex := 14, attributes := #[] }, { accessFlags := 26, nameIndex := 41, descriptorIndex := 14, attributes := #[] }, { accessFlags := 128, nameIndex := 13, descriptorIndex := 14, attributes := #[] }, { accessFlags := 2, nameIndex := 50, descriptorIndex := 51, attributes := #[] }])
  fields := #[{ name := "serialVersionUID", type := .long, accessFlags := 26, slot := 0, constantValue := 0 }, { name := "DEFAULT_CAPACITY", type := .int, accessFlags := 26, slot := 1, constantValue := 0 }, { name := "EMPTY_ELEMENTDATA", type := (.array (.object "java/lang/Object")), accessFlags := 26, slot := 2, constantValue := 0 }, { name := "DEFAULTCAPACITY_EMPTY_ELEMENTDATA", type := (.array (.object "java/lang/Object")), accessFlags := 26, slot := 3, constantValue := 0 }, { name := "elementData", type := (.array (.object "java/lang/Object")), accessFlags := 128, slot := 1, constantValue := 0 }, { name := "size", type := .int, accessFlags := 2, slot := 2, constantValue := 0 }]
  methods := #[k16m0, k16m1, k16m2, k16m3, k16m4, k16m5]
  instanceTypes := #[.int, (.array (.object "java/lang/Object")), .int]
  staticTypes := #[.long, .int, (.array (.object "java/lang/Object")), (.array (.object "java/lang/Object"))]
  resolved := Array.replicate 509 none
  statics := some 1 }

def pool17 : Array CpInfo := pool [(2, .class_ 4), (1, u "java/lang/Object"), (0, u "<init>"), (0, u "()V"), (0, .class_ 8), (0, u "java/lang/Record")] 13

def k17m0 : Method := { name := "<init>", desc := "()V", sig := { parameters := [], returnType := none }, accessFlags := 4, code := none }
/-- java/lang/Record -/
def k17 : Class := { plain "java/lang/Record" (some 0) with
  accessFlags := 1057
  interfaces := #[]
  cf := some (fileOf pool17 7 #[] #[{ accessFlags := 4, nameIndex := 5, descriptorIndex := 6, attributes := #[] }] 1057 2 #[] #[])
  fields := #[]
  methods := #[k17m0]
  instanceTypes := #[]
  staticTypes := #[]
  resolved := Array.replicate 22 none
  statics := none }

def pool18 : Array CpInfo := pool [(2, .class_ 4), (1, u "java/lang/Record"), (0, u "<init>"), (2, .class_ 10), (1, u "java/util/List"), (3, .class_ 16), (1, u "com/example/caddisfly/caddisfly/Syntax"), (0, u "name"), (0, u "Ljava/lang/String;"), (2, u "description"), (2, u "groups"), (0, u "Ljava/util/List;"), (2, u "operands"), (0, u "Lcom/example/caddisfly/caddisfly/Syntax$Operands;"), (12, u "()I"), (4, .class_ 48), (0, u "java/lang/String"), (10, .class_ 60), (0, u "com/example/caddisfly/caddisfly/Syntax$UsageException"), (5, .nameAndType 5 67), (0, u "(Ljava/lang/String;)V"), (39, u "(I)Ljava/lang/String;"), (1, .class_ 111), (1, u "com/example/caddisfly/caddisfly/Syntax$Option"), (0, u "()Ljava/lang/String;"), (18, .interfaceMethodref 8 132), (0, .nameAndType 133 134), (0, u "iterator"), (0, u "()Ljava/util/Iterator;"), (0, .interfaceMethodref 136 137), (0, .class_ 138), (0, .nameAndType 139 140), (0, u "java/util/Iterator"), (0, u "hasNext"), (0, u "()Z"), (0, .interfaceMethodref 136 142), (0, .nameAndType 143 144), (0, u "next"), (0, u "()Ljava/lang/Object;"), (0, .class_ 146), (0, u "com/example/caddisfly/caddisfly/Syntax$Group"), (10, .class_ 158), (0, u "com/example/caddisfly/caddisfly/Syntax$Operands"), (4, .class_ 164), (0, u "com/example/caddisfly/caddisfly/Syntax$Row"), (10, u "HELP_ROW"), (0, u "Lcom/example/caddisfly/caddisfly/Syntax$Row;"), (3, u "wrap"), (0, u "(Ljava/lang/String;Ljava/util/List;)Ljava/lang/String;"), (18, .methodref 47 201), (0, .nameAndType 202 42), (0, u "length"), (6, .class_ 210), (0, u "java/lang/StringBuilder"), (1, .string 213), (0, u " "), (0, .methodref 47 215), (0, .nameAndType 216 107), (0, u "repeat"), (2, .methodref 209 220), (0, .nameAndType 221 222), (0, u "append"), (0, u "(Ljava/lang/String;)Ljava/lang/StringBuilder;"), (0, .methodref 209 224), (0, .nameAndType 225 112), (0, u "toString"), (0, .methodref 209 66), (0, .methodref 209 201), (0, .methodref 209 229), (0, .nameAndType 221 230), (0, u "(C)Ljava/lang/StringBuilder;"), (50, u "WIDTH"), (0, u "I")] 82

def k18c0 : Code := { maxStack := 3, maxLocals := 8, code := prog_11_method_7_code, exceptionTable := #[], attributes := #[] }
def k18m0 : Method := { name := "wrap", desc := "(Ljava/lang/String;Ljava/util/List;)Ljava/lang/String;", sig := { parameters := [(.object "java/lang/String"), (.object "java/util/List")], returnType := some (.object "java/lang/String") }, accessFlags := 8, code := some k18c0 }
/-- com/example/caddisfly/caddisfly/Syntax -/
def k18 : Class := { plain "com/example/caddisfly/caddisfly/Syntax" (some 17) with
  accessFlags := 48
  interfaces := #[]
  cf := some (fileOf pool18 14 #[.nestMembers #[59, 163, 157, 145, 109]] #[{ accessFlags := 8, nameIndex := 180, descriptorIndex := 181, attributes := #[] }] 48 2 #[] #[{ accessFlags := 18, nameIndex := 17, descriptorIndex := 18, attributes := #[] }, { accessFlags := 18, nameIndex := 21, descriptorIndex := 18, attributes := #[] }, { accessFlags := 18, nameIndex := 24, descriptorIndex := 25, attributes := #[] }, { accessFlags := 18, nameIndex := 28, descriptorIndex := 29, attributes := #[] }, { accessFlags := 26, nameIndex := 281, descriptorIndex := 282, attributes := #[] }, { accessFlags := 24, nameIndex := 175, descriptorIndex := 176, attributes := #[] }])
  fields := #[{ name := "name", type := (.object "java/lang/String"), accessFlags := 18, slot := 0, constantValue := 0 }, { name := "description", type := (.object "java/lang/String"), accessFlags := 18, slot := 1, constantValue := 0 }, { name := "groups", type := (.object "java/util/List"), accessFlags := 18, slot := 2, constantValue := 0 }, { name := "operands", type := (.object "com/example/caddisfly/caddisfly/Syntax$Operands"), accessFlags := 18, slot := 3, constantValue := 0 }, { name := "WIDTH", type := .int, accessFlags := 26, slot := 0, constantValue := 0 }, { name := "HELP_ROW", type := (.object "com/example/caddisfly/caddisfly/Syntax$Row"), accessFlags := 24, slot := 1, constantValue := 0 }]
  methods := #[k18m0]
  instanceTypes := #[(.object "java/lang/String"), (.object "java/lang/String"), (.object "java/util/List"), (.object "com/example/caddisfly/caddisfly/Syntax$Operands")]
  staticTypes := #[.int, (.object "com/example/caddisfly/caddisfly/Syntax$Row")]
  resolved := Array.replicate 365 none
  statics := none }

def pool19 : Array CpInfo := pool [(1, .class_ 2), (0, u "java/lang/Appendable"), (0, .class_ 4), (0, u "java/lang/Object")] 9

/-- java/lang/Appendable -/
def k19 : Class := { plain "java/lang/Appendable" (some 0) with
  accessFlags := 1537
  interfaces := #[]
  cf := some (fileOf pool19 1 #[] #[] 1537 3 #[] #[])
  fields := #[]
  methods := #[]
  instanceTypes := #[]
  staticTypes := #[]
  resolved := Array.replicate 14 none
  statics := none }

def pool20 : Array CpInfo := pool [(1, .class_ 2), (0, u "java/lang/String"), (0, .methodref 4 5), (0, .class_ 6), (0, .nameAndType 7 8), (0, u "java/lang/Object"), (0, u "<init>"), (0, u "()V"), (1, .class_ 12), (1, u "java/lang/AbstractStringBuilder"), (0, u "EMPTYVALUE"), (0, u "[B"), (0, .fieldref 10 16), (0, .nameAndType 17 14), (0, u "value"), (0, .fieldref 1 19), (0, .nameAndType 20 21), (0, u "COMPACT_STRINGS"), (0, u "Z"), (0, .fieldref 10 23), (0, .nameAndType 24 25), (0, u "coder"), (0, u "B"), (6, .methodref 1 33), (0, .nameAndType 34 35), (0, u "length"), (0, u "()I"), (2, .integer 2147483631), (0, .integer 2147483647), (0, .methodref 1 41), (0, .nameAndType 24 42), (0, u "()B"), (0, .methodref 10 44), (0, .nameAndType 45 46), (0, u "append"), (0, u "(Ljava/lang/String;)Ljava/lang/AbstractStringBuilder;"), (1, .class_ 49), (0, u "java/lang/CharSequence"), (19, u "(Ljava/lang/String;)V"), (5, u "maybeLatin1"), (3, .fieldref 10 80), (0, .nameAndType 81 82), (0, u "count"), (0, u "I"), (0, .methodref 10 84), (0, .nameAndType 85 86), (0, u "isLatin1"), (0, u "()Z"), (1, .class_ 90), (1, u "java/lang/StringLatin1"), (9, .methodref 10 101), (0, .nameAndType 102 103), (0, u "ensureCapacityInternal"), (0, u "(I)V"), (0, .methodref 10 105), (0, .nameAndType 106 107), (0, u "newCapacity"), (0, u "(I)I"), (0, .methodref 109 110), (0, .class_ 111), (0, .nameAndType 112 113), (0, u "java/util/Arrays"), (0, u "copyOf"), (0, u "([BI)[B"), (0, .methodref 115 116), (0, .class_ 117), (0, .nameAndType 118 119), (0, u "jdk/internal/util/ArraysSupport"), (0, u "newLength"), (0, u "(III)I"), (71, .methodref 88 192), (0, .nameAndType 193 194), (0, u "canEncode"), (0, u "(C)Z"), (13, .methodref 10 209), (0, .nameAndType 210 211), (0, u "putStringAt"), (0, u "(ILjava/lang/String;)V"), (5, u "inflateIfNeededFor"), (2, .nameAndType 221 222), (0, u "getBytes"), (0, u "([BIB)V"), (69, u "(C)Ljava/lang/AbstractStringBuilder;"), (104, .methodref 10 398), (0, .nameAndType 217 69), (0, .methodref 1 220), (3, u "()[B"), (40, .class_ 445), (0, u "java/lang/Appendable"), (106, u "getValue")] 56

def k20m0 : Method := { name := "<init>", desc := "()V", sig := { parameters := [], returnType := none }, accessFlags := 0, code := none }
def k20c1 : Code := { maxStack := 2, maxLocals := 5, code := jdk_68_method_3_code, exceptionTable := #[], attributes := #[] }
def k20m1 : Method := { name := "<init>", desc := "(Ljava/lang/String;)V", sig := { parameters := [(.object "java/lang/String")], returnType := none }, accessFlags := 0, code := some k20c1 }
def k20c2 : Code := { maxStack := 1, maxLocals := 1, code := jdk_68_method_6_code, exceptionTable := #[], attributes := #[] }
def k20m2 : Method := { name := "length", desc := "()I", sig := { parameters := [], returnType := some .int }, accessFlags := 1, code := some k20c2 }
def k20c3 : Code := { maxStack := 4, maxLocals := 3, code := jdk_68_method_9_code, exceptionTable := #[], attributes := #[] }
def k20m3 : Method := { name := "ensureCapacityInternal", desc := "(I)V", sig := { parameters := [.int], returnType := none }, accessFlags := 2, code := some k20c3 }
def k20c4 : Code := { maxStack := 5, maxLocals := 6, code := jdk_68_method_10_code, exceptionTable := #[], attributes := #[] }
def k20m4 : Method := { name := "newCapacity", desc := "(I)I", sig := { parameters := [.int], returnType := some .int }, accessFlags := 2, code := some k20c4 }
def k20c5 : Code := { maxStack := 3, maxLocals := 3, code := jdk_68_method_22_code, exceptionTable := #[], attributes := #[] }
def k20m5 : Method := { name := "append", desc := "(Ljava/lang/String;)Ljava/lang/AbstractStringBuilder;", sig := { parameters := [(.object "java/lang/String")], returnType := some (.object "java/lang/AbstractStringBuilder") }, accessFlags := 1, code := some k20c5 }
def k20c6 : Code := { maxStack := 5, maxLocals := 2, code := jdk_68_method_31_code, exceptionTable := #[], attributes := #[] }
def k20m6 : Method := { name := "append", desc := "(C)Ljava/lang/AbstractStringBuilder;", sig := { parameters := [.char], returnType := some (.object "java/lang/AbstractStringBuilder") }, accessFlags := 1, code := some k20c6 }
def k20c7 : Code := { maxStack := 1, maxLocals := 1, code := jdk_68_method_64_code, exceptionTable := #[], attributes := #[] }
def k20m7 : Method := { name := "getValue", desc := "()[B", sig := { parameters := [], returnType := some (.array .byte) }, accessFlags := 16, code := some k20c7 }
def k20c8 : Code := { maxStack := 1, maxLocals := 1, code := jdk_68_method_68_code, exceptionTable := #[], attributes := #[] }
def k20m8 : Method := { name := "isLatin1", desc := "()Z", sig := { parameters := [], returnType := some .boolean }, accessFlags := 16, code := some k20c8 }
def k20c9 : Code := { maxStack := 2, maxLocals := 2, code := jdk_68_method_71_code, exceptionTable := #[], attributes := #[] }
def k20m9 : Method := { name := "inflateIfNeededFor", desc := "(Ljava/lang/String;)V", sig := { parameters := [(.object "java/lang/String")], returnType := none }, accessFlags := 2, code := some k20c9 }
def k20c10 : Code := { maxStack := 4, maxLocals := 3, code := jdk_68_method_73_code, exceptionTable := #[], attributes := #[] }
def k20m10 : Method := { name := "putStringAt", desc := "(ILjava/lang/String;)V", sig := { parameters := [.int, (.object "java/lang/String")], returnType := none }, accessFlags := 2, code := some k20c10 }
/-- java/lang/AbstractStringBuilder -/
def k20 : Class := { plain "java/lang/AbstractStringBuilder" (some 0) with
  accessFlags := 1056
  interfaces := #[19, 4]
  cf := some (fileOf pool20 10 #[] #[{ accessFlags := 0, nameIndex := 7, descriptorIndex := 8, attributes := #[] }, { accessFlags := 0, nameIndex := 7, descriptorIndex := 69, attributes := #[] }, { accessFlags := 1, nameIndex := 34, descriptorIndex := 35, attributes := #[] }, { accessFlags := 2, nameIndex := 102, descriptorIndex := 103, attributes := #[] }, { accessFlags := 2, nameIndex := 106, descriptorIndex := 107, attributes := #[] }, { accessFlags := 1, nameIndex := 45, descriptorIndex := 46, attributes := #[] }, { accessFlags := 1, nameIndex := 45, descriptorIndex := 292, attributes := #[] }, { accessFlags := 16, nameIndex := 552, descriptorIndex := 403, attributes := #[] }, { accessFlags := 16, nameIndex := 85, descriptorIndex := 86, attributes := #[] }, { accessFlags := 2, nameIndex := 217, descriptorIndex := 69, attributes := #[] }, { accessFlags := 2, nameIndex := 210, descriptorIndex := 211, attributes := #[] }] 1056 4 #[444, 48] #[{ accessFlags := 0, nameIndex := 17, descriptorIndex := 14, attributes := #[] }, { accessFlags := 0, nameIndex := 24, descriptorIndex := 25, attributes := #[] }, { accessFlags := 0, nameIndex := 75, descriptorIndex := 21, attributes := #[] }, { accessFlags := 0, nameIndex := 81, descriptorIndex := 82, attributes := #[] }, { accessFlags := 26, nameIndex := 13, descriptorIndex := 14, attributes := #[] }])
  fields := #[{ name := "value", type := (.array .byte), accessFlags := 0, slot := 0, constantValue := 0 }, { name := "coder", type := .byte, accessFlags := 0, slot := 1, constantValue := 0 }, { name := "maybeLatin1", type := .boolean, accessFlags := 0, slot := 2, constantValue := 0 }, { name := "count", type := .int, accessFlags := 0, slot := 3, constantValue := 0 }, { name := "EMPTYVALUE", type := (.array .byte), accessFlags := 26, slot := 0, constantValue := 0 }]
  methods := #[k20m0, k20m1, k20m2, k20m3, k20m4, k20m5, k20m6, k20m7, k20m8, k20m9, k20m10]
  instanceTypes := #[(.array .byte), .byte, .boolean, .int]
  staticTypes := #[(.array .byte)]
  resolved := Array.replicate 609 none
  statics := none }

def pool21 : Array CpInfo := pool [(2, .class_ 4), (1, u "java/lang/AbstractStringBuilder"), (0, u "<init>"), (1, .methodref 2 8), (0, .nameAndType 5 9), (0, u "(Ljava/lang/String;)V"), (8, .class_ 20), (1, u "java/lang/String"), (2, .methodref 24 25), (0, .class_ 26), (0, .nameAndType 27 28), (0, u "java/lang/StringBuilder"), (0, u "append"), (0, u "(Ljava/lang/String;)Ljava/lang/StringBuilder;"), (0, .methodref 2 30), (0, .nameAndType 27 31), (0, u "(Ljava/lang/String;)Ljava/lang/AbstractStringBuilder;"), (18, .methodref 2 51), (0, .nameAndType 27 52), (0, u "(C)Ljava/lang/AbstractStringBuilder;"), (84, .methodref 18 138), (0, .nameAndType 5 139), (0, u "(Ljava/lang/StringBuilder;)V"), (5, u "()V"), (10, u "()I"), (129, u "(C)Ljava/lang/StringBuilder;"), (56, .methodref 2 344), (0, .nameAndType 345 156), (0, u "length"), (3, .class_ 350), (0, u "java/lang/Appendable"), (0, .class_ 352), (0, u "java/io/Serializable"), (0, .class_ 354), (0, u "java/lang/Comparable"), (0, .class_ 356), (0, u "java/lang/CharSequence"), (0, u "serialVersionUID"), (0, u "J"), (40, u "toString"), (0, u "()Ljava/lang/String;")] 21

def k21m0 : Method := { name := "<init>", desc := "()V", sig := { parameters := [], returnType := none }, accessFlags := 1, code := none }
def k21c1 : Code := { maxStack := 2, maxLocals := 2, code := jdk_67_method_3_code, exceptionTable := #[], attributes := #[] }
def k21m1 : Method := { name := "<init>", desc := "(Ljava/lang/String;)V", sig := { parameters := [(.object "java/lang/String")], returnType := none }, accessFlags := 1, code := some k21c1 }
def k21c2 : Code := { maxStack := 2, maxLocals := 2, code := jdk_67_method_7_code, exceptionTable := #[], attributes := #[] }
def k21m2 : Method := { name := "append", desc := "(Ljava/lang/String;)Ljava/lang/StringBuilder;", sig := { parameters := [(.object "java/lang/String")], returnType := some (.object "java/lang/StringBuilder") }, accessFlags := 1, code := some k21c2 }
def k21c3 : Code := { maxStack := 2, maxLocals := 2, code := jdk_67_method_14_code, exceptionTable := #[], attributes := #[] }
def k21m3 : Method := { name := "append", desc := "(C)Ljava/lang/StringBuilder;", sig := { parameters := [.char], returnType := some (.object "java/lang/StringBuilder") }, accessFlags := 1, code := some k21c3 }
def k21c4 : Code := { maxStack := 3, maxLocals := 1, code := jdk_67_method_42_code, exceptionTable := #[], attributes := #[] }
def k21m4 : Method := { name := "toString", desc := "()Ljava/lang/String;", sig := { parameters := [], returnType := some (.object "java/lang/String") }, accessFlags := 1, code := some k21c4 }
def k21c5 : Code := { maxStack := 2, maxLocals := 2, code := jdk_67_method_80_code, exceptionTable := #[], attributes := #[] }
def k21m5 : Method := { name := "append", desc := "(Ljava/lang/String;)Ljava/lang/AbstractStringBuilder;", sig := { parameters := [(.object "java/lang/String")], returnType := some (.object "java/lang/AbstractStringBuilder") }, accessFlags := 4161, code := some k21c5 }
def k21c6 : Code := { maxStack := 1, maxLocals := 1, code := jdk_67_method_93_code, exceptionTable := #[], attributes := #[] }
def k21m6 : Method := { name := "length", desc := "()I", sig := { parameters := [], returnType := some .int }, accessFlags := 4161, code := some k21c6 }
/-- java/lang/StringBuilder -/
def k21 : Class := { plain "java/lang/StringBuilder" (some 20) with
  accessFlags := 49
  interfaces := #[19, 2, 3, 4]
  cf := some (fileOf pool21 24 #[] #[{ accessFlags := 1, nameIndex := 5, descriptorIndex := 145, attributes := #[] }, { accessFlags := 1, nameIndex := 5, descriptorIndex := 9, attributes := #[] }, { accessFlags := 1, nameIndex := 27, descriptorIndex := 28, attributes := #[] }, { accessFlags := 1, nameIndex := 27, descriptorIndex := 286, attributes := #[] }, { accessFlags := 1, nameIndex := 399, descriptorIndex := 400, attributes := #[] }, { accessFlags := 4161, nameIndex := 27, descriptorIndex := 31, attributes := #[] }, { accessFlags := 4161, nameIndex := 345, descriptorIndex := 156, attributes := #[] }] 49 2 #[349, 351, 353, 355] #[{ accessFlags := 24, nameIndex := 357, descriptorIndex := 358, attributes := #[] }])
  fields := #[{ name := "serialVersionUID", type := .long, accessFlags := 24, slot := 0, constantValue := 0 }]
  methods := #[k21m0, k21m1, k21m2, k21m3, k21m4, k21m5, k21m6]
  instanceTypes := #[(.array .byte), .byte, .boolean, .int]
  staticTypes := #[.long]
  resolved := Array.replicate 422 none
  statics := none }

def pool22 : Array CpInfo := pool [(2, .class_ 4), (1, u "java/lang/Object"), (0, u "<init>"), (0, u "()V"), (1, .class_ 10), (1, u "java/lang/System"), (0, u "allowSecurityManager"), (0, u "I"), (16, u "cons"), (0, u "Ljava/io/Console;"), (77, .class_ 110), (1, u "java/lang/System$CallersHolder"), (43, u "initialErrStream"), (0, u "Ljava/io/PrintStream;"), (19, u "security"), (0, u "Ljava/lang/SecurityManager;"), (31, .class_ 209), (0, u "java/lang/System$1"), (7, u "props"), (0, u "Ljava/util/Properties;"), (2, u "lineSeparator"), (0, u "Ljava/lang/String;"), (96, .class_ 321), (1, u "java/lang/System$LoggerFinder"), (5, .class_ 328), (0, u "java/lang/System$Logger"), (67, u "err"), (2, u "out"), (91, u "notSupportedJnuEncoding"), (15, u "in"), (17, u "initialIn"), (0, u "Ljava/io/InputStream;"), (35, u "bootLayer"), (0, u "Ljava/lang/ModuleLayer;"), (99, .class_ 664), (0, u "java/lang/System$2"), (9, u "NEVER"), (2, u "MAYBE"), (49, u "arraycopy"), (0, u "(Ljava/lang/Object;ILjava/lang/Object;II)V"), (72, .class_ 802), (0, u "java/lang/System$Logger$Level")] 31

def k22m0 : Method := { name := "<init>", desc := "()V", sig := { parameters := [], returnType := none }, accessFlags := 2, code := none }
def k22m1 : Method := { name := "arraycopy", desc := "(Ljava/lang/Object;ILjava/lang/Object;II)V", sig := { parameters := [(.object "java/lang/Object"), .int, (.object "java/lang/Object"), .int, .int], returnType := none }, accessFlags := 265, code := none }
/-- java/lang/System -/
def k22 : Class := { plain "java/lang/System" (some 0) with
  accessFlags := 49
  interfaces := #[]
  cf := some (fileOf pool22 8 #[.nestMembers #[319, 327, 801, 108, 663, 208]] #[{ accessFlags := 2, nameIndex := 5, descriptorIndex := 6, attributes := #[] }, { accessFlags := 265, nameIndex := 727, descriptorIndex := 728, attributes := #[] }] 49 2 #[] #[{ accessFlags := 25, nameIndex := 507, descriptorIndex := 526, attributes := #[] }, { accessFlags := 25, nameIndex := 399, descriptorIndex := 155, attributes := #[] }, { accessFlags := 25, nameIndex := 396, descriptorIndex := 155, attributes := #[] }, { accessFlags := 10, nameIndex := 525, descriptorIndex := 526, attributes := #[] }, { accessFlags := 26, nameIndex := 674, descriptorIndex := 12, attributes := #[] }, { accessFlags := 26, nameIndex := 677, descriptorIndex := 12, attributes := #[] }, { accessFlags := 10, nameIndex := 11, descriptorIndex := 12, attributes := #[] }, { accessFlags := 74, nameIndex := 175, descriptorIndex := 176, attributes := #[] }, { accessFlags := 10, nameIndex := 491, descriptorIndex := 222, attributes := #[] }, { accessFlags := 74, nameIndex := 29, descriptorIndex := 30, attributes := #[] }, { accessFlags := 74, nameIndex := 154, descriptorIndex := 155, attributes := #[] }, { accessFlags := 10, nameIndex := 217, descriptorIndex := 218, attributes := #[] }, { accessFlags := 10, nameIndex := 221, descriptorIndex := 222, attributes := #[] }, { accessFlags := 8, nameIndex := 562, descriptorIndex := 563, attributes := #[] }])
  fields := #[{ name := "in", type := (.object "java/io/InputStream"), accessFlags := 25, slot := 0, constantValue := 0 }, { name := "out", type := (.object "java/io/PrintStream"), accessFlags := 25, slot := 1, constantValue := 0 }, { name := "err", type := (.object "java/io/PrintStream"), accessFlags := 25, slot := 2, constantValue := 0 }, { name := "initialIn", type := (.object "java/io/InputStream"), accessFlags := 10, slot := 3, constantValue := 0 }, { name := "NEVER", type := .int, accessFlags := 26, slot := 4, constantValue := 0 }, { name := "MAYBE", type := .int, accessFlags := 26, slot := 5, constantValue := 0 }, { name := "allowSecurityManager", type := .int, accessFlags := 10, slot := 6, constantValue := 0 }, { name := "security", type := (.object "java/lang/SecurityManager"), accessFlags := 74, slot := 7, constantValue := 0 }, { name := "notSupportedJnuEncoding", type := (.object "java/lang/String"), accessFlags := 10, slot := 8, constantValue := 0 }, { name := "cons", type := (.object "java/io/Console"), accessFlags := 74, slot := 9, constantValue := 0 }, { name := "initialErrStream", type := (.object "java/io/PrintStream"), accessFlags := 74, slot := 10, constantValue := 0 }, { name := "props", type := (.object "java/util/Properties"), accessFlags := 10, slot := 11, constantValue := 0 }, { name := "lineSeparator", type := (.object "java/lang/String"), accessFlags := 10, slot := 12, constantValue := 0 }, { name := "bootLayer", type := (.object "java/lang/ModuleLayer"), accessFlags := 8, slot := 13, constantValue := 0 }]
  methods := #[k22m0, k22m1]
  instanceTypes := #[]
  staticTypes := #[(.object "java/io/InputStream"), (.object "java/io/PrintStream"), (.object "java/io/PrintStream"), (.object "java/io/InputStream"), .int, .int, .int, (.object "java/lang/SecurityManager"), (.object "java/lang/String"), (.object "java/io/Console"), (.object "java/io/PrintStream"), (.object "java/util/Properties"), (.object "java/lang/String"), (.object "java/lang/ModuleLayer")]
  resolved := Array.replicate 834 none
  statics := none }

def pool23 : Array CpInfo := pool [(16, .class_ 18), (1, u "java/util/Iterator"), (0, u "hasNext"), (0, u "()Z"), (2, u "next"), (0, u "()Ljava/lang/Object;"), (6, .class_ 32), (0, u "java/lang/Object")] 20

def k23m0 : Method := { name := "hasNext", desc := "()Z", sig := { parameters := [], returnType := some .boolean }, accessFlags := 1025, code := none }
def k23m1 : Method := { name := "next", desc := "()Ljava/lang/Object;", sig := { parameters := [], returnType := some (.object "java/lang/Object") }, accessFlags := 1025, code := none }
/-- java/util/Iterator -/
def k23 : Class := { plain "java/util/Iterator" (some 0) with
  accessFlags := 1537
  interfaces := #[]
  cf := some (fileOf pool23 16 #[] #[{ accessFlags := 1025, nameIndex := 19, descriptorIndex := 20, attributes := #[] }, { accessFlags := 1025, nameIndex := 23, descriptorIndex := 24, attributes := #[] }] 1537 31 #[] #[])
  fields := #[]
  methods := #[k23m0, k23m1]
  instanceTypes := #[]
  staticTypes := #[]
  resolved := Array.replicate 53 none
  statics := none }

def pool24 : Array CpInfo := pool [(1, .fieldref 2 3), (0, .class_ 4), (0, .nameAndType 5 6), (0, u "java/util/ArrayList$Itr"), (0, u "this$0"), (0, u "Ljava/util/ArrayList;"), (0, .methodref 8 9), (0, .class_ 10), (0, .nameAndType 11 12), (0, u "java/lang/Object"), (0, u "<init>"), (0, u "()V"), (0, .fieldref 2 14), (0, .nameAndType 15 16), (0, u "lastRet"), (0, u "I"), (0, .fieldref 18 19), (0, .class_ 20), (0, .nameAndType 21 16), (0, u "java/util/ArrayList"), (0, u "modCount"), (0, .fieldref 2 23), (0, .nameAndType 24 16), (0, u "expectedModCount"), (0, .fieldref 2 26), (0, .nameAndType 27 16), (0, u "cursor"), (0, .fieldref 18 29), (0, .nameAndType 30 16), (0, u "size"), (0, .methodref 2 32), (0, .nameAndType 33 12), (0, u "checkForComodification"), (3, .fieldref 18 38), (0, .nameAndType 39 40), (0, u "elementData"), (0, u "[Ljava/lang/Object;"), (28, .class_ 70), (0, u "java/util/Iterator"), (0, u "(Ljava/util/ArrayList;)V"), (8, u "hasNext"), (0, u "()Z"), (1, u "next"), (0, u "()Ljava/lang/Object;")] 19

def k24c0 : Code := { maxStack := 2, maxLocals := 2, code := jdk_49_method_1_code, exceptionTable := #[], attributes := #[] }
def k24m0 : Method := { name := "<init>", desc := "(Ljava/util/ArrayList;)V", sig := { parameters := [(.object "java/util/ArrayList")], returnType := none }, accessFlags := 0, code := some k24c0 }
def k24c1 : Code := { maxStack := 2, maxLocals := 1, code := jdk_49_method_2_code, exceptionTable := #[], attributes := #[] }
def k24m1 : Method := { name := "hasNext", desc := "()Z", sig := { parameters := [], returnType := some .boolean }, accessFlags := 1, code := some k24c1 }
def k24c2 : Code := { maxStack := 4, maxLocals := 3, code := jdk_49_method_3_code, exceptionTable := #[], attributes := #[] }
def k24m2 : Method := { name := "next", desc := "()Ljava/lang/Object;", sig := { parameters := [], returnType := some (.object "java/lang/Object") }, accessFlags := 1, code := some k24c2 }
def k24c3 : Code := { maxStack := 2, maxLocals := 1, code := jdk_49_method_6_code, exceptionTable := #[], attributes := #[] }
def k24m3 : Method := { name := "checkForComodification", desc := "()V", sig := { parameters := [], returnType := none }, accessFlags := 16, code := some k24c3 }
/-- java/util/ArrayList$Itr -/
def k24 : Class := { plain "java/util/ArrayList$Itr" (some 0) with
  accessFlags := 32
  interfaces := #[23]
  cf := some (fileOf pool24 2 #[.nestHost 18] #[{ accessFlags := 0, nameIndex := 11, descriptorIndex := 71, attributes := #[] }, { accessFlags := 1, nameIndex := 80, descriptorIndex := 81, attributes := #[] }, { accessFlags := 1, nameIndex := 83, descriptorIndex := 84, attributes := #[] }, { accessFlags := 16, nameIndex := 33, descriptorIndex := 12, attributes := #[] }] 32 8 #[69] #[{ accessFlags := 0, nameIndex := 27, descriptorIndex := 16, attributes := #[] }, { accessFlags := 0, nameIndex := 15, descriptorIndex := 16, attributes := #[] }, { accessFlags := 0, nameIndex := 24, descriptorIndex := 16, attributes := #[] }, { accessFlags := 4112, nameIndex := 5, descriptorIndex := 6, attributes := #[] }])
  fields := #[{ name := "cursor", type := .int, accessFlags := 0, slot := 0, constantValue := 0 }, { name := "lastRet", type := .int, accessFlags := 0, slot := 1, constantValue := 0 }, { name := "expectedModCount", type := .int, accessFlags := 0, slot := 2, constantValue := 0 }, { name := "this$0", type := (.object "java/util/ArrayList"), accessFlags := 4112, slot := 3, constantValue := 0 }]
  methods := #[k24m0, k24m1, k24m2, k24m3]
  instanceTypes := #[.int, .int, .int, (.object "java/util/ArrayList")]
  staticTypes := #[]
  resolved := Array.replicate 104 none
  statics := none }

def pool25 : Array CpInfo := pool [(1, .class_ 2), (0, u "java/lang/String"), (1, .class_ 6), (1, u "java/lang/Object"), (0, u "<init>"), (0, u "()V"), (0, .methodref 1 10), (0, .nameAndType 11 12), (0, u "checkIndex"), (0, u "(II)V"), (1, .class_ 16), (1, u "java/lang/StringLatin1"), (36, u "([BI)C"), (36, u "canEncode"), (14, u "(C)Z"), (15, u "$assertionsDisabled"), (0, u "Z"), (98, .class_ 223), (1, u "java/lang/StringLatin1$LinesSpliterator"), (28, u "charAt"), (137, .class_ 391), (0, u "java/lang/StringLatin1$CharsSpliterator")] 3

def k25m0 : Method := { name := "<init>", desc := "()V", sig := { parameters := [], returnType := none }, accessFlags := 0, code := none }
def k25c1 : Code := { maxStack := 2, maxLocals := 2, code := jdk_43_method_2_code, exceptionTable := #[], attributes := #[] }
def k25m1 : Method := { name := "charAt", desc := "([BI)C", sig := { parameters := [(.array .byte), .int], returnType := some .char }, accessFlags := 9, code := some k25c1 }
def k25c2 : Code := { maxStack := 2, maxLocals := 1, code := jdk_43_method_3_code, exceptionTable := #[], attributes := #[] }
def k25m2 : Method := { name := "canEncode", desc := "(C)Z", sig := { parameters := [.char], returnType := some .boolean }, accessFlags := 9, code := some k25c2 }
/-- java/lang/StringLatin1 -/
def k25 : Class := { plain "java/lang/StringLatin1" (some 0) with
  accessFlags := 48
  interfaces := #[]
  cf := some (fileOf pool25 14 #[.nestMembers #[390, 221]] #[{ accessFlags := 0, nameIndex := 7, descriptorIndex := 8, attributes := #[] }, { accessFlags := 9, nameIndex := 252, descriptorIndex := 53, attributes := #[] }, { accessFlags := 9, nameIndex := 90, descriptorIndex := 105, attributes := #[] }] 48 4 #[] #[{ accessFlags := 4120, nameIndex := 121, descriptorIndex := 122, attributes := #[] }])
  fields := #[{ name := "$assertionsDisabled", type := .boolean, accessFlags := 4120, slot := 0, constantValue := 0 }]
  methods := #[k25m0, k25m1, k25m2]
  instanceTypes := #[]
  staticTypes := #[.boolean]
  resolved := Array.replicate 395 none
  statics := none }

def pool26 : Array CpInfo := pool [(2, .class_ 4), (1, u "java/lang/Object"), (0, u "<init>"), (0, u "()V"), (7, .class_ 16), (1, u "java/util/Arrays"), (57, .class_ 76), (1, u "java/util/Arrays$NaturalOrder"), (32, u "()Ljava/lang/Object;"), (3, .class_ 115), (1, u "java/util/Arrays$LegacyMergeSort"), (1, u "Z"), (10, .nameAndType 129 109), (0, u "clone"), (9, u "copyOfRange"), (10, .methodref 151 152), (0, .class_ 153), (0, .nameAndType 154 155), (0, u "java/lang/System"), (0, u "arraycopy"), (0, u "(Ljava/lang/Object;ILjava/lang/Object;II)V"), (146, u "copyOf"), (1, .methodref 305 306), (0, .class_ 307), (0, .nameAndType 308 309), (0, u "java/lang/Math"), (0, u "min"), (0, u "(II)I"), (0, .methodref 311 128), (0, .class_ 312), (0, u "[B"), (26, .methodref 14 340), (0, .nameAndType 341 342), (0, u "copyOfRangeByte"), (0, u "([BII)[B"), (0, .methodref 14 344), (0, .nameAndType 345 346), (0, u "checkLength"), (0, u "(II)V"), (28, .class_ 376), (0, u "java/util/Arrays$ArrayList"), (68, u "$assertionsDisabled"), (269, u "MIN_ARRAY_SORT_GRAN"), (0, u "I"), (2, u "INSERTIONSORT_THRESHOLD"), (120, u "fill"), (9, u "([BB)V"), (18, u "([BI)[B"), (105, .class_ 976), (0, u "java/util/Arrays$ArrayItr")] 52

def k26m0 : Method := { name := "<init>", desc := "()V", sig := { parameters := [], returnType := none }, accessFlags := 2, code := none }
def k26c1 : Code := { maxStack := 3, maxLocals := 4, code := jdk_65_method_109_code, exceptionTable := #[], attributes := #[] }
def k26m1 : Method := { name := "fill", desc := "([BB)V", sig := { parameters := [(.array .byte), .byte], returnType := none }, accessFlags := 9, code := some k26c1 }
def k26c2 : Code := { maxStack := 6, maxLocals := 3, code := jdk_65_method_121_code, exceptionTable := #[], attributes := #[] }
def k26m2 : Method := { name := "copyOf", desc := "([BI)[B", sig := { parameters := [(.array .byte), .int], returnType := some (.array .byte) }, accessFlags := 9, code := some k26c2 }
def k26c3 : Code := { maxStack := 4, maxLocals := 2, code := jdk_65_method_131_code, exceptionTable := #[], attributes := #[] }
def k26m3 : Method := { name := "checkLength", desc := "(II)V", sig := { parameters := [.int, .int], returnType := none }, accessFlags := 10, code := some k26c3 }
def k26c4 : Code := { maxStack := 3, maxLocals := 3, code := jdk_65_method_132_code, exceptionTable := #[], attributes := #[] }
def k26m4 : Method := { name := "copyOfRange", desc := "([BII)[B", sig := { parameters := [(.array .byte), .int, .int], returnType := some (.array .byte) }, accessFlags := 9, code := some k26c4 }
def k26c5 : Code := { maxStack := 6, maxLocals := 5, code := jdk_65_method_133_code, exceptionTable := #[], attributes := #[] }
def k26m5 : Method := { name := "copyOfRangeByte", desc := "([BII)[B", sig := { parameters := [(.array .byte), .int, .int], returnType := some (.array .byte) }, accessFlags := 10, code := some k26c5 }
/-- java/util/Arrays -/
def k26 : Class := { plain "java/util/Arrays" (some 0) with
  accessFlags := 49
  interfaces := #[]
  cf := some (fileOf pool26 14 #[.nestMembers #[975, 375, 113, 74]] #[{ accessFlags := 2, nameIndex := 5, descriptorIndex := 6, attributes := #[] }, { accessFlags := 9, nameIndex := 840, descriptorIndex := 850, attributes := #[] }, { accessFlags := 9, nameIndex := 302, descriptorIndex := 869, attributes := #[] }, { accessFlags := 10, nameIndex := 345, descriptorIndex := 346, attributes := #[] }, { accessFlags := 9, nameIndex := 139, descriptorIndex := 342, attributes := #[] }, { accessFlags := 10, nameIndex := 341, descriptorIndex := 342, attributes := #[] }] 49 2 #[] #[{ accessFlags := 26, nameIndex := 715, descriptorIndex := 716, attributes := #[] }, { accessFlags := 26, nameIndex := 719, descriptorIndex := 716, attributes := #[] }, { accessFlags := 4120, nameIndex := 445, descriptorIndex := 117, attributes := #[] }])
  fields := #[{ name := "MIN_ARRAY_SORT_GRAN", type := .int, accessFlags := 26, slot := 0, constantValue := 0 }, { name := "INSERTIONSORT_THRESHOLD", type := .int, accessFlags := 26, slot := 1, constantValue := 0 }, { name := "$assertionsDisabled", type := .boolean, accessFlags := 4120, slot := 2, constantValue := 0 }]
  methods := #[k26m0, k26m1, k26m2, k26m3, k26m4, k26m5]
  instanceTypes := #[]
  staticTypes := #[.int, .int, .boolean]
  resolved := Array.replicate 1029 none
  statics := none }

def pool27 : Array CpInfo := pool [(1, .class_ 2), (0, u "java/lang/Math"), (1, .class_ 6), (1, u "java/lang/Object"), (0, u "<init>"), (0, u "()V"), (89, .class_ 100), (1, u "java/lang/Math$RandomNumberGeneratorHolder"), (71, u "negativeZeroFloatBits"), (0, u "J"), (2, u "negativeZeroDoubleBits"), (21, u "max"), (2, u "min"), (43, u "$assertionsDisabled"), (0, u "Z"), (88, u "(II)I"), (2, u "twoToTheDoubleScaleDown"), (0, u "D"), (4, u "twoToTheDoubleScaleUp"), (9, u "E"), (3, u "PI"), (2, u "TAU"), (2, u "DEGREES_TO_RADIANS"), (0, u "RADIANS_TO_DEGREES")] 94

def k27m0 : Method := { name := "<init>", desc := "()V", sig := { parameters := [], returnType := none }, accessFlags := 2, code := none }
def k27c1 : Code := { maxStack := 2, maxLocals := 2, code := jdk_29_method_65_code, exceptionTable := #[], attributes := #[] }
def k27m1 : Method := { name := "max", desc := "(II)I", sig := { parameters := [.int, .int], returnType := some .int }, accessFlags := 9, code := some k27c1 }
def k27c2 : Code := { maxStack := 2, maxLocals := 2, code := jdk_29_method_69_code, exceptionTable := #[], attributes := #[] }
def k27m2 : Method := { name := "min", desc := "(II)I", sig := { parameters := [.int, .int], returnType := some .int }, accessFlags := 9, code := some k27c2 }
/-- java/lang/Math -/
def k27 : Class := { plain "java/lang/Math" (some 0) with
  accessFlags := 49
  interfaces := #[]
  cf := some (fileOf pool27 1 #[.nestMembers #[98]] #[{ accessFlags := 2, nameIndex := 7, descriptorIndex := 8, attributes := #[] }, { accessFlags := 9, nameIndex := 198, descriptorIndex := 335, attributes := #[] }, { accessFlags := 9, nameIndex := 201, descriptorIndex := 335, attributes := #[] }] 49 4 #[] #[{ accessFlags := 25, nameIndex := 354, descriptorIndex := 339, attributes := #[] }, { accessFlags := 25, nameIndex := 358, descriptorIndex := 339, attributes := #[] }, { accessFlags := 25, nameIndex := 361, descriptorIndex := 339, attributes := #[] }, { accessFlags := 26, nameIndex := 364, descriptorIndex := 339, attributes := #[] }, { accessFlags := 26, nameIndex := 365, descriptorIndex := 339, attributes := #[] }, { accessFlags := 26, nameIndex := 172, descriptorIndex := 173, attributes := #[] }, { accessFlags := 26, nameIndex := 176, descriptorIndex := 173, attributes := #[] }, { accessFlags := 8, nameIndex := 344, descriptorIndex := 339, attributes := #[] }, { accessFlags := 8, nameIndex := 338, descriptorIndex := 339, attributes := #[] }, { accessFlags := 4120, nameIndex := 245, descriptorIndex := 246, attributes := #[] }])
  fields := #[{ name := "E", type := .double, accessFlags := 25, slot := 0, constantValue := 0 }, { name := "PI", type := .double, accessFlags := 25, slot := 1, constantValue := 0 }, { name := "TAU", type := .double, accessFlags := 25, slot := 2, constantValue := 0 }, { name := "DEGREES_TO_RADIANS", type := .double, accessFlags := 26, slot := 3, constantValue := 0 }, { name := "RADIANS_TO_DEGREES", type := .double, accessFlags := 26, slot := 4, constantValue := 0 }, { name := "negativeZeroFloatBits", type := .long, accessFlags := 26, slot := 5, constantValue := 0 }, { name := "negativeZeroDoubleBits", type := .long, accessFlags := 26, slot := 6, constantValue := 0 }, { name := "twoToTheDoubleScaleUp", type := .double, accessFlags := 8, slot := 7, constantValue := 0 }, { name := "twoToTheDoubleScaleDown", type := .double, accessFlags := 8, slot := 8, constantValue := 0 }, { name := "$assertionsDisabled", type := .boolean, accessFlags := 4120, slot := 9, constantValue := 0 }]
  methods := #[k27m0, k27m1, k27m2]
  instanceTypes := #[]
  staticTypes := #[.double, .double, .double, .double, .double, .long, .long, .double, .double, .boolean]
  resolved := Array.replicate 460 none
  statics := none }

def pool28 : Array CpInfo := pool [(2, .class_ 4), (1, u "java/lang/Object"), (0, u "<init>"), (0, u "()V"), (17, .class_ 26), (1, u "jdk/internal/util/Preconditions"), (6, u "checkIndex"), (21, .class_ 56), (0, u "jdk/internal/util/Preconditions$4"), (57, .class_ 115), (0, u "jdk/internal/util/Preconditions$1"), (7, u "SIOOBE_FORMATTER"), (0, u "Ljava/util/function/BiFunction;"), (0, .class_ 126), (0, u "jdk/internal/util/Preconditions$2"), (3, u "AIOOBE_FORMATTER"), (0, .class_ 132), (0, u "jdk/internal/util/Preconditions$3"), (3, u "IOOBE_FORMATTER"), (41, u "(IILjava/util/function/BiFunction;)I")] 15

def k28m0 : Method := { name := "<init>", desc := "()V", sig := { parameters := [], returnType := none }, accessFlags := 1, code := none }
def k28c1 : Code := { maxStack := 3, maxLocals := 3, code := jdk_41_method_11_code, exceptionTable := #[], attributes := #[] }
def k28m1 : Method := { name := "checkIndex", desc := "(IILjava/util/function/BiFunction;)I", sig := { parameters := [.int, .int, (.object "java/util/function/BiFunction")], returnType := some .int }, accessFlags := 9, code := some k28c1 }
/-- jdk/internal/util/Preconditions -/
def k28 : Class := { plain "jdk/internal/util/Preconditions" (some 0) with
  accessFlags := 33
  interfaces := #[]
  cf := some (fileOf pool28 24 #[.nestMembers #[55, 131, 125, 114]] #[{ accessFlags := 1, nameIndex := 5, descriptorIndex := 6, attributes := #[] }, { accessFlags := 9, nameIndex := 33, descriptorIndex := 178, attributes := #[] }] 33 2 #[] #[{ accessFlags := 25, nameIndex := 123, descriptorIndex := 124, attributes := #[] }, { accessFlags := 25, nameIndex := 130, descriptorIndex := 124, attributes := #[] }, { accessFlags := 25, nameIndex := 136, descriptorIndex := 124, attributes := #[] }])
  fields := #[{ name := "SIOOBE_FORMATTER", type := (.object "java/util/function/BiFunction"), accessFlags := 25, slot := 0, constantValue := 0 }, { name := "AIOOBE_FORMATTER", type := (.object "java/util/function/BiFunction"), accessFlags := 25, slot := 1, constantValue := 0 }, { name := "IOOBE_FORMATTER", type := (.object "java/util/function/BiFunction"), accessFlags := 25, slot := 2, constantValue := 0 }]
  methods := #[k28m0, k28m1]
  instanceTypes := #[]
  staticTypes := #[(.object "java/util/function/BiFunction"), (.object "java/util/function/BiFunction"), (.object "java/util/function/BiFunction")]
  resolved := Array.replicate 194 none
  statics := some 2 }

def pool29 : Array CpInfo := pool [(6, .class_ 8), (1, u "java/lang/Object"), (0, u "<init>"), (0, u "()V"), (1, .class_ 14), (1, u "java/lang/StringUTF16"), (31, u "$assertionsDisabled"), (0, u "Z"), (13, u "HI_BYTE_SHIFT"), (0, u "I"), (2, u "LO_BYTE_SHIFT"), (49, .methodref 12 116), (0, .nameAndType 117 118), (0, u "compress"), (0, u "([CI[BII)I"), (3, u "([CII)[B"), (138, u "coderFromArrayLen"), (0, u "([BI)B"), (106, .class_ 371), (1, u "java/lang/StringUTF16$LinesSpliterator"), (58, u "MAX_LENGTH"), (196, .class_ 628), (0, u "java/lang/StringUTF16$CodePointsSpliterator"), (0, .class_ 630), (0, u "java/lang/StringUTF16$CharsSpliterator")] 4

def k29m0 : Method := { name := "<init>", desc := "()V", sig := { parameters := [], returnType := none }, accessFlags := 0, code := none }
def k29c1 : Code := { maxStack := 2, maxLocals := 2, code := jdk_52_method_15_code, exceptionTable := #[], attributes := #[] }
def k29m1 : Method := { name := "coderFromArrayLen", desc := "([BI)B", sig := { parameters := [(.array .byte), .int], returnType := some .byte }, accessFlags := 8, code := some k29c1 }
def k29c2 : Code := { maxStack := 5, maxLocals := 6, code := jdk_52_method_16_code, exceptionTable := #[], attributes := #[] }
def k29m2 : Method := { name := "compress", desc := "([CII)[B", sig := { parameters := [(.array .char), .int, .int], returnType := some (.array .byte) }, accessFlags := 9, code := some k29c2 }
def k29c3 : Code := { maxStack := 3, maxLocals := 7, code := jdk_52_method_21_code, exceptionTable := #[], attributes := #[] }
def k29m3 : Method := { name := "compress", desc := "([CI[BII)I", sig := { parameters := [(.array .char), .int, (.array .byte), .int, .int], returnType := some .int }, accessFlags := 9, code := some k29c3 }
/-- java/lang/StringUTF16 -/
def k29 : Class := { plain "java/lang/StringUTF16" (some 0) with
  accessFlags := 48
  interfaces := #[]
  cf := some (fileOf pool29 12 #[.nestMembers #[627, 629, 369]] #[{ accessFlags := 0, nameIndex := 9, descriptorIndex := 10, attributes := #[] }, { accessFlags := 8, nameIndex := 261, descriptorIndex := 262, attributes := #[] }, { accessFlags := 9, nameIndex := 117, descriptorIndex := 122, attributes := #[] }, { accessFlags := 9, nameIndex := 117, descriptorIndex := 118, attributes := #[] }] 48 6 #[] #[{ accessFlags := 26, nameIndex := 61, descriptorIndex := 62, attributes := #[] }, { accessFlags := 26, nameIndex := 65, descriptorIndex := 62, attributes := #[] }, { accessFlags := 24, nameIndex := 430, descriptorIndex := 62, attributes := #[] }, { accessFlags := 4120, nameIndex := 46, descriptorIndex := 47, attributes := #[] }])
  fields := #[{ name := "HI_BYTE_SHIFT", type := .int, accessFlags := 26, slot := 0, constantValue := 0 }, { name := "LO_BYTE_SHIFT", type := .int, accessFlags := 26, slot := 1, constantValue := 0 }, { name := "MAX_LENGTH", type := .int, accessFlags := 24, slot := 2, constantValue := 0 }, { name := "$assertionsDisabled", type := .boolean, accessFlags := 4120, slot := 3, constantValue := 0 }]
  methods := #[k29m0, k29m1, k29m2, k29m3]
  instanceTypes := #[]
  staticTypes := #[.int, .int, .int, .boolean]
  resolved := Array.replicate 635 none
  statics := none }

def pool30 : Array CpInfo := pool [(9, u "<init>"), (6, .class_ 18), (1, u "java/lang/Object"), (0, u "()V"), (1, .class_ 23), (1, u "jdk/internal/util/ArraysSupport"), (0, u "LOG2_ARRAY_LONG_INDEX_SCALE"), (0, u "I"), (2, u "U"), (0, u "Ljdk/internal/misc/Unsafe;"), (8, u "BIG_ENDIAN"), (0, u "Z"), (8, u "LOG2_BYTE_BIT_SIZE"), (4, u "LOG2_ARRAY_INT_INDEX_SCALE"), (54, u "JLA"), (0, u "Ljdk/internal/access/JavaLangAccess;"), (11, u "LOG2_ARRAY_BOOLEAN_INDEX_SCALE"), (9, u "LOG2_ARRAY_BYTE_INDEX_SCALE"), (5, u "LOG2_ARRAY_CHAR_INDEX_SCALE"), (5, u "LOG2_ARRAY_SHORT_INDEX_SCALE"), (18, u "LOG2_ARRAY_FLOAT_INDEX_SCALE"), (24, u "LOG2_ARRAY_DOUBLE_INDEX_SCALE"), (6, .methodref 195 196), (0, .class_ 197), (0, .nameAndType 198 199), (0, u "java/lang/Math"), (0, u "max"), (0, u "(II)I"), (0, .integer 2147483639), (76, u "T_BOOLEAN"), (2, u "T_CHAR"), (1, u "T_FLOAT"), (1, u "T_DOUBLE"), (1, u "T_BYTE"), (1, u "T_SHORT"), (1, u "T_INT"), (1, u "T_LONG"), (1, u "SOFT_MAX_ARRAY_LENGTH"), (56, u "newLength"), (0, u "(III)I")] 25

def k30m0 : Method := { name := "<init>", desc := "()V", sig := { parameters := [], returnType := none }, accessFlags := 2, code := none }
def k30c1 : Code := { maxStack := 3, maxLocals := 4, code := jdk_48_method_27_code, exceptionTable := #[], attributes := #[] }
def k30m1 : Method := { name := "newLength", desc := "(III)I", sig := { parameters := [.int, .int, .int], returnType := some .int }, accessFlags := 9, code := some k30c1 }
/-- jdk/internal/util/ArraysSupport -/
def k30 : Class := { plain "jdk/internal/util/ArraysSupport" (some 0) with
  accessFlags := 33
  interfaces := #[]
  cf := some (fileOf pool30 21 #[] #[{ accessFlags := 2, nameIndex := 9, descriptorIndex := 19, attributes := #[] }, { accessFlags := 9, nameIndex := 351, descriptorIndex := 352, attributes := #[] }] 33 16 #[] #[{ accessFlags := 24, nameIndex := 28, descriptorIndex := 29, attributes := #[] }, { accessFlags := 26, nameIndex := 38, descriptorIndex := 39, attributes := #[] }, { accessFlags := 25, nameIndex := 121, descriptorIndex := 25, attributes := #[] }, { accessFlags := 25, nameIndex := 131, descriptorIndex := 25, attributes := #[] }, { accessFlags := 25, nameIndex := 137, descriptorIndex := 25, attributes := #[] }, { accessFlags := 25, nameIndex := 143, descriptorIndex := 25, attributes := #[] }, { accessFlags := 25, nameIndex := 53, descriptorIndex := 25, attributes := #[] }, { accessFlags := 25, nameIndex := 24, descriptorIndex := 25, attributes := #[] }, { accessFlags := 25, nameIndex := 162, descriptorIndex := 25, attributes := #[] }, { accessFlags := 25, nameIndex := 187, descriptorIndex := 25, attributes := #[] }, { accessFlags := 26, nameIndex := 48, descriptorIndex := 25, attributes := #[] }, { accessFlags := 25, nameIndex := 277, descriptorIndex := 25, attributes := #[] }, { accessFlags := 25, nameIndex := 280, descriptorIndex := 25, attributes := #[] }, { accessFlags := 25, nameIndex := 282, descriptorIndex := 25, attributes := #[] }, { accessFlags := 25, nameIndex := 284, descriptorIndex := 25, attributes := #[] }, { accessFlags := 25, nameIndex := 286, descriptorIndex := 25, attributes := #[] }, { accessFlags := 25, nameIndex := 288, descriptorIndex := 25, attributes := #[] }, { accessFlags := 25, nameIndex := 290, descriptorIndex := 25, attributes := #[] }, { accessFlags := 25, nameIndex := 292, descriptorIndex := 25, attributes := #[] }, { accessFlags := 26, nameIndex := 108, descriptorIndex := 109, attributes := #[] }, { accessFlags := 25, nameIndex := 294, descriptorIndex := 25, attributes := #[] }])
  fields := #[{ name := "U", type := (.object "jdk/internal/misc/Unsafe"), accessFlags := 24, slot := 0, constantValue := 0 }, { name := "BIG_ENDIAN", type := .boolean, accessFlags := 26, slot := 1, constantValue := 0 }, { name := "LOG2_ARRAY_BOOLEAN_INDEX_SCALE", type := .int, accessFlags := 25, slot := 2, constantValue := 0 }, { name := "LOG2_ARRAY_BYTE_INDEX_SCALE", type := .int, accessFlags := 25, slot := 3, constantValue := 0 }, { name := "LOG2_ARRAY_CHAR_INDEX_SCALE", type := .int, accessFlags := 25, slot := 4, constantValue := 0 }, { name := "LOG2_ARRAY_SHORT_INDEX_SCALE", type := .int, accessFlags := 25, slot := 5, constantValue := 0 }, { name := "LOG2_ARRAY_INT_INDEX_SCALE", type := .int, accessFlags := 25, slot := 6, constantValue := 0 }, { name := "LOG2_ARRAY_LONG_INDEX_SCALE", type := .int, accessFlags := 25, slot := 7, constantValue := 0 }, { name := "LOG2_ARRAY_FLOAT_INDEX_SCALE", type := .int, accessFlags := 25, slot := 8, constantValue := 0 }, { name := "LOG2_ARRAY_DOUBLE_INDEX_SCALE", type := .int, accessFlags := 25, slot := 9, constantValue := 0 }, { name := "LOG2_BYTE_BIT_SIZE", type := .int, accessFlags := 26, slot := 10, constantValue := 0 }, { name := "T_BOOLEAN", type := .int, accessFlags := 25, slot := 11, constantValue := 0 }, { name := "T_CHAR", type := .int, accessFlags := 25, slot := 12, constantValue := 0 }, { name := "T_FLOAT", type := .int, accessFlags := 25, slot := 13, constantValue := 0 }, { name := "T_DOUBLE", type := .int, accessFlags := 25, slot := 14, constantValue := 0 }, { name := "T_BYTE", type := .int, accessFlags := 25, slot := 15, constantValue := 0 }, { name := "T_SHORT", type := .int, accessFlags := 25, slot := 16, constantValue := 0 }, { name := "T_INT", type := .int, accessFlags := 25, slot := 17, constantValue := 0 }, { name := "T_LONG", type := .int, accessFlags := 25, slot := 18, constantValue := 0 }, { name := "JLA", type := (.object "jdk/internal/access/JavaLangAccess"), accessFlags := 26, slot := 19, constantValue := 0 }, { name := "SOFT_MAX_ARRAY_LENGTH", type := .int, accessFlags := 25, slot := 20, constantValue := 0 }]
  methods := #[k30m0, k30m1]
  instanceTypes := #[]
  staticTypes := #[(.object "jdk/internal/misc/Unsafe"), .boolean, .int, .int, .int, .int, .int, .int, .int, .int, .int, .int, .int, .int, .int, .int, .int, .int, .int, (.object "jdk/internal/access/JavaLangAccess"), .int]
  resolved := Array.replicate 378 none
  statics := none }

/-- the primitive byte -/
def k31 : Class := { plain "byte" none with kind := .primitive 'B', accessFlags := 0x411 }
/-- [B -/
def k32 : Class := { plain "[B" (some 0) with kind := .array 31 .byte, interfaces := #[15, 2], accessFlags := 1041 }

/-- the primitive char -/
def k33 : Class := { plain "char" none with kind := .primitive 'C', accessFlags := 0x411 }
/-- [C -/
def k34 : Class := { plain "[C" (some 0) with kind := .array 33 .char, interfaces := #[15, 2], accessFlags := 1041 }

/-- the primitive int -/
def k35 : Class := { plain "int" none with kind := .primitive 'I', accessFlags := 0x411 }
/-- [I -/
def k36 : Class := { plain "[I" (some 0) with kind := .array 35 .int, interfaces := #[15, 2], accessFlags := 1041 }

/-- [Ljava/lang/Object; -/
def k37 : Class := { plain "[Ljava/lang/Object;" (some 0) with kind := .array 0 (.object "java/lang/Object"), interfaces := #[15, 2], accessFlags := 1041 }

def heap : Heap := #[{ cls := 7, slots := #[.long 0, .int 1, .null, .int 0, .null, .int 0, .int 0], vm := .statics 7 },
  { cls := 16, slots := #[.long 0, .int 0, .ref 3, .ref 4], vm := .statics 16 },
  { cls := 28, slots := #[.null, .null, .null], vm := .statics 28 },
  { cls := 37, slots := #[], vm := .none },
  { cls := 37, slots := #[], vm := .none }]
def classes : Array Class := #[k0, k1, k2, k3, k4, k5, k6, k7, k8, k9, k10, k11, k12, k13, k14, k15, k16, k17, k18, k19, k20, k21, k22, k23, k24, k25, k26, k27, k28, k29, k30, k31, k32, k33, k34, k35, k36, k37]
def interned : List (Array UInt16 × Addr) := []
def slotsUsed : Nat := 14
def theMethod : MethodId := ⟨1, 2⟩
def args0 : Array Value := #[.int 1, .int 2, .int 3, .int 4, .int 5, .int 6]
def aboutOver (below : List Frame) : State where
  vm := { classes := classes, interned := interned.toArray }
  heap := heap
  slotsUsed := slotsUsed
  threads := #[{ frames := .invoking theMethod args0 :: below }]
def below0 : List Frame := [.native { method := ⟨0, 0⟩, args := #[] }]
def about1 : State := aboutOver below0
def p0 : Program := .bare "" "" ""
def e0 : Env := launch0.env 0 0 0
theorem w_frames : about1.frames = Frame.invoking theMethod args0 :: below0 := rfl
set_option maxRecDepth 65536 in
theorem w_args : argsFit about1.vm theMethod args0 = true := by decide +kernel
set_option maxRecDepth 65536 in
theorem w_heap : heapFits about1 = true := by decide +kernel
set_option maxRecDepth 65536 in
theorem w_runnable : about1.curStatus? = some .runnable := by decide +kernel
set_option maxRecDepth 65536 in
theorem w_alone : about1.alone = true := by decide +kernel
set_option maxRecDepth 65536 in
theorem w_named : about1.methodNamed? x = some theMethod := by decide +kernel
set_option maxRecDepth 65536 in
theorem w_hears : about1.hears theMethod below0 = true := by decide +kernel
set_option maxRecDepth 65536 in
theorem w_ripe : about1.ripe theMethod args0 below0 = true := by decide +kernel
theorem w_running : about1.status = .running := rfl
set_option maxRecDepth 65536 in
theorem w_room : about1.hasRoom e0.platform room_1 = true :=
  launch0.hasRoom_least _ room_1 (by decide +kernel) (by decide +kernel) (by decide +kernel) (by decide +kernel) (by decide +kernel) (by decide +kernel)
theorem allAtoms_all (ts : List Jvm.Cond) (a : Array Jvm.Value) (st : Jvm.State) : (allAtoms ts).before a st = ts.all (fun c => c.before a st) := by
  induction ts with
  | nil => rfl
  | cons c t ih =>
    show (Jvm.Cond.and c (allAtoms t)).before a st = _
    rw [Jvm.Cond.before_and, ih, List.all_cons]
def words1 : List Jvm.Cond := Jvm.Cond.code x code maxLocals ret :: tables_1
/-- a 'code' word, met by the world's own term for the bytes: nothing is compared byte by byte -/
theorem code_word {y : MethodName} {bytes : ByteArray} {mx : Nat} {rt : Option FieldType} {a : Array Value} {s : State} {m : MethodId} {meth : Method} {c : Code} (h1 : s.methodNamed? y = some m) (h2 : s.vm.method? m = some meth) (h3 : meth.code = some c) (h4 : c.code = bytes)
    (h5 : (c.maxLocals == mx && c.exceptionTable.isEmpty && decide (c.maxStack ≤ mostOperands) && decide (meth.sig.returnType = rt) && !meth.locks && decide (parseMethodDescriptor y.desc = some meth.sig)) = true) : (Jvm.Cond.code y bytes mx rt).before a s = true := by
  simp only [Bool.and_eq_true, beq_iff_eq, Bool.not_eq_true', decide_eq_true_eq] at h5
  obtain ⟨⟨⟨⟨⟨g1, g2⟩, g3⟩, g4⟩, g5⟩, g6⟩ := h5
  simp [Cond.before, Cond.holds, Cond.value, h1, h2, h3, h4, g1, g2, g3, g4, g5, g6]
def isCode : Jvm.Cond → Bool
  | .code _ _ _ _ => true
  | _ => false
theorem all_split {L : List Jvm.Cond} {P : Jvm.Cond → Bool} (h1 : L.all (fun c => isCode c || P c) = true) (h2 : ∀ c ∈ L.filter isCode, P c = true) : L.all P = true := by
  refine List.all_eq_true.mpr fun c hc => ?_
  have h := List.all_eq_true.mp h1 c hc
  rcases Bool.eq_false_or_eq_true (isCode c) with hi | hi
  · exact h2 c (List.mem_filter.mpr ⟨hc, hi⟩)
  · simpa [hi] using h
set_option maxRecDepth 65536 in
theorem w_c0 : (Jvm.Cond.code x code maxLocals ret).before args0 about1 = true := code_word (m := ⟨1, 2⟩) (meth := k1m2) (c := k1c2) (by decide +kernel) rfl rfl rfl (by decide +kernel)
set_option maxRecDepth 65536 in
theorem w_c1 : (Jvm.Cond.code ({ cls := "com/example/caddisfly/caddisfly/SyntaxWrapPinLaw", name := "draw", desc := "(IC)Ljava/lang/String;" } : Jvm.MethodName) method_2_code (3 : Nat) (Option.some (Jvm.ClassFile.FieldType.object "java/lang/String"))).before args0 about1 = true := code_word (m := ⟨1, 1⟩) (meth := k1m1) (c := k1c1) (by decide +kernel) rfl rfl rfl (by decide +kernel)
set_option maxRecDepth 65536 in
theorem w_c2 : (Jvm.Cond.code ({ cls := "java/lang/String", name := "<init>", desc := "([C)V" } : Jvm.MethodName) jdk_42_method_3_code (2 : Nat) (Option.none : Option Jvm.ClassFile.FieldType)).before args0 about1 = true := code_word (m := ⟨7, 1⟩) (meth := k7m1) (c := k7c1) (by decide +kernel) rfl rfl rfl (by decide +kernel)
set_option maxRecDepth 65536 in
theorem w_c3 : (Jvm.Cond.code ({ cls := "java/lang/String", name := "<init>", desc := "([CIILjava/lang/Void;)V" } : Jvm.MethodName) jdk_42_method_149_code (6 : Nat) (Option.none : Option Jvm.ClassFile.FieldType)).before args0 about1 = true := code_word (m := ⟨7, 7⟩) (meth := k7m7) (c := k7c7) (by decide +kernel) rfl rfl rfl (by decide +kernel)
set_option maxRecDepth 65536 in
theorem w_c4 : (Jvm.Cond.code ({ cls := "java/lang/Object", name := "<init>", desc := "()V" } : Jvm.MethodName) object_method_1_code (1 : Nat) (Option.none : Option Jvm.ClassFile.FieldType)).before args0 about1 = true := code_word (m := ⟨0, 0⟩) (meth := k0m0) (c := k0c0) (by decide +kernel) rfl rfl rfl (by decide +kernel)
set_option maxRecDepth 65536 in
theorem w_c5 : (Jvm.Cond.code ({ cls := "java/util/ArrayList", name := "<init>", desc := "()V" } : Jvm.MethodName) jdk_38_method_2_code (1 : Nat) (Option.none : Option Jvm.ClassFile.FieldType)).before args0 about1 = true := code_word (m := ⟨16, 0⟩) (meth := k16m0) (c := k16c0) (by decide +kernel) rfl rfl rfl (by decide +kernel)
set_option maxRecDepth 65536 in
theorem w_c6 : (Jvm.Cond.code ({ cls := "java/util/AbstractList", name := "<init>", desc := "()V" } : Jvm.MethodName) jdk_39_method_1_code (1 : Nat) (Option.none : Option Jvm.ClassFile.FieldType)).before args0 about1 = true := code_word (m := ⟨13, 0⟩) (meth := k13m0) (c := k13c0) (by decide +kernel) rfl rfl rfl (by decide +kernel)
set_option maxRecDepth 65536 in
theorem w_c7 : (Jvm.Cond.code ({ cls := "java/util/AbstractCollection", name := "<init>", desc := "()V" } : Jvm.MethodName) jdk_22_method_1_code (1 : Nat) (Option.none : Option Jvm.ClassFile.FieldType)).before args0 about1 = true := code_word (m := ⟨10, 0⟩) (meth := k10m0) (c := k10c0) (by decide +kernel) rfl rfl rfl (by decide +kernel)
set_option maxRecDepth 65536 in
theorem w_c8 : (Jvm.Cond.code ({ cls := "com/example/caddisfly/caddisfly/Syntax", name := "wrap", desc := "(Ljava/lang/String;Ljava/util/List;)Ljava/lang/String;" } : Jvm.MethodName) prog_11_method_7_code (8 : Nat) (Option.some (Jvm.ClassFile.FieldType.object "java/lang/String"))).before args0 about1 = true := code_word (m := ⟨18, 0⟩) (meth := k18m0) (c := k18c0) (by decide +kernel) rfl rfl rfl (by decide +kernel)
set_option maxRecDepth 65536 in
theorem w_c9 : (Jvm.Cond.code ({ cls := "java/lang/String", name := "length", desc := "()I" } : Jvm.MethodName) jdk_42_method_54_code (1 : Nat) (Option.some Jvm.ClassFile.FieldType.int)).before args0 about1 = true := code_word (m := ⟨7, 3⟩) (meth := k7m3) (c := k7c3) (by decide +kernel) rfl rfl rfl (by decide +kernel)
set_option maxRecDepth 65536 in
theorem w_c10 : (Jvm.Cond.code ({ cls := "java/lang/String", name := "coder", desc := "()B" } : Jvm.MethodName) jdk_42_method_152_code (1 : Nat) (Option.some Jvm.ClassFile.FieldType.byte)).before args0 about1 = true := code_word (m := ⟨7, 10⟩) (meth := k7m10) (c := k7c10) (by decide +kernel) rfl rfl rfl (by decide +kernel)
set_option maxRecDepth 65536 in
theorem w_c11 : (Jvm.Cond.code ({ cls := "java/lang/String", name := "repeat", desc := "(I)Ljava/lang/String;" } : Jvm.MethodName) jdk_42_method_145_code (5 : Nat) (Option.some (Jvm.ClassFile.FieldType.object "java/lang/String"))).before args0 about1 = true := code_word (m := ⟨7, 5⟩) (meth := k7m5) (c := k7c5) (by decide +kernel) rfl rfl rfl (by decide +kernel)
set_option maxRecDepth 65536 in
theorem w_c12 : (Jvm.Cond.code ({ cls := "java/lang/StringBuilder", name := "<init>", desc := "(Ljava/lang/String;)V" } : Jvm.MethodName) jdk_67_method_3_code (2 : Nat) (Option.none : Option Jvm.ClassFile.FieldType)).before args0 about1 = true := code_word (m := ⟨21, 1⟩) (meth := k21m1) (c := k21c1) (by decide +kernel) rfl rfl rfl (by decide +kernel)
set_option maxRecDepth 65536 in
theorem w_c13 : (Jvm.Cond.code ({ cls := "java/lang/AbstractStringBuilder", name := "<init>", desc := "(Ljava/lang/String;)V" } : Jvm.MethodName) jdk_68_method_3_code (5 : Nat) (Option.none : Option Jvm.ClassFile.FieldType)).before args0 about1 = true := code_word (m := ⟨20, 1⟩) (meth := k20m1) (c := k20c1) (by decide +kernel) rfl rfl rfl (by decide +kernel)
set_option maxRecDepth 65536 in
theorem w_c14 : (Jvm.Cond.code ({ cls := "java/lang/StringBuilder", name := "append", desc := "(Ljava/lang/String;)Ljava/lang/AbstractStringBuilder;" } : Jvm.MethodName) jdk_67_method_80_code (2 : Nat) (Option.some (Jvm.ClassFile.FieldType.object "java/lang/AbstractStringBuilder"))).before args0 about1 = true := code_word (m := ⟨21, 5⟩) (meth := k21m5) (c := k21c5) (by decide +kernel) rfl rfl rfl (by decide +kernel)
set_option maxRecDepth 65536 in
theorem w_c15 : (Jvm.Cond.code ({ cls := "java/lang/StringBuilder", name := "append", desc := "(Ljava/lang/String;)Ljava/lang/StringBuilder;" } : Jvm.MethodName) jdk_67_method_7_code (2 : Nat) (Option.some (Jvm.ClassFile.FieldType.object "java/lang/StringBuilder"))).before args0 about1 = true := code_word (m := ⟨21, 2⟩) (meth := k21m2) (c := k21c2) (by decide +kernel) rfl rfl rfl (by decide +kernel)
set_option maxRecDepth 65536 in
theorem w_c16 : (Jvm.Cond.code ({ cls := "java/lang/AbstractStringBuilder", name := "append", desc := "(Ljava/lang/String;)Ljava/lang/AbstractStringBuilder;" } : Jvm.MethodName) jdk_68_method_22_code (3 : Nat) (Option.some (Jvm.ClassFile.FieldType.object "java/lang/AbstractStringBuilder"))).before args0 about1 = true := code_word (m := ⟨20, 5⟩) (meth := k20m5) (c := k20c5) (by decide +kernel) rfl rfl rfl (by decide +kernel)
set_option maxRecDepth 65536 in
theorem w_c17 : (Jvm.Cond.code ({ cls := "java/lang/AbstractStringBuilder", name := "ensureCapacityInternal", desc := "(I)V" } : Jvm.MethodName) jdk_68_method_9_code (3 : Nat) (Option.none : Option Jvm.ClassFile.FieldType)).before args0 about1 = true := code_word (m := ⟨20, 3⟩) (meth := k20m3) (c := k20c3) (by decide +kernel) rfl rfl rfl (by decide +kernel)
set_option maxRecDepth 65536 in
theorem w_c18 : (Jvm.Cond.code ({ cls := "java/lang/AbstractStringBuilder", name := "putStringAt", desc := "(ILjava/lang/String;)V" } : Jvm.MethodName) jdk_68_method_73_code (3 : Nat) (Option.none : Option Jvm.ClassFile.FieldType)).before args0 about1 = true := code_word (m := ⟨20, 10⟩) (meth := k20m10) (c := k20c10) (by decide +kernel) rfl rfl rfl (by decide +kernel)
set_option maxRecDepth 65536 in
theorem w_c19 : (Jvm.Cond.code ({ cls := "java/lang/AbstractStringBuilder", name := "inflateIfNeededFor", desc := "(Ljava/lang/String;)V" } : Jvm.MethodName) jdk_68_method_71_code (2 : Nat) (Option.none : Option Jvm.ClassFile.FieldType)).before args0 about1 = true := code_word (m := ⟨20, 9⟩) (meth := k20m9) (c := k20c9) (by decide +kernel) rfl rfl rfl (by decide +kernel)
set_option maxRecDepth 65536 in
theorem w_c20 : (Jvm.Cond.code ({ cls := "java/lang/String", name := "getBytes", desc := "([BIB)V" } : Jvm.MethodName) jdk_42_method_147_code (4 : Nat) (Option.none : Option Jvm.ClassFile.FieldType)).before args0 about1 = true := code_word (m := ⟨7, 6⟩) (meth := k7m6) (c := k7c6) (by decide +kernel) rfl rfl rfl (by decide +kernel)
set_option maxRecDepth 65536 in
theorem w_c21 : (Jvm.Cond.code ({ cls := "java/util/ArrayList", name := "iterator", desc := "()Ljava/util/Iterator;" } : Jvm.MethodName) jdk_38_method_55_code (1 : Nat) (Option.some (Jvm.ClassFile.FieldType.object "java/util/Iterator"))).before args0 about1 = true := code_word (m := ⟨16, 5⟩) (meth := k16m5) (c := k16c5) (by decide +kernel) rfl rfl rfl (by decide +kernel)
set_option maxRecDepth 65536 in
theorem w_c22 : (Jvm.Cond.code ({ cls := "java/util/ArrayList$Itr", name := "<init>", desc := "(Ljava/util/ArrayList;)V" } : Jvm.MethodName) jdk_49_method_1_code (2 : Nat) (Option.none : Option Jvm.ClassFile.FieldType)).before args0 about1 = true := code_word (m := ⟨24, 0⟩) (meth := k24m0) (c := k24c0) (by decide +kernel) rfl rfl rfl (by decide +kernel)
set_option maxRecDepth 65536 in
theorem w_c23 : (Jvm.Cond.code ({ cls := "java/util/ArrayList$Itr", name := "hasNext", desc := "()Z" } : Jvm.MethodName) jdk_49_method_2_code (1 : Nat) (Option.some Jvm.ClassFile.FieldType.boolean)).before args0 about1 = true := code_word (m := ⟨24, 1⟩) (meth := k24m1) (c := k24c1) (by decide +kernel) rfl rfl rfl (by decide +kernel)
set_option maxRecDepth 65536 in
theorem w_c24 : (Jvm.Cond.code ({ cls := "java/lang/StringBuilder", name := "append", desc := "(C)Ljava/lang/StringBuilder;" } : Jvm.MethodName) jdk_67_method_14_code (2 : Nat) (Option.some (Jvm.ClassFile.FieldType.object "java/lang/StringBuilder"))).before args0 about1 = true := code_word (m := ⟨21, 3⟩) (meth := k21m3) (c := k21c3) (by decide +kernel) rfl rfl rfl (by decide +kernel)
set_option maxRecDepth 65536 in
theorem w_c25 : (Jvm.Cond.code ({ cls := "java/lang/AbstractStringBuilder", name := "append", desc := "(C)Ljava/lang/AbstractStringBuilder;" } : Jvm.MethodName) jdk_68_method_31_code (2 : Nat) (Option.some (Jvm.ClassFile.FieldType.object "java/lang/AbstractStringBuilder"))).before args0 about1 = true := code_word (m := ⟨20, 6⟩) (meth := k20m6) (c := k20c6) (by decide +kernel) rfl rfl rfl (by decide +kernel)
set_option maxRecDepth 65536 in
theorem w_c26 : (Jvm.Cond.code ({ cls := "java/lang/AbstractStringBuilder", name := "isLatin1", desc := "()Z" } : Jvm.MethodName) jdk_68_method_68_code (1 : Nat) (Option.some Jvm.ClassFile.FieldType.boolean)).before args0 about1 = true := code_word (m := ⟨20, 8⟩) (meth := k20m8) (c := k20c8) (by decide +kernel) rfl rfl rfl (by decide +kernel)
set_option maxRecDepth 65536 in
theorem w_c27 : (Jvm.Cond.code ({ cls := "java/lang/StringLatin1", name := "canEncode", desc := "(C)Z" } : Jvm.MethodName) jdk_43_method_3_code (1 : Nat) (Option.some Jvm.ClassFile.FieldType.boolean)).before args0 about1 = true := code_word (m := ⟨25, 2⟩) (meth := k25m2) (c := k25c2) (by decide +kernel) rfl rfl rfl (by decide +kernel)
set_option maxRecDepth 65536 in
theorem w_c28 : (Jvm.Cond.code ({ cls := "java/lang/StringBuilder", name := "toString", desc := "()Ljava/lang/String;" } : Jvm.MethodName) jdk_67_method_42_code (1 : Nat) (Option.some (Jvm.ClassFile.FieldType.object "java/lang/String"))).before args0 about1 = true := code_word (m := ⟨21, 4⟩) (meth := k21m4) (c := k21c4) (by decide +kernel) rfl rfl rfl (by decide +kernel)
set_option maxRecDepth 65536 in
theorem w_c29 : (Jvm.Cond.code ({ cls := "java/lang/String", name := "<init>", desc := "(Ljava/lang/StringBuilder;)V" } : Jvm.MethodName) jdk_42_method_53_code (2 : Nat) (Option.none : Option Jvm.ClassFile.FieldType)).before args0 about1 = true := code_word (m := ⟨7, 2⟩) (meth := k7m2) (c := k7c2) (by decide +kernel) rfl rfl rfl (by decide +kernel)
set_option maxRecDepth 65536 in
theorem w_c30 : (Jvm.Cond.code ({ cls := "java/lang/String", name := "<init>", desc := "(Ljava/lang/AbstractStringBuilder;Ljava/lang/Void;)V" } : Jvm.MethodName) jdk_42_method_150_code (5 : Nat) (Option.none : Option Jvm.ClassFile.FieldType)).before args0 about1 = true := code_word (m := ⟨7, 8⟩) (meth := k7m8) (c := k7c8) (by decide +kernel) rfl rfl rfl (by decide +kernel)
set_option maxRecDepth 65536 in
theorem w_c31 : (Jvm.Cond.code ({ cls := "java/lang/AbstractStringBuilder", name := "getValue", desc := "()[B" } : Jvm.MethodName) jdk_68_method_64_code (1 : Nat) (Option.some (Jvm.ClassFile.FieldType.array Jvm.ClassFile.FieldType.byte))).before args0 about1 = true := code_word (m := ⟨20, 7⟩) (meth := k20m7) (c := k20c7) (by decide +kernel) rfl rfl rfl (by decide +kernel)
set_option maxRecDepth 65536 in
theorem w_c32 : (Jvm.Cond.code ({ cls := "java/lang/StringBuilder", name := "length", desc := "()I" } : Jvm.MethodName) jdk_67_method_93_code (1 : Nat) (Option.some Jvm.ClassFile.FieldType.int)).before args0 about1 = true := code_word (m := ⟨21, 6⟩) (meth := k21m6) (c := k21c6) (by decide +kernel) rfl rfl rfl (by decide +kernel)
set_option maxRecDepth 65536 in
theorem w_c33 : (Jvm.Cond.code ({ cls := "java/lang/AbstractStringBuilder", name := "length", desc := "()I" } : Jvm.MethodName) jdk_68_method_6_code (1 : Nat) (Option.some Jvm.ClassFile.FieldType.int)).before args0 about1 = true := code_word (m := ⟨20, 2⟩) (meth := k20m2) (c := k20c2) (by decide +kernel) rfl rfl rfl (by decide +kernel)
set_option maxRecDepth 65536 in
theorem w_c34 : (Jvm.Cond.code ({ cls := "java/util/Arrays", name := "copyOfRange", desc := "([BII)[B" } : Jvm.MethodName) jdk_65_method_132_code (3 : Nat) (Option.some (Jvm.ClassFile.FieldType.array Jvm.ClassFile.FieldType.byte))).before args0 about1 = true := code_word (m := ⟨26, 4⟩) (meth := k26m4) (c := k26c4) (by decide +kernel) rfl rfl rfl (by decide +kernel)
set_option maxRecDepth 65536 in
theorem w_c35 : (Jvm.Cond.code ({ cls := "java/util/Arrays", name := "copyOfRangeByte", desc := "([BII)[B" } : Jvm.MethodName) jdk_65_method_133_code (5 : Nat) (Option.some (Jvm.ClassFile.FieldType.array Jvm.ClassFile.FieldType.byte))).before args0 about1 = true := code_word (m := ⟨26, 5⟩) (meth := k26m5) (c := k26c5) (by decide +kernel) rfl rfl rfl (by decide +kernel)
set_option maxRecDepth 65536 in
theorem w_c36 : (Jvm.Cond.code ({ cls := "java/util/Arrays", name := "checkLength", desc := "(II)V" } : Jvm.MethodName) jdk_65_method_131_code (2 : Nat) (Option.none : Option Jvm.ClassFile.FieldType)).before args0 about1 = true := code_word (m := ⟨26, 3⟩) (meth := k26m3) (c := k26c3) (by decide +kernel) rfl rfl rfl (by decide +kernel)
set_option maxRecDepth 65536 in
theorem w_c37 : (Jvm.Cond.code ({ cls := "java/lang/Math", name := "min", desc := "(II)I" } : Jvm.MethodName) jdk_29_method_69_code (2 : Nat) (Option.some Jvm.ClassFile.FieldType.int)).before args0 about1 = true := code_word (m := ⟨27, 2⟩) (meth := k27m2) (c := k27c2) (by decide +kernel) rfl rfl rfl (by decide +kernel)
set_option maxRecDepth 65536 in
theorem w_c38 : (Jvm.Cond.code ({ cls := "java/lang/String", name := "charAt", desc := "(I)C" } : Jvm.MethodName) jdk_42_method_56_code (2 : Nat) (Option.some Jvm.ClassFile.FieldType.char)).before args0 about1 = true := code_word (m := ⟨7, 4⟩) (meth := k7m4) (c := k7c4) (by decide +kernel) rfl rfl rfl (by decide +kernel)
set_option maxRecDepth 65536 in
theorem w_c39 : (Jvm.Cond.code ({ cls := "java/lang/String", name := "isLatin1", desc := "()Z" } : Jvm.MethodName) jdk_42_method_154_code (1 : Nat) (Option.some Jvm.ClassFile.FieldType.boolean)).before args0 about1 = true := code_word (m := ⟨7, 11⟩) (meth := k7m11) (c := k7c11) (by decide +kernel) rfl rfl rfl (by decide +kernel)
set_option maxRecDepth 65536 in
theorem w_c40 : (Jvm.Cond.code ({ cls := "java/lang/StringLatin1", name := "charAt", desc := "([BI)C" } : Jvm.MethodName) jdk_43_method_2_code (2 : Nat) (Option.some Jvm.ClassFile.FieldType.char)).before args0 about1 = true := code_word (m := ⟨25, 1⟩) (meth := k25m1) (c := k25c1) (by decide +kernel) rfl rfl rfl (by decide +kernel)
set_option maxRecDepth 65536 in
theorem w_c41 : (Jvm.Cond.code ({ cls := "java/lang/String", name := "checkIndex", desc := "(II)V" } : Jvm.MethodName) jdk_42_method_155_code (2 : Nat) (Option.none : Option Jvm.ClassFile.FieldType)).before args0 about1 = true := code_word (m := ⟨7, 12⟩) (meth := k7m12) (c := k7c12) (by decide +kernel) rfl rfl rfl (by decide +kernel)
set_option maxRecDepth 65536 in
theorem w_c42 : (Jvm.Cond.code ({ cls := "jdk/internal/util/Preconditions", name := "checkIndex", desc := "(IILjava/util/function/BiFunction;)I" } : Jvm.MethodName) jdk_41_method_11_code (3 : Nat) (Option.some Jvm.ClassFile.FieldType.int)).before args0 about1 = true := code_word (m := ⟨28, 1⟩) (meth := k28m1) (c := k28c1) (by decide +kernel) rfl rfl rfl (by decide +kernel)
set_option maxRecDepth 65536 in
theorem w_c43 : (Jvm.Cond.code ({ cls := "java/lang/StringUTF16", name := "compress", desc := "([CII)[B" } : Jvm.MethodName) jdk_52_method_16_code (6 : Nat) (Option.some (Jvm.ClassFile.FieldType.array Jvm.ClassFile.FieldType.byte))).before args0 about1 = true := code_word (m := ⟨29, 2⟩) (meth := k29m2) (c := k29c2) (by decide +kernel) rfl rfl rfl (by decide +kernel)
set_option maxRecDepth 65536 in
theorem w_c44 : (Jvm.Cond.code ({ cls := "java/lang/StringUTF16", name := "compress", desc := "([CI[BII)I" } : Jvm.MethodName) jdk_52_method_21_code (7 : Nat) (Option.some Jvm.ClassFile.FieldType.int)).before args0 about1 = true := code_word (m := ⟨29, 3⟩) (meth := k29m3) (c := k29c3) (by decide +kernel) rfl rfl rfl (by decide +kernel)
set_option maxRecDepth 65536 in
theorem w_c45 : (Jvm.Cond.code ({ cls := "java/lang/StringUTF16", name := "coderFromArrayLen", desc := "([BI)B" } : Jvm.MethodName) jdk_52_method_15_code (2 : Nat) (Option.some Jvm.ClassFile.FieldType.byte)).before args0 about1 = true := code_word (m := ⟨29, 1⟩) (meth := k29m1) (c := k29c1) (by decide +kernel) rfl rfl rfl (by decide +kernel)
set_option maxRecDepth 65536 in
theorem w_c46 : (Jvm.Cond.code ({ cls := "java/util/Arrays", name := "fill", desc := "([BB)V" } : Jvm.MethodName) jdk_65_method_109_code (4 : Nat) (Option.none : Option Jvm.ClassFile.FieldType)).before args0 about1 = true := code_word (m := ⟨26, 1⟩) (meth := k26m1) (c := k26c1) (by decide +kernel) rfl rfl rfl (by decide +kernel)
set_option maxRecDepth 65536 in
theorem w_c47 : (Jvm.Cond.code ({ cls := "java/lang/String", name := "<init>", desc := "([BB)V" } : Jvm.MethodName) jdk_42_method_151_code (3 : Nat) (Option.none : Option Jvm.ClassFile.FieldType)).before args0 about1 = true := code_word (m := ⟨7, 9⟩) (meth := k7m9) (c := k7c9) (by decide +kernel) rfl rfl rfl (by decide +kernel)
set_option maxRecDepth 65536 in
theorem w_c48 : (Jvm.Cond.code ({ cls := "java/util/ArrayList", name := "add", desc := "(Ljava/lang/Object;)Z" } : Jvm.MethodName) jdk_38_method_25_code (2 : Nat) (Option.some Jvm.ClassFile.FieldType.boolean)).before args0 about1 = true := code_word (m := ⟨16, 4⟩) (meth := k16m4) (c := k16c4) (by decide +kernel) rfl rfl rfl (by decide +kernel)
set_option maxRecDepth 65536 in
theorem w_c49 : (Jvm.Cond.code ({ cls := "java/util/ArrayList", name := "add", desc := "(Ljava/lang/Object;[Ljava/lang/Object;I)V" } : Jvm.MethodName) jdk_38_method_24_code (4 : Nat) (Option.none : Option Jvm.ClassFile.FieldType)).before args0 about1 = true := code_word (m := ⟨16, 3⟩) (meth := k16m3) (c := k16c3) (by decide +kernel) rfl rfl rfl (by decide +kernel)
set_option maxRecDepth 65536 in
theorem w_c50 : (Jvm.Cond.code ({ cls := "java/util/ArrayList", name := "grow", desc := "()[Ljava/lang/Object;" } : Jvm.MethodName) jdk_38_method_7_code (1 : Nat) (Option.some (Jvm.ClassFile.FieldType.array (Jvm.ClassFile.FieldType.object "java/lang/Object")))).before args0 about1 = true := code_word (m := ⟨16, 2⟩) (meth := k16m2) (c := k16c2) (by decide +kernel) rfl rfl rfl (by decide +kernel)
set_option maxRecDepth 65536 in
theorem w_c51 : (Jvm.Cond.code ({ cls := "java/util/ArrayList", name := "grow", desc := "(I)[Ljava/lang/Object;" } : Jvm.MethodName) jdk_38_method_6_code (4 : Nat) (Option.some (Jvm.ClassFile.FieldType.array (Jvm.ClassFile.FieldType.object "java/lang/Object")))).before args0 about1 = true := code_word (m := ⟨16, 1⟩) (meth := k16m1) (c := k16c1) (by decide +kernel) rfl rfl rfl (by decide +kernel)
set_option maxRecDepth 65536 in
theorem w_c52 : (Jvm.Cond.code ({ cls := "java/lang/Math", name := "max", desc := "(II)I" } : Jvm.MethodName) jdk_29_method_65_code (2 : Nat) (Option.some Jvm.ClassFile.FieldType.int)).before args0 about1 = true := code_word (m := ⟨27, 1⟩) (meth := k27m1) (c := k27c1) (by decide +kernel) rfl rfl rfl (by decide +kernel)
set_option maxRecDepth 65536 in
theorem w_c53 : (Jvm.Cond.code ({ cls := "java/util/ArrayList$Itr", name := "next", desc := "()Ljava/lang/Object;" } : Jvm.MethodName) jdk_49_method_3_code (3 : Nat) (Option.some (Jvm.ClassFile.FieldType.object "java/lang/Object"))).before args0 about1 = true := code_word (m := ⟨24, 2⟩) (meth := k24m2) (c := k24c2) (by decide +kernel) rfl rfl rfl (by decide +kernel)
set_option maxRecDepth 65536 in
theorem w_c54 : (Jvm.Cond.code ({ cls := "java/util/ArrayList$Itr", name := "checkForComodification", desc := "()V" } : Jvm.MethodName) jdk_49_method_6_code (1 : Nat) (Option.none : Option Jvm.ClassFile.FieldType)).before args0 about1 = true := code_word (m := ⟨24, 3⟩) (meth := k24m3) (c := k24c3) (by decide +kernel) rfl rfl rfl (by decide +kernel)
set_option maxRecDepth 65536 in
theorem w_c55 : (Jvm.Cond.code ({ cls := "java/lang/AbstractStringBuilder", name := "newCapacity", desc := "(I)I" } : Jvm.MethodName) jdk_68_method_10_code (6 : Nat) (Option.some Jvm.ClassFile.FieldType.int)).before args0 about1 = true := code_word (m := ⟨20, 4⟩) (meth := k20m4) (c := k20c4) (by decide +kernel) rfl rfl rfl (by decide +kernel)
set_option maxRecDepth 65536 in
theorem w_c56 : (Jvm.Cond.code ({ cls := "jdk/internal/util/ArraysSupport", name := "newLength", desc := "(III)I" } : Jvm.MethodName) jdk_48_method_27_code (4 : Nat) (Option.some Jvm.ClassFile.FieldType.int)).before args0 about1 = true := code_word (m := ⟨30, 1⟩) (meth := k30m1) (c := k30c1) (by decide +kernel) rfl rfl rfl (by decide +kernel)
set_option maxRecDepth 65536 in
theorem w_c57 : (Jvm.Cond.code ({ cls := "java/util/Arrays", name := "copyOf", desc := "([BI)[B" } : Jvm.MethodName) jdk_65_method_121_code (3 : Nat) (Option.some (Jvm.ClassFile.FieldType.array Jvm.ClassFile.FieldType.byte))).before args0 about1 = true := code_word (m := ⟨26, 2⟩) (meth := k26m2) (c := k26c2) (by decide +kernel) rfl rfl rfl (by decide +kernel)
def codes1 : List Jvm.Cond := [Jvm.Cond.code x code maxLocals ret, Jvm.Cond.code ({ cls := "com/example/caddisfly/caddisfly/SyntaxWrapPinLaw", name := "draw", desc := "(IC)Ljava/lang/String;" } : Jvm.MethodName) method_2_code (3 : Nat) (Option.some (Jvm.ClassFile.FieldType.object "java/lang/String")), Jvm.Cond.code ({ cls := "java/lang/String", name := "<init>", desc := "([C)V" } : Jvm.MethodName) jdk_42_method_3_code (2 : Nat) (Option.none : Option Jvm.ClassFile.FieldType), Jvm.Cond.code ({ cls := "java/lang/String", name := "<init>", desc := "([CIILjava/lang/Void;)V" } : Jvm.MethodName) jdk_42_method_149_code (6 : Nat) (Option.none : Option Jvm.ClassFile.FieldType), Jvm.Cond.code ({ cls := "java/lang/Object", name := "<init>", desc := "()V" } : Jvm.MethodName) object_method_1_code (1 : Nat) (Option.none : Option Jvm.ClassFile.FieldType), Jvm.Cond.code ({ cls := "java/util/ArrayList", name := "<init>", desc := "()V" } : Jvm.MethodName) jdk_38_method_2_code (1 : Nat) (Option.none : Option Jvm.ClassFile.FieldType), Jvm.Cond.code ({ cls := "java/util/AbstractList", name := "<init>", desc := "()V" } : Jvm.MethodName) jdk_39_method_1_code (1 : Nat) (Option.none : Option Jvm.ClassFile.FieldType), Jvm.Cond.code ({ cls := "java/util/AbstractCollection", name := "<init>", desc := "()V" } : Jvm.MethodName) jdk_22_method_1_code (1 : Nat) (Option.none : Option Jvm.ClassFile.FieldType), Jvm.Cond.code ({ cls := "com/example/caddisfly/caddisfly/Syntax", name := "wrap", desc := "(Ljava/lang/String;Ljava/util/List;)Ljava/lang/String;" } : Jvm.MethodName) prog_11_method_7_code (8 : Nat) (Option.some (Jvm.ClassFile.FieldType.object "java/lang/String")), Jvm.Cond.code ({ cls := "java/lang/String", name := "length", desc := "()I" } : Jvm.MethodName) jdk_42_method_54_code (1 : Nat) (Option.some Jvm.ClassFile.FieldType.int), Jvm.Cond.code ({ cls := "java/lang/String", name := "coder", desc := "()B" } : Jvm.MethodName) jdk_42_method_152_code (1 : Nat) (Option.some Jvm.ClassFile.FieldType.byte), Jvm.Cond.code ({ cls := "java/lang/String", name := "repeat", desc := "(I)Ljava/lang/String;" } : Jvm.MethodName) jdk_42_method_145_code (5 : Nat) (Option.some (Jvm.ClassFile.FieldType.object "java/lang/String")), Jvm.Cond.code ({ cls := "java/lang/StringBuilder", name := "<init>", desc := "(Ljava/lang/String;)V" } : Jvm.MethodName) jdk_67_method_3_code (2 : Nat) (Option.none : Option Jvm.ClassFile.FieldType), Jvm.Cond.code ({ cls := "java/lang/AbstractStringBuilder", name := "<init>", desc := "(Ljava/lang/String;)V" } : Jvm.MethodName) jdk_68_method_3_code (5 : Nat) (Option.none : Option Jvm.ClassFile.FieldType), Jvm.Cond.code ({ cls := "java/lang/StringBuilder", name := "append", desc := "(Ljava/lang/String;)Ljava/lang/AbstractStringBuilder;" } : Jvm.MethodName) jdk_67_method_80_code (2 : Nat) (Option.some (Jvm.ClassFile.FieldType.object "java/lang/AbstractStringBuilder")), Jvm.Cond.code ({ cls := "java/lang/StringBuilder", name := "append", desc := "(Ljava/lang/String;)Ljava/lang/StringBuilder;" } : Jvm.MethodName) jdk_67_method_7_code (2 : Nat) (Option.some (Jvm.ClassFile.FieldType.object "java/lang/StringBuilder")), Jvm.Cond.code ({ cls := "java/lang/AbstractStringBuilder", name := "append", desc := "(Ljava/lang/String;)Ljava/lang/AbstractStringBuilder;" } : Jvm.MethodName) jdk_68_method_22_code (3 : Nat) (Option.some (Jvm.ClassFile.FieldType.object "java/lang/AbstractStringBuilder")), Jvm.Cond.code ({ cls := "java/lang/AbstractStringBuilder", name := "ensureCapacityInternal", desc := "(I)V" } : Jvm.MethodName) jdk_68_method_9_code (3 : Nat) (Option.none : Option Jvm.ClassFile.FieldType), Jvm.Cond.code ({ cls := "java/lang/AbstractStringBuilder", name := "putStringAt", desc := "(ILjava/lang/String;)V" } : Jvm.MethodName) jdk_68_method_73_code (3 : Nat) (Option.none : Option Jvm.ClassFile.FieldType), Jvm.Cond.code ({ cls := "java/lang/AbstractStringBuilder", name := "inflateIfNeededFor", desc := "(Ljava/lang/String;)V" } : Jvm.MethodName) jdk_68_method_71_code (2 : Nat) (Option.none : Option Jvm.ClassFile.FieldType), Jvm.Cond.code ({ cls := "java/lang/String", name := "getBytes", desc := "([BIB)V" } : Jvm.MethodName) jdk_42_method_147_code (4 : Nat) (Option.none : Option Jvm.ClassFile.FieldType), Jvm.Cond.code ({ cls := "java/util/ArrayList", name := "iterator", desc := "()Ljava/util/Iterator;" } : Jvm.MethodName) jdk_38_method_55_code (1 : Nat) (Option.some (Jvm.ClassFile.FieldType.object "java/util/Iterator")), Jvm.Cond.code ({ cls := "java/util/ArrayList$Itr", name := "<init>", desc := "(Ljava/util/ArrayList;)V" } : Jvm.MethodName) jdk_49_method_1_code (2 : Nat) (Option.none : Option Jvm.ClassFile.FieldType), Jvm.Cond.code ({ cls := "java/util/ArrayList$Itr", name := "hasNext", desc := "()Z" } : Jvm.MethodName) jdk_49_method_2_code (1 : Nat) (Option.some Jvm.ClassFile.FieldType.boolean), Jvm.Cond.code ({ cls := "java/lang/StringBuilder", name := "append", desc := "(C)Ljava/lang/StringBuilder;" } : Jvm.MethodName) jdk_67_method_14_code (2 : Nat) (Option.some (Jvm.ClassFile.FieldType.object "java/lang/StringBuilder")), Jvm.Cond.code ({ cls := "java/lang/AbstractStringBuilder", name := "append", desc := "(C)Ljava/lang/AbstractStringBuilder;" } : Jvm.MethodName) jdk_68_method_31_code (2 : Nat) (Option.some (Jvm.ClassFile.FieldType.object "java/lang/AbstractStringBuilder")), Jvm.Cond.code ({ cls := "java/lang/AbstractStringBuilder", name := "isLatin1", desc := "()Z" } : Jvm.MethodName) jdk_68_method_68_code (1 : Nat) (Option.some Jvm.ClassFile.FieldType.boolean), Jvm.Cond.code ({ cls := "java/lang/StringLatin1", name := "canEncode", desc := "(C)Z" } : Jvm.MethodName) jdk_43_method_3_code (1 : Nat) (Option.some Jvm.ClassFile.FieldType.boolean), Jvm.Cond.code ({ cls := "java/lang/StringBuilder", name := "toString", desc := "()Ljava/lang/String;" } : Jvm.MethodName) jdk_67_method_42_code (1 : Nat) (Option.some (Jvm.ClassFile.FieldType.object "java/lang/String")), Jvm.Cond.code ({ cls := "java/lang/String", name := "<init>", desc := "(Ljava/lang/StringBuilder;)V" } : Jvm.MethodName) jdk_42_method_53_code (2 : Nat) (Option.none : Option Jvm.ClassFile.FieldType), Jvm.Cond.code ({ cls := "java/lang/String", name := "<init>", desc := "(Ljava/lang/AbstractStringBuilder;Ljava/lang/Void;)V" } : Jvm.MethodName) jdk_42_method_150_code (5 : Nat) (Option.none : Option Jvm.ClassFile.FieldType), Jvm.Cond.code ({ cls := "java/lang/AbstractStringBuilder", name := "getValue", desc := "()[B" } : Jvm.MethodName) jdk_68_method_64_code (1 : Nat) (Option.some (Jvm.ClassFile.FieldType.array Jvm.ClassFile.FieldType.byte)), Jvm.Cond.code ({ cls := "java/lang/StringBuilder", name := "length", desc := "()I" } : Jvm.MethodName) jdk_67_method_93_code (1 : Nat) (Option.some Jvm.ClassFile.FieldType.int), Jvm.Cond.code ({ cls := "java/lang/AbstractStringBuilder", name := "length", desc := "()I" } : Jvm.MethodName) jdk_68_method_6_code (1 : Nat) (Option.some Jvm.ClassFile.FieldType.int), Jvm.Cond.code ({ cls := "java/util/Arrays", name := "copyOfRange", desc := "([BII)[B" } : Jvm.MethodName) jdk_65_method_132_code (3 : Nat) (Option.some (Jvm.ClassFile.FieldType.array Jvm.ClassFile.FieldType.byte)), Jvm.Cond.code ({ cls := "java/util/Arrays", name := "copyOfRangeByte", desc := "([BII)[B" } : Jvm.MethodName) jdk_65_method_133_code (5 : Nat) (Option.some (Jvm.ClassFile.FieldType.array Jvm.ClassFile.FieldType.byte)), Jvm.Cond.code ({ cls := "java/util/Arrays", name := "checkLength", desc := "(II)V" } : Jvm.MethodName) jdk_65_method_131_code (2 : Nat) (Option.none : Option Jvm.ClassFile.FieldType), Jvm.Cond.code ({ cls := "java/lang/Math", name := "min", desc := "(II)I" } : Jvm.MethodName) jdk_29_method_69_code (2 : Nat) (Option.some Jvm.ClassFile.FieldType.int), Jvm.Cond.code ({ cls := "java/lang/String", name := "charAt", desc := "(I)C" } : Jvm.MethodName) jdk_42_method_56_code (2 : Nat) (Option.some Jvm.ClassFile.FieldType.char), Jvm.Cond.code ({ cls := "java/lang/String", name := "isLatin1", desc := "()Z" } : Jvm.MethodName) jdk_42_method_154_code (1 : Nat) (Option.some Jvm.ClassFile.FieldType.boolean), Jvm.Cond.code ({ cls := "java/lang/StringLatin1", name := "charAt", desc := "([BI)C" } : Jvm.MethodName) jdk_43_method_2_code (2 : Nat) (Option.some Jvm.ClassFile.FieldType.char), Jvm.Cond.code ({ cls := "java/lang/String", name := "checkIndex", desc := "(II)V" } : Jvm.MethodName) jdk_42_method_155_code (2 : Nat) (Option.none : Option Jvm.ClassFile.FieldType), Jvm.Cond.code ({ cls := "jdk/internal/util/Preconditions", name := "checkIndex", desc := "(IILjava/util/function/BiFunction;)I" } : Jvm.MethodName) jdk_41_method_11_code (3 : Nat) (Option.some Jvm.ClassFile.FieldType.int), Jvm.Cond.code ({ cls := "java/lang/StringUTF16", name := "compress", desc := "([CII)[B" } : Jvm.MethodName) jdk_52_method_16_code (6 : Nat) (Option.some (Jvm.ClassFile.FieldType.array Jvm.ClassFile.FieldType.byte)), Jvm.Cond.code ({ cls := "java/lang/StringUTF16", name := "compress", desc := "([CI[BII)I" } : Jvm.MethodName) jdk_52_method_21_code (7 : Nat) (Option.some Jvm.ClassFile.FieldType.int), Jvm.Cond.code ({ cls := "java/lang/StringUTF16", name := "coderFromArrayLen", desc := "([BI)B" } : Jvm.MethodName) jdk_52_method_15_code (2 : Nat) (Option.some Jvm.ClassFile.FieldType.byte), Jvm.Cond.code ({ cls := "java/util/Arrays", name := "fill", desc := "([BB)V" } : Jvm.MethodName) jdk_65_method_109_code (4 : Nat) (Option.none : Option Jvm.ClassFile.FieldType), Jvm.Cond.code ({ cls := "java/lang/String", name := "<init>", desc := "([BB)V" } : Jvm.MethodName) jdk_42_method_151_code (3 : Nat) (Option.none : Option Jvm.ClassFile.FieldType), Jvm.Cond.code ({ cls := "java/util/ArrayList", name := "add", desc := "(Ljava/lang/Object;)Z" } : Jvm.MethodName) jdk_38_method_25_code (2 : Nat) (Option.some Jvm.ClassFile.FieldType.boolean), Jvm.Cond.code ({ cls := "java/util/ArrayList", name := "add", desc := "(Ljava/lang/Object;[Ljava/lang/Object;I)V" } : Jvm.MethodName) jdk_38_method_24_code (4 : Nat) (Option.none : Option Jvm.ClassFile.FieldType), Jvm.Cond.code ({ cls := "java/util/ArrayList", name := "grow", desc := "()[Ljava/lang/Object;" } : Jvm.MethodName) jdk_38_method_7_code (1 : Nat) (Option.some (Jvm.ClassFile.FieldType.array (Jvm.ClassFile.FieldType.object "java/lang/Object"))), Jvm.Cond.code ({ cls := "java/util/ArrayList", name := "grow", desc := "(I)[Ljava/lang/Object;" } : Jvm.MethodName) jdk_38_method_6_code (4 : Nat) (Option.some (Jvm.ClassFile.FieldType.array (Jvm.ClassFile.FieldType.object "java/lang/Object"))), Jvm.Cond.code ({ cls := "java/lang/Math", name := "max", desc := "(II)I" } : Jvm.MethodName) jdk_29_method_65_code (2 : Nat) (Option.some Jvm.ClassFile.FieldType.int), Jvm.Cond.code ({ cls := "java/util/ArrayList$Itr", name := "next", desc := "()Ljava/lang/Object;" } : Jvm.MethodName) jdk_49_method_3_code (3 : Nat) (Option.some (Jvm.ClassFile.FieldType.object "java/lang/Object")), Jvm.Cond.code ({ cls := "java/util/ArrayList$Itr", name := "checkForComodification", desc := "()V" } : Jvm.MethodName) jdk_49_method_6_code (1 : Nat) (Option.none : Option Jvm.ClassFile.FieldType), Jvm.Cond.code ({ cls := "java/lang/AbstractStringBuilder", name := "newCapacity", desc := "(I)I" } : Jvm.MethodName) jdk_68_method_10_code (6 : Nat) (Option.some Jvm.ClassFile.FieldType.int), Jvm.Cond.code ({ cls := "jdk/internal/util/ArraysSupport", name := "newLength", desc := "(III)I" } : Jvm.MethodName) jdk_48_method_27_code (4 : Nat) (Option.some Jvm.ClassFile.FieldType.int), Jvm.Cond.code ({ cls := "java/util/Arrays", name := "copyOf", desc := "([BI)[B" } : Jvm.MethodName) jdk_65_method_121_code (3 : Nat) (Option.some (Jvm.ClassFile.FieldType.array Jvm.ClassFile.FieldType.byte))]
set_option maxRecDepth 65536 in
theorem codes_eq : words1.filter isCode = codes1 := rfl
theorem w_codes : ∀ c ∈ words1.filter isCode, c.before args0 about1 = true := by
  rw [codes_eq]
  intro c hc
  simp only [codes1, List.mem_cons, List.not_mem_nil, or_false] at hc
  rcases hc with rfl | rfl | rfl | rfl | rfl | rfl | rfl | rfl | rfl | rfl | rfl | rfl | rfl | rfl | rfl | rfl | rfl | rfl | rfl | rfl | rfl | rfl | rfl | rfl | rfl | rfl | rfl | rfl | rfl | rfl | rfl | rfl | rfl | rfl | rfl | rfl | rfl | rfl | rfl | rfl | rfl | rfl | rfl | rfl | rfl | rfl | rfl | rfl | rfl | rfl | rfl | rfl | rfl | rfl | rfl | rfl | rfl | rfl
  · exact w_c0
  · exact w_c1
  · exact w_c2
  · exact w_c3
  · exact w_c4
  · exact w_c5
  · exact w_c6
  · exact w_c7
  · exact w_c8
  · exact w_c9
  · exact w_c10
  · exact w_c11
  · exact w_c12
  · exact w_c13
  · exact w_c14
  · exact w_c15
  · exact w_c16
  · exact w_c17
  · exact w_c18
  · exact w_c19
  · exact w_c20
  · exact w_c21
  · exact w_c22
  · exact w_c23
  · exact w_c24
  · exact w_c25
  · exact w_c26
  · exact w_c27
  · exact w_c28
  · exact w_c29
  · exact w_c30
  · exact w_c31
  · exact w_c32
  · exact w_c33
  · exact w_c34
  · exact w_c35
  · exact w_c36
  · exact w_c37
  · exact w_c38
  · exact w_c39
  · exact w_c40
  · exact w_c41
  · exact w_c42
  · exact w_c43
  · exact w_c44
  · exact w_c45
  · exact w_c46
  · exact w_c47
  · exact w_c48
  · exact w_c49
  · exact w_c50
  · exact w_c51
  · exact w_c52
  · exact w_c53
  · exact w_c54
  · exact w_c55
  · exact w_c56
  · exact w_c57
set_option maxRecDepth 65536 in
theorem w_t1 : (words1.take 24).all (fun c => isCode c || c.before args0 about1) = true := by decide +kernel
set_option maxRecDepth 65536 in
theorem w_t2 : ((words1.drop 24).take 24).all (fun c => isCode c || c.before args0 about1) = true := by decide +kernel
set_option maxRecDepth 65536 in
theorem w_t3 : (((words1.drop 24).drop 24).take 24).all (fun c => isCode c || c.before args0 about1) = true := by decide +kernel
set_option maxRecDepth 65536 in
theorem w_t4 : ((((words1.drop 24).drop 24).drop 24).take 24).all (fun c => isCode c || c.before args0 about1) = true := by decide +kernel
set_option maxRecDepth 65536 in
theorem w_t5 : (((((words1.drop 24).drop 24).drop 24).drop 24).take 24).all (fun c => isCode c || c.before args0 about1) = true := by decide +kernel
set_option maxRecDepth 65536 in
theorem w_t6 : ((((((words1.drop 24).drop 24).drop 24).drop 24).drop 24).take 24).all (fun c => isCode c || c.before args0 about1) = true := by decide +kernel
set_option maxRecDepth 65536 in
theorem w_t7 : (((((((words1.drop 24).drop 24).drop 24).drop 24).drop 24).drop 24).take 24).all (fun c => isCode c || c.before args0 about1) = true := by decide +kernel
set_option maxRecDepth 65536 in
theorem w_t8 : ((((((((words1.drop 24).drop 24).drop 24).drop 24).drop 24).drop 24).drop 24).take 24).all (fun c => isCode c || c.before args0 about1) = true := by decide +kernel
set_option maxRecDepth 65536 in
theorem w_t9 : (((((((((words1.drop 24).drop 24).drop 24).drop 24).drop 24).drop 24).drop 24).drop 24).take 24).all (fun c => isCode c || c.before args0 about1) = true := by decide +kernel
set_option maxRecDepth 65536 in
theorem w_t10 : ((((((((((words1.drop 24).drop 24).drop 24).drop 24).drop 24).drop 24).drop 24).drop 24).drop 24).take 24).all (fun c => isCode c || c.before args0 about1) = true := by decide +kernel
set_option maxRecDepth 65536 in
theorem w_t11 : (((((((((((words1.drop 24).drop 24).drop 24).drop 24).drop 24).drop 24).drop 24).drop 24).drop 24).drop 24).take 24).all (fun c => isCode c || c.before args0 about1) = true := by decide +kernel
set_option maxRecDepth 65536 in
theorem w_t12 : ((((((((((((words1.drop 24).drop 24).drop 24).drop 24).drop 24).drop 24).drop 24).drop 24).drop 24).drop 24).drop 24).take 24).all (fun c => isCode c || c.before args0 about1) = true := by decide +kernel
set_option maxRecDepth 65536 in
theorem w_t13 : (((((((((((((words1.drop 24).drop 24).drop 24).drop 24).drop 24).drop 24).drop 24).drop 24).drop 24).drop 24).drop 24).drop 24).take 24).all (fun c => isCode c || c.before args0 about1) = true := by decide +kernel
set_option maxRecDepth 65536 in
theorem w_t14 : ((((((((((((((words1.drop 24).drop 24).drop 24).drop 24).drop 24).drop 24).drop 24).drop 24).drop 24).drop 24).drop 24).drop 24).drop 24).take 24).all (fun c => isCode c || c.before args0 about1) = true := by decide +kernel
set_option maxRecDepth 65536 in
theorem w_t15 : ((((((((((((((words1.drop 24).drop 24).drop 24).drop 24).drop 24).drop 24).drop 24).drop 24).drop 24).drop 24).drop 24).drop 24).drop 24).drop 24).all (fun c => isCode c || c.before args0 about1) = true := by decide +kernel
theorem w_tables : (allAtoms (Jvm.Cond.code x code maxLocals ret :: tables_1)).before args0 about1 = true := by
  rw [allAtoms_all]
  show words1.all (fun c => c.before args0 about1) = true
  refine all_split ?_ w_codes
  rw [← List.take_append_drop 24 words1, List.all_append, w_t1, ← List.take_append_drop 24 (words1.drop 24), List.all_append, w_t2, ← List.take_append_drop 24 ((words1.drop 24).drop 24), List.all_append, w_t3, ← List.take_append_drop 24 (((words1.drop 24).drop 24).drop 24), List.all_append, w_t4, ← List.take_append_drop 24 ((((words1.drop 24).drop 24).drop 24).drop 24), List.all_append, w_t5, ← List.take_append_drop 24 (((((words1.drop 24).drop 24).drop 24).drop 24).drop 24), List.all_append, w_t6, ← List.take_append_drop 24 ((((((words1.drop 24).drop 24).drop 24).drop 24).drop 24).drop 24), List.all_append, w_t7, ← List.take_append_drop 24 (((((((words1.drop 24).drop 24).drop 24).drop 24).drop 24).drop 24).drop 24), List.all_append, w_t8, ← List.take_append_drop 24 ((((((((words1.drop 24).drop 24).drop 24).drop 24).drop 24).drop 24).drop 24).drop 24), List.all_append, w_t9, ← List.take_append_drop 24 (((((((((words1.drop 24).drop 24).drop 24).drop 24).drop 24).drop 24).drop 24).drop 24).drop 24), List.all_append, w_t10, ← List.take_append_drop 24 ((((((((((words1.drop 24).drop 24).drop 24).drop 24).drop 24).drop 24).drop 24).drop 24).drop 24).drop 24), List.all_append, w_t11, ← List.take_append_drop 24 (((((((((((words1.drop 24).drop 24).drop 24).drop 24).drop 24).drop 24).drop 24).drop 24).drop 24).drop 24).drop 24), List.all_append, w_t12, ← List.take_append_drop 24 ((((((((((((words1.drop 24).drop 24).drop 24).drop 24).drop 24).drop 24).drop 24).drop 24).drop 24).drop 24).drop 24).drop 24), List.all_append, w_t13, ← List.take_append_drop 24 (((((((((((((words1.drop 24).drop 24).drop 24).drop 24).drop 24).drop 24).drop 24).drop 24).drop 24).drop 24).drop 24).drop 24).drop 24), List.all_append, w_t14, w_t15]
  rfl
set_option maxRecDepth 65536 in
theorem w_rest : rest_1_c.before args0 about1 = true := by decide +kernel
set_option maxRecDepth 65536 in
theorem w_case : (Jvm.Cond.and given_1 narrow_1).before args0 about1 = true := by decide +kernel
set_option maxRecDepth 65536 in
theorem w_consts : constsHeld consts_1 about1 := Jvm.Lit.constsHeldB_iff.mp (by decide +kernel)
theorem w_applies : (headSpec (Jvm.Cond.code x code maxLocals ret :: tables_1) room_1).applies x e0.platform about1 = true :=
  (Spec.applies_iff w_frames).mpr ⟨w_running, w_runnable, w_alone, w_named, w_hears, w_ripe, w_room, w_tables⟩
theorem atStart : AtStart classFile x code maxLocals ret World_1 tables_1 room_1 Calls_1 rest_1 Pre_1 launch0 p0 e0 about1 theMethod args0 below0 :=
  ⟨lists_1, trivial, launch0.admits_env _ _ _, launch0.least_env, fairChoices_fair.cas, fairChoices_fair.clock, w_frames, w_args, w_heap, w_applies, ⟨w_consts, trivial⟩, w_rest, w_case⟩
end start1
theorem witness_1 : WitnessClaimed_1 := ⟨start1.p0, start1.e0, start1.about1, start1.theMethod, start1.args0, start1.below0, start1.atStart⟩
end Jvm.Pilot.@@N@@
